/-
  The law FnParseChangesMatchesFormat (5): its walk.
-/
import Derived.Test.Qxb6620878aWz
import Derived.Laws.CopyOwn
import Derived.Deep.OwnRows
namespace Go.Proofs.Qxb6620878a
open Go.RowKit Go.Maps

theorem uvat_yes (g o n c : Nat) (l : List UInt8) (ai : Int) (a v k : Nat) (w : World) (hai : ai = (a : Int)) (hl : l.length = n) (hn : n ≤ 1048576) (hat : a ≤ n) (hr : w.rangeAt g o (bc l))
    (hv : (Lib.uvarintDec (l.drop a)).1 = v) (hk : (Lib.uvarintDec (l.drop a)).2 = (k : Int)) (h0 : 0 < k) :
    Calls Try.prog 14 #[.slice (some ⟨g, o, none⟩) n c, .int .i64 ai] w fun e w' => e = .returned (.tuple #[.int .u64 v, .int .i64 k, .bool true]) ∧ w' = w := by
  subst hai
  refine (uvat g o n c l a w hl hn hat (fun j hj => hr j _ (by simp [bc, hj]))).mono fun e w' ⟨he, hw⟩ => ⟨?_, hw⟩
  rw [he, Pl.uvAt, if_pos (by omega), hv, hk]

theorem uvat_no (g o n c : Nat) (l : List UInt8) (ai : Int) (a : Nat) (w : World) (hai : ai = (a : Int)) (hl : l.length = n) (hn : n ≤ 1048576) (hat : a ≤ n) (hr : w.rangeAt g o (bc l))
    (hk : (Lib.uvarintDec (l.drop a)).2 ≤ 0) :
    Calls Try.prog 14 #[.slice (some ⟨g, o, none⟩) n c, .int .i64 ai] w fun e w' => e = .returned (.tuple #[.int .u64 0, .int .i64 0, .bool false]) ∧ w' = w := by
  subst hai
  refine (uvat g o n c l a w hl hn hat (fun j hj => hr j _ (by simp [bc, hj]))).mono fun e w' ⟨he, hw⟩ => ⟨?_, hw⟩
  rw [he, Pl.uvAt, if_neg (by omega)]
  rfl

theorem holds_int (a : Option Addr) (n c : Nat) (l : List UInt8) (fi ci : Int) (fr cnt mb N : Nat) (w : World) (hfi : fi = (fr : Int)) (hci : ci = (cnt : Int)) (hl : l.length = n) (hn : n ≤ 1048576) (hnc : n ≤ c) (hcap : c ≤ 9223372036854775807)
    (hc : Bs w a l) (hfit : fr + 32 * cnt ≤ n) (hown : w.ownsMap Try.prog 45 unitElem mb N (setOf (l.drop fr) cnt)) :
    Calls Try.prog 15 #[.map (some mb), .slice a n c, .int .i64 fi, .int .i64 ci] w fun e w' =>
      e = .returned (.bool true) ∧ Below w.heap.size w w' := by
  subst hfi
  subst hci
  exact holds_yes a n c l fr cnt mb N w hl hn hnc hcap hc hfit hown

theorem Ans.of_bad {l : List UInt8} {b : Int} {x y : Option Nat} {ok : Bool} {w : World} (h : Ans l b x y ok w) (hb : Bad l) : b = 0 ∧ x = none ∧ y = none ∧ ok = false := by
  rcases h with h | ⟨v, r0, n1, r1, n2, r2, m1, m2, N1, N2, e1, e2, e3, _⟩
  · exact h.2
  · rcases hb with hb | ⟨v', r0', f1, hb⟩
    · rw [e1] at hb
      cases hb
    · rw [e1] at f1
      simp only [Option.some.injEq, Prod.mk.injEq] at f1
      obtain ⟨rfl, rfl⟩ := f1
      rcases hb with hb | ⟨n1', r1', f2, f3⟩
      · rw [e2] at hb
        cases hb
      · rw [e2] at f2
        simp only [Option.some.injEq, Prod.mk.injEq] at f2
        obtain ⟨rfl, rfl⟩ := f2
        rw [e3] at f3
        cases f3

theorem Ans.of_good {l : List UInt8} {b : Int} {x y : Option Nat} {ok : Bool} {w : World} (h : Ans l b x y ok w) {v n1 n2 : Nat} {r0 r1 r2 : List UInt8} (e1 : Pl.head l = some (v, r0)) (e2 : Pl.one r0 = some (n1, r1)) (e3 : Pl.one (r1.drop (32 * n1)) = some (n2, r2)) :
    ∃ m1 m2 N1 N2, b = (v : Int) ∧ x = some m1 ∧ y = some m2 ∧ ok = decide ((r2.drop (32 * n2)).length = 0) ∧ w.ownsMap Try.prog 45 unitElem m1 N1 (setOf r1 n1) ∧ w.ownsMap Try.prog 45 unitElem m2 N2 (setOf r2 n2) := by
  rcases h with ⟨hb, _⟩ | ⟨v', r0', n1', r1', n2', r2', m1, m2, N1, N2, f1, f2, f3, f4, f5, f6, f7, w1, w2⟩
  · exfalso
    rcases hb with hb | ⟨v', r0', f1, hb⟩
    · rw [e1] at hb
      cases hb
    · rw [e1] at f1
      simp only [Option.some.injEq, Prod.mk.injEq] at f1
      obtain ⟨rfl, rfl⟩ := f1
      rcases hb with hb | ⟨n1', r1', f2, f3⟩
      · rw [e2] at hb
        cases hb
      · rw [e2] at f2
        simp only [Option.some.injEq, Prod.mk.injEq] at f2
        obtain ⟨rfl, rfl⟩ := f2
        rw [e3] at f3
        cases f3
  · rw [e1] at f1
    simp only [Option.some.injEq, Prod.mk.injEq] at f1
    obtain ⟨rfl, rfl⟩ := f1
    rw [e2] at f2
    simp only [Option.some.injEq, Prod.mk.injEq] at f2
    obtain ⟨rfl, rfl⟩ := f2
    rw [e3] at f3
    simp only [Option.some.injEq, Prod.mk.injEq] at f3
    obtain ⟨rfl, rfl⟩ := f3
    exact ⟨m1, m2, N1, N2, f4, f5, f6, f7, w1, w2⟩

theorem info5 : (Try.prog.info? 5).map (fun i => (i.zero, i.size, i.bytes)) = some (some (.int .u8 0), 1, 1) := by kernel_rfl
theorem size5 : (Try.prog.info? 5).map (·.size) = some 1 := by kernel_rfl

set_option maxRecDepth 100000 in
set_option maxHeartbeats 1000000 in
theorem law5_long (a : Option Addr) (n c : Nat) (w : World) (hn : 1048576 < n) (hm : n ≤ 9223372036854775807) :
    Calls Try.prog 5 #[.slice a n c] w fun e w' => e = .returned (.bool true) ∧ Below w.heap.size w w' := by
  have h5 := bytes5 a n c w hm
  rw [decide_eq_false (by omega)] at h5
  go_enter Try.func5, Try.ntmps5
  go_wp2_with fail
  refine h5.mono ?_
  rintro e w' ⟨rfl, hw⟩
  have hw2 := hw.symm
  subst hw2
  clear h5 hw
  go_wp2_with fail
  go_ret
  exact ⟨rfl, Below.refl _ _⟩

set_option maxRecDepth 100000 in
set_option maxHeartbeats 1000000 in
theorem law5_nil (w : World) :
    Calls Try.prog 5 #[.slice none 0 0] w fun e w' => e = .returned (.bool true) ∧ Below w.heap.size w w' := by
  have h5 := bytes5 none 0 0 w (by omega)
  rw [decide_eq_true (by omega)] at h5
  have hneq := fun W a n c => run_neq_slice_nil_any (P := Try.prog) W 22 5 a n c 0 0 Try.underlying22
  have hp := zzparse none 0 0 [] w rfl (Nat.le_refl _) (by omega) (.inl rfl)
  go_enter Try.func5, Try.ntmps5
  go_wp2_with fail
  refine h5.mono ?_
  rintro e w' ⟨rfl, hw⟩
  have hw2 := hw.symm
  subst hw2
  clear h5 hw
  go_wp2_with fail
  refine hp.mono ?_
  rintro e w1 ⟨b, x, y, ok, rfl, hans, hb⟩
  clear hp
  obtain ⟨rfl, rfl, rfl, rfl⟩ := hans.of_bad (.inl (by decide))
  go_wp2_with fail
  refine (refused_yes _).mono ?_
  rintro e w2 ⟨rfl, rfl⟩
  go_wp2_with fail
  go_ret
  exact ⟨rfl, hb⟩

set_option maxRecDepth 100000 in
set_option maxHeartbeats 2000000 in
theorem law5_some (x : Addr) (n c : Nat) (l : List UInt8) (w : World) (hl : l.length = n) (hn : n ≤ 1048576) (hc : ∀ j v, (bc l)[j]? = some v → w.cell? (x.add j) = some v) :
    Calls Try.prog 5 #[.slice (some x) n c] w fun e w' => e = .returned (.bool true) ∧ Below w.heap.size w w' := by
  have h5 := bytes5 (some x) n c w (by omega)
  rw [decide_eq_true (by omega)] at h5
  have hneq := fun W a n c => run_neq_slice_nil_any (P := Try.prog) W 22 5 a n c 0 0 Try.underlying22
  have hmk := run_make_row' (P := Try.prog) 22 5 (.int .u8 0) 1 Try.underlying22 info5 rfl .i64 .i64 n (by omega) (by omega)
  go_enter Try.func5, Try.ntmps5
  go_wp2_with fail
  refine h5.mono ?_
  rintro e w' ⟨rfl, hw⟩
  have hw2 := hw.symm
  subst hw2
  clear h5 hw
  have hHG : (w.alloc (.cells (madeCells #[.int .u8 0] n) 5)).heap[w.heap.size]? = some (.cells (madeCells #[.int .u8 0] n).toList.toArray 5 (0, 0)) := by rw [Array.toArray_toList]; exact heap_alloc_last w _
  have hcl : (bc l).length = Nat.min n n := by rw [bc_length, hl]; exact (Nat.min_self n).symm
  have hsrc : Hid (∀ j v, (bc l)[j]? = some v → (w.alloc (.cells (madeCells #[.int .u8 0] n) 5)).cell? (x.add j) = some v) := fun j v hv => by
    have := hc j v hv
    rw [World.cell?_alloc_lt _ _ _ (World.block_lt_of_cell? w _ this)]
    exact this
  clear hc
  have hfit : 0 + (bc l).length ≤ (madeCells #[.int .u8 0] n).toList.length := by rw [bc_length, hl, Array.length_toList, size_madeCells]; omega
  have hB0 : Below w.heap.size w (w.alloc (.cells (madeCells #[.int .u8 0] n) 5)) := (Below.refl _ _).alloc (Nat.le_refl _) _
  go_wp2_with (first
    | (refine wpList_copy_splice rfl _ _ 22 22 rfl 5 Try.underlying22 size5 _ _ n n n c rfl rfl w.heap.size 0 (madeCells #[.int .u8 0] n).toList 5 hHG (bc l) hcl (fun _ => ⟨rfl, x, rfl, hsrc.out⟩) hfit (bc_one l) w.heap.size w hB0 (Nat.le_refl _) ?_; intro w2 HG2 hB2))
  have hr2 : Hid (w2.rangeAt w.heap.size 0 (bc l)) := by
    have := World.rangeAt_of_block HG2.out 0 (bc l).length
    have e : splice (madeCells #[.int .u8 0] n).toList 0 (bc l) = bc l := by
      unfold splice
      rw [List.take_zero, List.nil_append, List.drop_eq_nil_of_le (by rw [bc_length, hl, Array.length_toList, size_madeCells]; omega), List.append_nil]
    rw [e] at this
    exact Hid.mk (by simpa using this)
  have hz2 : w.heap.size < w2.heap.size := (Array.getElem?_eq_some_iff.1 HG2.out).1
  clear HG2 hHG hcl hfit hB0 hsrc hmk hneq
  refine (zzparse (some ⟨w.heap.size, 0, none⟩) n n l _ hl (Nat.le_refl _) hn (.inr ⟨_, _, rfl, hr2.out⟩)).mono ?_
  rintro e w3 ⟨b, x1, y1, ok, rfl, hans, hb3⟩
  have hr3 : w3.rangeAt w.heap.size 0 (bc l) := fun j v hv => (hb3.cell (p := ⟨w.heap.size, 0 + j, none⟩) hz2).trans (hr2.out j v hv)
  have hb : Below w.heap.size w w3 := hB2.trans (hb3.mono hB2.size)
  have hz3 : w.heap.size < w3.heap.size := Nat.lt_of_lt_of_le hz2 hb3.size
  clear hb3 hr2 hB2
  by_cases ht : l.take 18 = Pl.magic
  · have h18 : 18 ≤ n := by
      have := congrArg List.length ht
      simp [Pl.magic] at this
      omega
    have e1 := conv_bytes w3 w.heap.size 0 18 n (l.take 18) (by simp; omega) (by have := range_part hr3 0 18; simpa using this)
    have ht' : (l.take 18 == [99, 111, 112, 112, 105, 99, 101, 32, 99, 104, 97, 110, 103, 101, 115, 32, 49, 10]) = true := by simpa [Pl.magic] using ht
    have HT := Hid.mk ht
    clear ht
    by_cases h1 : 0 < (Lib.uvarintDec (l.drop 18)).2
    · obtain ⟨k, HK⟩ : ∃ k : Nat, Hid ((Lib.uvarintDec (l.drop 18)).2 = (k : Int)) := ⟨_, Hid.mk (Int.toNat_of_nonneg (by omega)).symm⟩
      obtain ⟨v, HV⟩ : ∃ v : Nat, Hid ((Lib.uvarintDec (l.drop 18)).1 = v) := ⟨_, Hid.mk rfl⟩
      have hk0 : 0 < k := by have := HK.out; omega
      have hkl : 18 + k ≤ n := by have := Pl.dec_le (l.drop 18); rw [HK.out, List.length_drop] at this; omega
      have hvl : v < 18446744073709551616 := by rw [← HV.out]; exact Lib.uvarintDec_lt _
      clear h1
      by_cases h2 : v ≤ 9223372036854775807
      · have HH : Hid (Pl.head l = some (v, l.drop (18 + k))) := by rw [← List.drop_drop]; exact head_eq l k v HT.out HK.out HV.out hk0 h2
        have h2' : ¬ (9223372036854775807 : Int) < (v : Int) := by omega
        go_wp2_with fail
        refine (uvat_yes w.heap.size 0 n n l 18 18 v k _ rfl hl hn (by omega) hr3 HV.out HK.out hk0).mono ?_
        rintro e w4 ⟨rfl, hw4⟩
        have hw4' := hw4.symm
        subst hw4'
        clear hw4
        go_wp2_with fail
        clear h2 HK HV HT ht' e1 hvl
        obtain ⟨p1, hp1⟩ : ∃ p1 : Nat, p1 = 18 + k := ⟨_, rfl⟩
        have HP1 := Hid.mk hp1
        have hP1 : (18 : Int) + (k : Int) = (p1 : Int) := by omega
        rw [← hp1] at hkl
        rw [← HP1.out] at HH
        clear hp1
        by_cases h3 : 0 < (Lib.uvarintDec (l.drop p1)).2
        · obtain ⟨k1, HK1⟩ : ∃ k : Nat, Hid ((Lib.uvarintDec (l.drop p1)).2 = (k : Int)) := ⟨_, Hid.mk (Int.toNat_of_nonneg (by omega)).symm⟩
          obtain ⟨n1, HV1⟩ : ∃ v : Nat, Hid ((Lib.uvarintDec (l.drop p1)).1 = v) := ⟨_, Hid.mk rfl⟩
          have hk1 : 0 < k1 := by have := HK1.out; omega
          have hkl1 : p1 + k1 ≤ n := by have := Pl.dec_le (l.drop p1); rw [HK1.out, List.length_drop] at this; omega
          have hvl1 : n1 < 18446744073709551616 := by rw [← HV1.out]; exact Lib.uvarintDec_lt _
          clear h3
          refine (uvat_yes w.heap.size 0 n n l _ p1 n1 k1 _ hP1 hl hn (by omega) hr3 HV1.out HK1.out hk1).mono ?_
          rintro e w4 ⟨rfl, hw4⟩
          have hw4' := hw4.symm
          subst hw4'
          clear hw4
          by_cases h4 : n1 ≤ (n - (p1 + k1)) / 32
          · have HO1 : Hid (Pl.one (l.drop p1) = some (n1, l.drop (p1 + k1))) := Hid.mk (by
              rw [Pl.one, HK1.out, HV1.out, Int.toNat_natCast, List.length_drop, hl, List.drop_drop, if_pos ⟨by omega, by omega⟩])
            have h4a : ¬ ((n : Int) < (n1 : Int)) := by omega
            have h4b : ¬ ((n : Int) - ((p1 : Int) + (k1 : Int)) < (n1 : Int) * 32) := by omega
            go_wp2_with fail
            clear HK1 HV1 hvl1 h4
            obtain ⟨p3, hp3⟩ : ∃ p3 : Nat, p3 = p1 + k1 + n1 * 32 := ⟨_, rfl⟩
            have HP3 := Hid.mk hp3
            have hP3 : (p1 : Int) + (k1 : Int) + (n1 : Int) * 32 = (p3 : Int) := by omega
            have hp3n : p3 ≤ n := by omega
            have HD3 : Hid ((l.drop (p1 + k1)).drop (32 * n1) = l.drop p3) := Hid.mk (by rw [List.drop_drop, hp3, Nat.mul_comm 32 n1])
            clear hp3
            by_cases h5 : 0 < (Lib.uvarintDec (l.drop p3)).2
            · obtain ⟨k2, HK2⟩ : ∃ k : Nat, Hid ((Lib.uvarintDec (l.drop p3)).2 = (k : Int)) := ⟨_, Hid.mk (Int.toNat_of_nonneg (by omega)).symm⟩
              obtain ⟨n2, HV2⟩ : ∃ v : Nat, Hid ((Lib.uvarintDec (l.drop p3)).1 = v) := ⟨_, Hid.mk rfl⟩
              have hk2 : 0 < k2 := by have := HK2.out; omega
              have hkl2 : p3 + k2 ≤ n := by have := Pl.dec_le (l.drop p3); rw [HK2.out, List.length_drop] at this; omega
              have hvl2 : n2 < 18446744073709551616 := by rw [← HV2.out]; exact Lib.uvarintDec_lt _
              clear h5
              refine (uvat_yes w.heap.size 0 n n l _ p3 n2 k2 _ hP3 hl hn (by omega) hr3 HV2.out HK2.out hk2).mono ?_
              rintro e w4 ⟨rfl, hw4⟩
              have hw4' := hw4.symm
              subst hw4'
              clear hw4
              by_cases h6 : n2 ≤ (n - (p3 + k2)) / 32
              · have HO2 : Hid (Pl.one (l.drop p3) = some (n2, l.drop (p3 + k2))) := Hid.mk (by
                  rw [Pl.one, HK2.out, HV2.out, Int.toNat_natCast, List.length_drop, hl, List.drop_drop, if_pos ⟨by omega, by omega⟩])
                have h6a : ¬ ((n : Int) < (n2 : Int)) := by omega
                have h6b : ¬ ((n : Int) - ((p3 : Int) + (k2 : Int)) < (n2 : Int) * 32) := by omega
                obtain ⟨m1, m2, N1, N2, rfl, rfl, rfl, hok, hw1, hw2⟩ := hans.of_good HH.out HO1.out (by rw [HD3.out]; exact HO2.out)
                clear hans
                rw [List.drop_drop, List.length_drop, hl] at hok
                have hok' : ok = decide ((p3 : Int) + (k2 : Int) + (n2 : Int) * 32 = (n : Int)) := by
                  rw [hok, Bool.eq_iff_iff]
                  simp only [decide_eq_true_eq]
                  omega
                have HOK := Hid.mk hok'
                clear hok hok'
                have hbs : Bs w3 (some ⟨w.heap.size, 0, none⟩) l := .inr ⟨_, _, rfl, hr3⟩
                have hvv : ((v : Int) == (v : Int)) = true := by simp
                go_wp2_with fail
                refine (holds_int (some ⟨w.heap.size, 0, none⟩) n n l _ _ (p1 + k1) n1 m1 N1 _ (by omega) rfl hl hn (Nat.le_refl _) (by omega) hbs (by omega) hw1).mono ?_
                rintro e w5 ⟨rfl, hb5⟩
                have hbs5 : Bs w5 (some ⟨w.heap.size, 0, none⟩) l := .inr ⟨_, _, rfl, fun j u hu => (hb5.cell (p := ⟨w.heap.size, 0 + j, none⟩) hz3).trans (hr3 j u hu)⟩
                have hw5 := hw2.kept (w' := w5) (row := none) ⟨hb5.os, hb5.tape, hb5.output, hb5.size, fun k hk _ => hb5.block k hk⟩ (by simp)
                have hbb5 := hb.trans (hb5.mono hb.size)
                clear hw1 hw2 hbs hb5 hr3 hb
                go_wp2_with fail
                refine (holds_int (some ⟨w.heap.size, 0, none⟩) n n l _ _ (p3 + k2) n2 m2 N2 _ (by omega) rfl hl hn (Nat.le_refl _) (by omega) hbs5 (by omega) hw5).mono ?_
                rintro e w6 ⟨rfl, hb6⟩
                have hbb6 := hbb5.trans (hb6.mono hbb5.size)
                clear hw5 hbs5 hb6 hbb5
                go_wp2_with fail
                have hfin : (ok == ((p3 : Int) + (k2 : Int) + (n2 : Int) * 32 == (n : Int))) = true := by
                  rw [HOK.out, beq_iff_eq, Bool.eq_iff_iff]
                  simp
                go_ret
                exact ⟨congrArg (fun b => Ending.returned (.bool b)) hfin, hbb6⟩
              · have HO2 : Hid (Pl.one (l.drop p3) = none) := Hid.mk <| by
                  rw [Pl.one, HK2.out, HV2.out, Int.toNat_natCast, List.length_drop, hl, if_neg (fun hc => h6 (by have := hc.2; omega))]
                have h6' : (n : Int) < (n2 : Int) ∨ (¬ ((n : Int) < (n2 : Int)) ∧ ((n : Int) - ((p3 : Int) + (k2 : Int)) < (n2 : Int) * 32)) := by omega
                rcases h6' with h6a | ⟨h6a, h6b⟩
                · have hbad : Bad l := (.inr ⟨v, _, HH.out, .inr ⟨n1, _, HO1.out, by rw [HD3.out]; exact HO2.out⟩⟩)
                  obtain ⟨rfl, rfl, rfl, rfl⟩ := hans.of_bad hbad
                  clear hbad hans
                  go_wp2_with fail
                  refine (refused_yes _).mono ?_
                  rintro e w9 ⟨rfl, rfl⟩
                  go_wp2_with fail
                  go_ret
                  exact ⟨rfl, hb⟩
                · have hbad : Bad l := (.inr ⟨v, _, HH.out, .inr ⟨n1, _, HO1.out, by rw [HD3.out]; exact HO2.out⟩⟩)
                  obtain ⟨rfl, rfl, rfl, rfl⟩ := hans.of_bad hbad
                  clear hbad hans
                  go_wp2_with fail
                  refine (refused_yes _).mono ?_
                  rintro e w9 ⟨rfl, rfl⟩
                  go_wp2_with fail
                  go_ret
                  exact ⟨rfl, hb⟩
            · refine (uvat_no w.heap.size 0 n n l _ p3 _ hP3 hl hn (by omega) hr3 (by omega)).mono ?_
              rintro e w4 ⟨rfl, hw4⟩
              have hw4' := hw4.symm
              subst hw4'
              clear hw4
              have hbad : Bad l := (.inr ⟨v, _, HH.out, .inr ⟨n1, _, HO1.out, by rw [HD3.out, Pl.one, if_neg (fun hc => by have := hc.1; omega)]⟩⟩)
              obtain ⟨rfl, rfl, rfl, rfl⟩ := hans.of_bad hbad
              clear hbad hans
              go_wp2_with fail
              refine (refused_yes _).mono ?_
              rintro e w9 ⟨rfl, rfl⟩
              go_wp2_with fail
              go_ret
              exact ⟨rfl, hb⟩
          · have HO1 : Hid (Pl.one (l.drop p1) = none) := Hid.mk <| by
              rw [Pl.one, HK1.out, HV1.out, Int.toNat_natCast, List.length_drop, hl, if_neg (fun hc => h4 (by have := hc.2; omega))]
            have h4' : (n : Int) < (n1 : Int) ∨ (¬ ((n : Int) < (n1 : Int)) ∧ ((n : Int) - ((p1 : Int) + (k1 : Int)) < (n1 : Int) * 32)) := by omega
            rcases h4' with h4a | ⟨h4a, h4b⟩
            · have hbad : Bad l := (.inr ⟨v, _, HH.out, .inl HO1.out⟩)
              obtain ⟨rfl, rfl, rfl, rfl⟩ := hans.of_bad hbad
              clear hbad hans
              go_wp2_with fail
              refine (refused_yes _).mono ?_
              rintro e w9 ⟨rfl, rfl⟩
              go_wp2_with fail
              go_ret
              exact ⟨rfl, hb⟩
            · have hbad : Bad l := (.inr ⟨v, _, HH.out, .inl HO1.out⟩)
              obtain ⟨rfl, rfl, rfl, rfl⟩ := hans.of_bad hbad
              clear hbad hans
              go_wp2_with fail
              refine (refused_yes _).mono ?_
              rintro e w9 ⟨rfl, rfl⟩
              go_wp2_with fail
              go_ret
              exact ⟨rfl, hb⟩
        · refine (uvat_no w.heap.size 0 n n l _ p1 _ hP1 hl hn (by omega) hr3 (by omega)).mono ?_
          rintro e w4 ⟨rfl, hw4⟩
          have hw4' := hw4.symm
          subst hw4'
          clear hw4
          have hbad : Bad l := (.inr ⟨v, _, HH.out, .inl (by rw [Pl.one, if_neg (fun hc => by have := hc.1; omega)])⟩)
          obtain ⟨rfl, rfl, rfl, rfl⟩ := hans.of_bad hbad
          clear hbad hans
          go_wp2_with fail
          refine (refused_yes _).mono ?_
          rintro e w9 ⟨rfl, rfl⟩
          go_wp2_with fail
          go_ret
          exact ⟨rfl, hb⟩
      · have h2' : (9223372036854775807 : Int) < (v : Int) := by omega
        go_wp2_with fail
        refine (uvat_yes w.heap.size 0 n n l 18 18 v k _ rfl hl hn (by omega) hr3 HV.out HK.out hk0).mono ?_
        rintro e w4 ⟨rfl, hw4⟩
        have hw4' := hw4.symm
        subst hw4'
        clear hw4
        have hbad : Bad l := (.inl (by rw [Pl.head, if_neg (fun hc => h2 (by rw [← HV.out]; exact hc.2.2))]))
        obtain ⟨rfl, rfl, rfl, rfl⟩ := hans.of_bad hbad
        clear hbad hans
        go_wp2_with fail
        refine (refused_yes _).mono ?_
        rintro e w9 ⟨rfl, rfl⟩
        go_wp2_with fail
        go_ret
        exact ⟨rfl, hb⟩
    · go_wp2_with fail
      refine (uvat_no w.heap.size 0 n n l 18 18 _ rfl hl hn (by omega) hr3 (by omega)).mono ?_
      rintro e w4 ⟨rfl, hw4⟩
      have hw4' := hw4.symm
      subst hw4'
      clear hw4
      have hbad : Bad l := (.inl (by rw [Pl.head, if_neg (fun hc => by have := hc.2.1; omega)]))
      obtain ⟨rfl, rfl, rfl, rfl⟩ := hans.of_bad hbad
      clear hbad hans
      go_wp2_with fail
      refine (refused_yes _).mono ?_
      rintro e w9 ⟨rfl, rfl⟩
      go_wp2_with fail
      go_ret
      exact ⟨rfl, hb⟩
  · have hs : n < 18 ∨ (18 ≤ n ∧ (l.take 18 == [99, 111, 112, 112, 105, 99, 101, 32, 99, 104, 97, 110, 103, 101, 115, 32, 49, 10]) = false) := by
      by_cases h18 : n < 18
      · exact .inl h18
      · exact .inr ⟨by omega, by simpa [Pl.magic] using ht⟩
    rcases hs with h18 | ⟨h18, ht'⟩
    · have h18' : (n : Int) < 18 := by omega
      have hbad : Bad l := (.inl (by rw [Pl.head, if_neg (fun hc => ht hc.1)]))
      obtain ⟨rfl, rfl, rfl, rfl⟩ := hans.of_bad hbad
      clear hbad hans
      go_wp2_with fail
      refine (refused_yes _).mono ?_
      rintro e w9 ⟨rfl, rfl⟩
      go_wp2_with fail
      go_ret
      exact ⟨rfl, hb⟩
    · have e1 := conv_bytes w3 w.heap.size 0 18 n (l.take 18) (by simp; omega) (by have := range_part hr3 0 18; simpa using this)
      have hbad : Bad l := (.inl (by rw [Pl.head, if_neg (fun hc => ht hc.1)]))
      obtain ⟨rfl, rfl, rfl, rfl⟩ := hans.of_bad hbad
      clear hbad hans
      go_wp2_with fail
      refine (refused_yes _).mono ?_
      rintro e w9 ⟨rfl, rfl⟩
      go_wp2_with fail
      go_ret
      exact ⟨rfl, hb⟩
end Go.Proofs.Qxb6620878a
