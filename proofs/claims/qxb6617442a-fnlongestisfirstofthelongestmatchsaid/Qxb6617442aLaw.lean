/-
  The law (4).
-/
import Derived.Test.Qxb6617442aZzl
import Derived.Laws.CopyOwn
import Derived.Deep.AppendSrc
namespace Go.Proofs.Qxb6617442a
open Go.RowKit

theorem size26 : (Try.prog.info? 26).map (·.size) = some 26 := by kernel_rfl
theorem info5 : (Try.prog.info? 5).map (fun i => (i.zero, i.size, i.bytes)) = some (some (.int .u8 0), 1, 1) := by kernel_rfl
theorem size5 : (Try.prog.info? 5).map (·.size) = some 1 := by kernel_rfl

/-- What the law leaves. -/
def LPost (w : World) (e : Ending) (w' : World) : Prop := e = .returned (.bool true) ∧ Below w.heap.size w w'

theorem range_old {w w' : World} {g o : Nat} {xs : List Value} (h : w.rangeAt g o xs) (hb : Below w.heap.size w w') : w'.rangeAt g o xs := fun j v hv => cell_old (h j v hv) hb

theorem box_range {w : World} {R : Nat} {cs : Array Value} {sl cap D} (hcs : Cs cs sl cap D) (h : w.rangeAt R 0 cs.toList) : BoxAt w R sl cap D := fun k hk => by
  have := h k (.slice (sl k) (D k).length (cap k)) (by have := hcs.2 k hk; simpa using this)
  simpa using this

theorem bc_one (l : List UInt8) : ∀ v ∈ bc l, v.oneCell' = true := by
  intro v hv
  simp only [bc, List.mem_map] at hv
  obtain ⟨b, _, rfl⟩ := hv
  rfl

/-- A rule that the word ends in lies in the bucket of the word's last letter. -/
theorem bucket {l : List UInt8} {n c0 k : Nat} {p : ByteArray} (hl : l.length = n + 1) (hlast : (l[n]'(by omega)).toNat = 97 + c0) (he : Ends l p) (hf : Fits k p) : k = c0 := by
  obtain ⟨h0, hf⟩ := hf
  have := he.2 (p.size - 1) (by omega)
  have hle := he.1
  rw [show l.length - p.size + (p.size - 1) = n from by omega, List.getElem?_eq_getElem (by omega)] at this
  have e := Option.some.inj this
  rw [← e, hlast] at hf
  omega

/-- THE PLAIN LAW. -/
theorem plain {l : List UInt8} {n c0 mx : Nat} {D : Nat → List (ByteArray × ByteArray)} {b : ByteArray × ByteArray} {f : Bool} (hl : l.length = n + 1) (hlast : (l[n]'(by omega)).toNat = 97 + c0) (hc0 : c0 < 26) (hd : DomUpto D 26 0)
    (hm : MaxUpto l D 26 0 mx) (hb : Best l (D c0) (D c0).length b f) :
    (mx = 0 ∧ f = false ∧ b = noRule) ∨
    (0 < mx ∧ f = true ∧ ∃ j0, ∃ h0 : j0 < (D c0).length, b = (D c0)[j0] ∧ Ends l (D c0)[j0].1 ∧ (D c0)[j0].1.size = mx ∧ ∀ k j (h : j < (D k).length), k < 26 → (k < c0 ∨ (k = c0 ∧ j < j0)) → (D k)[j].1.size = mx → ¬ Ends l (D k)[j].1) := by
  have fits : ∀ k j (h : j < (D k).length), k < 26 → Fits k (D k)[j].1 := fun k j h hk => hd k j h hk (Or.inl hk)
  rcases hb with ⟨rfl, rfl, hno⟩ | ⟨rfl, j0, h0, hlt, rfl, he, h1, h2⟩
  · left
    refine ⟨?_, rfl, rfl⟩
    rcases hm.2 with h | ⟨k, j, hj, hk, _, he, _⟩
    · exact h
    · have e := bucket hl hlast he (fits k j hj hk)
      subst e
      exact absurd he (hno j hj hj)
  · right
    have hle := hm.1 c0 j0 h0 hc0 (Or.inl hc0) he
    obtain ⟨hp, _⟩ := fits c0 j0 h0 hc0
    have hmx : (D c0)[j0].1.size = mx := by
      rcases hm.2 with h | ⟨k, j, hj, hk, _, he', hs⟩
      · omega
      · have e := bucket hl hlast he' (fits k j hj hk)
        subst e
        have := h2 j hj hj he'
        omega
    refine ⟨by omega, rfl, j0, h0, rfl, he, hmx, fun k j hj hk hlt' hs he' => ?_⟩
    have e := bucket hl hlast he' (fits k j hj hk)
    subst e
    have := h1 j hj (by omega) he'
    omega

set_option maxRecDepth 100000 in
set_option maxHeartbeats 2000000 in
theorem law_some (x : Addr) (n c : Nat) (l : List UInt8) (cs : Array Value) (sl : Nat → Option Addr) (cap : Nat → Nat) (D : Nat → List (ByteArray × ByteArray)) (w : World)
    (hl : l.length = n) (hn : n ≤ 9223372036854775807) (hc : ∀ j v, (bc l)[j]? = some v → w.cell? (x.add j) = some v) (hcs : Cs cs sl cap D) (hr : Reads w sl D) (hsm : Small 9223372036854775807 D) :
    Calls Try.prog 4 #[.slice (some x) n c, .agg cs] w (LPost w) := by
  have hneq := fun W a n c => run_neq_slice_nil_any (P := Try.prog) W 22 5 a n c 0 0 Try.underlying22
  have HCS := Hid.mk hcs
  have h26 := hcs.1
  have hi26 : (Try.prog.info? 26).map (·.size) = some cs.toList.length := by rw [size26, Array.length_toList, h26]
  have hrng : (w.alloc (.cells cs 26)).rangeAt w.heap.size 0 cs.toList := by
    have := World.rangeAt_of_block (heap_alloc_last w (.cells cs 26)) 0 cs.size
    simpa using this
  have hA : Below w.heap.size w (w.alloc (.cells cs 26)) := (Below.refl _ _).alloc (Nat.le_refl _) _
  have HR := Hid.mk (hr.old hA)
  have HC : Hid (∀ j v, (bc l)[j]? = some v → (w.alloc (.cells cs 26)).cell? (x.add j) = some v) := Hid.mk fun j v hv => cell_old (hc j v hv) hA
  have H9 := Hid.mk (byt9 (some x) n c cs sl cap D (w.alloc (.cells cs 26)) hn hcs HR.out hsm)
  have HA := Hid.mk hA
  clear hcs hr hc hsm hA
  go_enter Try.func4, Try.ntmps4
  go_wp2_with (first | (refine wpList_load_mid rfl 26 _ rfl w.heap.size 0 rfl cs.toList _ hrng Try.underlying26 rfl hi26 ?_))
  refine H9.out.mono ?_
  rintro e W1 ⟨b9, rfl, hB9, hb1⟩
  have HB9 := Hid.mk hB9
  have HW1 : Hid (Below w.heap.size w W1) := Hid.mk (HA.out.trans (hb1.mono HA.out.size))
  have hR1 : w.heap.size < W1.heap.size := Nat.lt_of_lt_of_le (by simp) hb1.size
  have hrng1 := range_old hrng hb1
  have HR1 := Hid.mk (HR.out.old hb1)
  have HC1 : Hid (∀ j v, (bc l)[j]? = some v → W1.cell? (x.add j) = some v) := Hid.mk fun j v hv => cell_old (HC.out j v hv) hb1
  clear hB9 hb1 hrng HR HC H9 HA
  cases b9
  · go_wp2_with fail
    go_ret
    exact ⟨rfl, HW1.out⟩
  · obtain ⟨hn20, hsm⟩ := HB9.out rfl
    have HS := Hid.mk hsm
    clear hsm HB9 hn
    have hmk := run_make_row' (P := Try.prog) 22 5 (.int .u8 0) 1 Try.underlying22 info5 rfl .i64 .i64 n (by omega) (by omega)
    have hHG : (W1.alloc (.cells (madeCells #[.int .u8 0] n) 5)).heap[W1.heap.size]? = some (.cells (madeCells #[.int .u8 0] n).toList.toArray 5 (0, 0)) := by rw [Array.toArray_toList]; exact heap_alloc_last W1 _
    have hcl : (bc l).length = Nat.min n n := by rw [bc_length, hl]; exact (Nat.min_self n).symm
    have hsrc : Hid (∀ j v, (bc l)[j]? = some v → (W1.alloc (.cells (madeCells #[.int .u8 0] n) 5)).cell? (x.add j) = some v) := fun j v hv => by
      have := HC1.out j v hv
      rw [World.cell?_alloc_lt _ _ _ (World.block_lt_of_cell? W1 _ this)]
      exact this
    have hfit : 0 + (bc l).length ≤ (madeCells #[.int .u8 0] n).toList.length := by rw [bc_length, hl, Array.length_toList, size_madeCells]; omega
    have hB0 : Below W1.heap.size W1 (W1.alloc (.cells (madeCells #[.int .u8 0] n) 5)) := (Below.refl _ _).alloc (Nat.le_refl _) _
    go_wp2_with (first
      | (refine wpList_copy_splice rfl _ _ 22 22 rfl 5 Try.underlying22 size5 _ _ n n n c rfl rfl W1.heap.size 0 (madeCells #[.int .u8 0] n).toList 5 hHG (bc l) hcl (fun _ => ⟨rfl, x, rfl, hsrc.out⟩) hfit (bc_one l) W1.heap.size W1 hB0 (Nat.le_refl _) ?_; intro w2 HG2 hB2))
    have hr2 : BytesAt w2 W1.heap.size 0 l := by
      have := World.rangeAt_of_block HG2.out 0 (bc l).length
      have e : splice (madeCells #[.int .u8 0] n).toList 0 (bc l) = bc l := by
        unfold splice
        rw [List.take_zero, List.nil_append, List.drop_eq_nil_of_le (by rw [bc_length, hl, Array.length_toList, size_madeCells]; omega), List.append_nil]
      rw [e] at this
      intro j hj
      have h2 := this j (.int .u8 (l[j]).toNat) (by simp [bc, hj])
      simpa using h2
    have HB2 := Hid.mk hr2
    have hrng2 := range_old hrng1 hB2
    have HR2 := Hid.mk (HR1.out.old hB2)
    clear hr2 HG2 hHG hcl hfit hsrc hB0 hmk hneq HC1 HR1 hrng1
    go_wp2_with fail
    have hbox := box_range HCS.out hrng2
    have HX := Hid.mk hbox
    have HFIN := Hid.mk (HW1.out.trans (hB2.mono (Nat.le_of_lt hR1)))
    clear hbox
    go_loopw [6, 7] (fun vz vk wr => ∃ z k : Nat, k ≤ 26 ∧ z ≤ 1048576 ∧ vz = .int .i64 z ∧ vk = .int .i64 k ∧ wr = w2) (fun _ vk _ => 26 - (intOf vk).toNat)
    case atStart => exact ⟨n, 0, by omega, by omega, by go_num, rfl, rfl⟩
    case round =>
      obtain ⟨z, k, hk, hz, rfl, rfl, rfl⟩ := hrel
      by_cases hk26 : k < 26
      · have hkd : decide ((k : Int) < 26) = true := decide_eq_true (by omega)
        have hx := HX.out k hk26
        have hsm := (HS.out k hk26).1
        obtain ⟨len, HLEN⟩ : ∃ len : Nat, Hid ((D k).length = len) := ⟨_, Hid.mk rfl⟩
        rw [HLEN.out] at hx hsm
        rename World => wo
        have hd1 : decide (1048576 < (len : Int)) = false := decide_eq_false (by omega)
        by_cases hzb : 1048576 < z + 32 * len
        · go_wp2_with fail
          go_ret
          exact ⟨rfl, HFIN.out⟩
        · have hd2 : decide (1048576 < (z : Int) + 32 * (len : Int)) = false := decide_eq_false (by omega)
          go_wp2_with fail
          go_loopw [6, 8] (fun vz vj wr => ∃ z j : Nat, j ≤ len ∧ z ≤ 1048576 ∧ vz = .int .i64 z ∧ vj = .int .i64 j ∧ wr = wo) (fun _ vj _ => len - (intOf vj).toNat)
          case atStart => exact ⟨z + 32 * len, 0, by omega, by omega, by go_num, rfl, (by first | rfl | trivial)⟩
          case round =>
            clear hz hzb
            obtain ⟨z, j, hj, hz, rfl, rfl, rfl⟩ := hrel
            by_cases hjl : j < len
            · have hjd : decide ((j : Int) < (len : Int)) = true := decide_eq_true (by omega)
              have hjd' : decide (j < len) = true := decide_eq_true hjl
              have hjD : j < (D k).length := by rw [HLEN.out]; exact hjl
              obtain ⟨g', o', hsl, hc1, hc2⟩ := HR2.out k hk26 j hjD
              rw [hsl] at hx
              obtain ⟨hs1, hs2⟩ := (HS.out k hk26).2 j hjD
              obtain ⟨p1, HP1⟩ : ∃ p : ByteArray, Hid ((D k)[j].1 = p) := ⟨_, Hid.mk rfl⟩
              obtain ⟨p2, HP2⟩ : ∃ p : ByteArray, Hid ((D k)[j].2 = p) := ⟨_, Hid.mk rfl⟩
              rw [HP1.out] at hc1 hs1
              rw [HP2.out] at hc2 hs2
              obtain ⟨m1, hm1⟩ : ∃ m : Nat, p1.size = m := ⟨_, rfl⟩
              obtain ⟨m2, hm2⟩ : ∃ m : Nat, p2.size = m := ⟨_, rfl⟩
              rw [hm1] at hs1
              rw [hm2] at hs2
              by_cases hb1 : 1048576 < z + m1
              · go_wp2_with fail
                go_ret
                exact ⟨rfl, HFIN.out⟩
              · by_cases hb2 : 1048576 < z + m1 + m2
                · go_wp2_with fail
                  go_ret
                  exact ⟨rfl, HFIN.out⟩
                · go_wp2_with fail
                  refine ⟨⟨z + m1 + m2, j + 1, by omega, by omega, by go_num, by go_num, (by first | rfl | trivial)⟩, by simp [intOf] <;> omega⟩
            · have hje : j = len := by omega
              subst hje
              go_wp2_with fail
              refine ⟨⟨z, k + 1, by omega, by omega, by go_num, by go_num, (by first | rfl | trivial)⟩, by simp [intOf] <;> omega⟩
      · have hke : k = 26 := by omega
        subst hke
        rename World => W2
        clear hk26 hk
        by_cases hn0 : n = 0
        · subst hn0
          go_wp2_with (first | (refine wpList_load_mid rfl 26 _ rfl w.heap.size 0 rfl cs.toList _ hrng2 Try.underlying26 rfl hi26 ?_))
          refine (dom_empty _ _ cs h26 W2).mono ?_
          rintro e W3 ⟨rfl, hb3⟩
          have HF3 := Hid.mk (HFIN.out.trans (hb3.mono HFIN.out.size))
          clear hb3
          go_wp2_with fail
          go_ret
          exact ⟨rfl, HF3.out⟩
        · obtain ⟨m, hm⟩ : ∃ m, n = m + 1 := ⟨n - 1, by omega⟩
          subst hm
          go_wp2_with (first | (refine wpList_load_mid rfl 26 _ rfl w.heap.size 0 rfl cs.toList _ hrng2 Try.underlying26 rfl hi26 ?_))
          refine (dom10 W1.heap.size 0 m (m + 1) l cs sl cap D W2 hl (by omega) HB2.out HCS.out HR2.out HS.out).mono ?_
          rintro e W3 ⟨b, rfl, hdt, hb3⟩
          have HDT := Hid.mk hdt
          have HF3 := Hid.mk (HFIN.out.trans (hb3.mono HFIN.out.size))
          have hrng3 := range_old hrng2 hb3
          have HR3 := Hid.mk (HR2.out.old hb3)
          have HB3 := Hid.mk (HB2.out.old hb3)
          clear hdt hb3 hrng2 HR2 HB2 HX
          cases b
          · go_wp2_with fail
            go_ret
            exact ⟨rfl, HF3.out⟩
          · obtain ⟨hl1, hl2, hdom⟩ := HDT.out (by first | rfl | trivial)
            obtain ⟨c0, hlast⟩ : ∃ c0, (l[m]'(by omega)).toNat = 97 + c0 := ⟨(l[m]'(by omega)).toNat - 97, by omega⟩
            have hc0 : c0 < 26 := by omega
            have HDOM := Hid.mk hdom
            have HLAST := Hid.mk hlast
            clear hdom hlast hl1 hl2 HDT
            go_wp2_with (first | (refine wpList_load_mid rfl 26 _ rfl w.heap.size 0 rfl cs.toList _ hrng3 Try.underlying26 rfl hi26 ?_))
            refine (zzl11 W1.heap.size 0 m (m + 1) l cs sl cap D c0 W3 hl hn20 (Nat.le_refl _) HB3.out HCS.out HR3.out HS.out HLAST.out hc0 (fun j hj => by obtain ⟨h, _⟩ := HDOM.out c0 j hj hc0 (Or.inl hc0); exact h)).mono ?_
            rintro e W4 ⟨⟨b1, b2⟩, f, rfl, hbest, hb4⟩
            have HBEST := Hid.mk hbest
            have HF4 := Hid.mk (HF3.out.trans (hb4.mono HF3.out.size))
            have hrng4 := range_old hrng3 hb4
            have HR4 := Hid.mk (HR3.out.old hb4)
            have HB4 := Hid.mk (HB3.out.old hb4)
            clear hbest hb4 hrng3 HR3 HB3 HF3
            go_wp2_with (first | (refine wpList_load_mid rfl 26 _ rfl w.heap.size 0 rfl cs.toList _ hrng4 Try.underlying26 rfl hi26 ?_))
            refine (max12 W1.heap.size 0 (m + 1) (m + 1) l cs sl cap D W4 hl hn20 HB4.out HCS.out HR4.out HS.out).mono ?_
            rintro e W5 ⟨mx, rfl, hmax, hb5⟩
            have HPL := Hid.mk (plain hl HLAST.out hc0 HDOM.out hmax HBEST.out)
            have HF5 := Hid.mk (HF4.out.trans (hb5.mono HF4.out.size))
            have HX5 := Hid.mk (box_range HCS.out (range_old hrng4 hb5))
            have HR5 := Hid.mk (HR4.out.old hb5)
            have HB5 := Hid.mk (HB4.out.old hb5)
            clear hmax hb5 hrng4 HR4 HB4 HF4 HBEST hi26 h26
            rcases HPL.out with ⟨hmx, hf, hnb⟩ | ⟨hmx, hf, j0, h0, hbj, he0, hs0, hbefore⟩
            · subst hmx
              subst hf
              obtain ⟨rfl, rfl⟩ : b1 = ⟨#[]⟩ ∧ b2 = ⟨#[]⟩ := ⟨congrArg Prod.fst hnb, congrArg Prod.snd hnb⟩
              clear HPL hnb
              go_wp2_with fail
              go_ret
              exact ⟨rfl, HF5.out⟩
            · subst hf
              have hmxq : ((mx : Int) == 0) = false := by rw [beq_eq_false_iff_ne]; omega
              have HBEF := Hid.mk hbefore
              have HBJ := Hid.mk hbj
              have HE0 := Hid.mk he0
              have HS0 := Hid.mk hs0
              clear HPL hbefore hbj he0 hs0
              go_wp2_with fail
              go_loopw [13] (fun vk wr => ∃ k : Nat, k ≤ c0 ∧ vk = .int .i64 k ∧ Below W5.heap.size W5 wr) (fun vk _ => 26 - (intOf vk).toNat)
              case atStart => exact ⟨0, by omega, rfl, Below.refl _ _⟩
              case round =>
                obtain ⟨k, hk, rfl, hbw⟩ := hrel
                have hk26 : k < 26 := by omega
                have hkd : decide ((k : Int) < 26) = true := decide_eq_true (by omega)
                have hx := cell_old (HX5.out k hk26) hbw
                have hsm := (HS.out k hk26).1
                obtain ⟨len, HLEN⟩ : ∃ len : Nat, Hid ((D k).length = len) := ⟨_, Hid.mk rfl⟩
                rw [HLEN.out] at hx hsm
                have HBW := Hid.mk hbw
                clear hbw
                go_wp2_with fail
                go_loopw [14] (fun vj wr => ∃ j : Nat, j ≤ len ∧ (k = c0 → j ≤ j0) ∧ vj = .int .i64 j ∧ Below W5.heap.size W5 wr) (fun vj _ => len - (intOf vj).toNat)
                case atStart => exact ⟨0, by omega, fun _ => by omega, rfl, HBW.out⟩
                case round =>
                  clear hx HBW
                  obtain ⟨j, hj, hjj, rfl, hbw⟩ := hrel
                  have hx := cell_old (HX5.out k hk26) hbw
                  rw [HLEN.out] at hx
                  by_cases hjl : j < len
                  · have hjD : j < (D k).length := by rw [HLEN.out]; exact hjl
                    obtain ⟨g', o', hsl, hc1, hc2⟩ := (HR5.out.old hbw) k hk26 j hjD
                    rw [hsl] at hx
                    have hs1 := ((HS.out k hk26).2 j hjD).1
                    have HB6 := Hid.mk (hbw.alloc hbw.size (.cells #[.string (D k)[j].1, .string (D k)[j].2] 28))
                    have HBEFj := Hid.mk (HBEF.out k j hjD hk26)
                    have HBJj : Hid (k = c0 → j = j0 → b1 = (D k)[j].1 ∧ b2 = (D k)[j].2) := Hid.mk fun e1 e2 => by
                      subst e1
                      subst e2
                      exact ⟨congrArg Prod.fst HBJ.out, congrArg Prod.snd HBJ.out⟩
                    have HAT : Hid (k = c0 → j = j0 → Ends l (D k)[j].1 ∧ (D k)[j].1.size = mx) := Hid.mk fun e1 e2 => by
                      subst e1
                      subst e2
                      exact ⟨HE0.out, HS0.out⟩
                    obtain ⟨p1, HP1⟩ : ∃ p : ByteArray, Hid ((D k)[j].1 = p) := ⟨_, Hid.mk rfl⟩
                    obtain ⟨p2, HP2⟩ : ∃ p : ByteArray, Hid ((D k)[j].2 = p) := ⟨_, Hid.mk rfl⟩
                    rw [HP1.out] at hc1 hs1 HB6 HBEFj HBJj HAT
                    rw [HP2.out] at hc2 HB6 HBJj
                    obtain ⟨m1, hm1⟩ : ∃ m : Nat, p1.size = m := ⟨_, rfl⟩
                    rw [hm1] at hs1 HBEFj HAT
                    clear hbw
                    have HJJ := Hid.mk hjj
                    clear hjj
                    by_cases hmm : m1 = mx
                    · have hq : ((m1 : Int) == (mx : Int)) = true := by rw [hmm]; simp
                      have HMM := Hid.mk hmm
                      clear hmm
                      go_wp2_with fail
                      refine (ends13 W1.heap.size 0 (m + 1) (m + 1) l p1 m1 hm1 hs1 _ hl hn20 (HB5.out.old HB6.out)).mono ?_
                      rintro e w7 ⟨bb, rfl, hbe, q, rfl⟩
                      have HBE := Hid.mk hbe
                      clear hbe
                      cases bb
                      · have hne : k = c0 → j ≠ j0 := fun e1 e2 => absurd (HBE.out.2 (HAT.out e1 e2).1) (by decide)
                        have HJ1 : Hid (k = c0 → j + 1 ≤ j0) := Hid.mk fun e1 => by have := HJJ.out e1; have := hne e1; omega
                        clear hne
                        go_wp2_with fail
                        go_roundw
                        case rel => exact ⟨j + 1, by omega, HJ1.out, by go_num, below_drew HB6.out _⟩
                        case measure => simp [intOf] <;> omega
                      · have he := HBE.out.1 rfl
                        have hkc : k = c0 := by
                          rcases Nat.lt_or_ge k c0 with hlt | hge
                          · exact absurd he (HBEFj.out (Or.inl hlt) HMM.out)
                          · omega
                        have hjc : j = j0 := by
                          have h1 := HJJ.out hkc
                          rcases Nat.lt_or_ge j j0 with hlt | hge
                          · exact absurd he (HBEFj.out (Or.inr ⟨hkc, hlt⟩) HMM.out)
                          · omega
                        obtain ⟨e1, e2⟩ := HBJj.out hkc hjc
                        have HF7 := Hid.mk (below_drew (HF5.out.trans (HB6.out.mono HF5.out.size)) q)
                        clear he hkc hjc HBJj HAT HBEFj HBE HBJ
                        subst e1
                        subst e2
                        go_wp2_with fail
                        go_ret
                        exact ⟨by first | rfl | simp, HF7.out⟩
                    · have hq : ((m1 : Int) == (mx : Int)) = false := by rw [beq_eq_false_iff_ne]; omega
                      have HJ1 : Hid (k = c0 → j + 1 ≤ j0) := Hid.mk fun e1 => by
                        have h1 := HJJ.out e1
                        have h2 : j ≠ j0 := fun e2 => hmm (HAT.out e1 e2).2
                        omega
                      clear hmm
                      go_wp2_with fail
                      go_roundw
                      case rel => exact ⟨j + 1, by omega, HJ1.out, by go_num, HB6.out⟩
                      case measure => simp [intOf] <;> omega
                  · have hje : j = len := by omega
                    have hkn : k + 1 ≤ c0 := by
                      rcases Nat.lt_or_ge k c0 with hlt | hge
                      · omega
                      · have e : k = c0 := by omega
                        have h1 := hjj e
                        subst e
                        rw [HLEN.out] at h0
                        omega
                    have HBW := Hid.mk hbw
                    clear hbw hjj
                    subst hje
                    go_wp2_with fail
                    refine ⟨⟨k + 1, by omega, by go_num, HBW.out⟩, by simp [intOf] <;> omega⟩

set_option maxRecDepth 100000 in
set_option maxHeartbeats 2000000 in
theorem law_nil (cs : Array Value) (sl : Nat → Option Addr) (cap : Nat → Nat) (D : Nat → List (ByteArray × ByteArray)) (w : World)
    (hcs : Cs cs sl cap D) (hr : Reads w sl D) (hsm : Small 9223372036854775807 D) :
    Calls Try.prog 4 #[.slice none 0 0, .agg cs] w (LPost w) := by
  have hneq := fun W a n c => run_neq_slice_nil_any (P := Try.prog) W 22 5 a n c 0 0 Try.underlying22
  have HCS := Hid.mk hcs
  have h26 := hcs.1
  have hi26 : (Try.prog.info? 26).map (·.size) = some cs.toList.length := by rw [size26, Array.length_toList, h26]
  have hrng : (w.alloc (.cells cs 26)).rangeAt w.heap.size 0 cs.toList := by
    have := World.rangeAt_of_block (heap_alloc_last w (.cells cs 26)) 0 cs.size
    simpa using this
  have hA : Below w.heap.size w (w.alloc (.cells cs 26)) := (Below.refl _ _).alloc (Nat.le_refl _) _
  have HR := Hid.mk (hr.old hA)
  have H9 := Hid.mk (byt9 none 0 0 cs sl cap D (w.alloc (.cells cs 26)) (by omega) hcs HR.out hsm)
  have HA := Hid.mk hA
  clear hcs hr hsm hA
  go_enter Try.func4, Try.ntmps4
  go_wp2_with (first | (refine wpList_load_mid rfl 26 _ rfl w.heap.size 0 rfl cs.toList _ hrng Try.underlying26 rfl hi26 ?_))
  refine H9.out.mono ?_
  rintro e W1 ⟨b9, rfl, hB9, hb1⟩
  have HB9 := Hid.mk hB9
  have HW1 : Hid (Below w.heap.size w W1) := Hid.mk (HA.out.trans (hb1.mono HA.out.size))
  have hrng1 := range_old hrng hb1
  have HR1 := Hid.mk (HR.out.old hb1)
  clear hB9 hb1 hrng HR H9 HA
  cases b9
  · go_wp2_with fail
    go_ret
    exact ⟨rfl, HW1.out⟩
  · obtain ⟨_, hsm⟩ := HB9.out rfl
    have HS := Hid.mk hsm
    clear hsm HB9
    have hrng2 := hrng1
    have HR2 := HR1
    clear hrng1 HR1
    go_wp2_with fail
    have hbox := box_range HCS.out hrng2
    have HX := Hid.mk hbox
    have HFIN := HW1
    clear hbox
    go_loopw [6, 7] (fun vz vk wr => ∃ z k : Nat, k ≤ 26 ∧ z ≤ 1048576 ∧ vz = .int .i64 z ∧ vk = .int .i64 k ∧ wr = W1) (fun _ vk _ => 26 - (intOf vk).toNat)
    case atStart => exact ⟨0, 0, by omega, by omega, by go_num, rfl, rfl⟩
    case round =>
      obtain ⟨z, k, hk, hz, rfl, rfl, rfl⟩ := hrel
      by_cases hk26 : k < 26
      · have hkd : decide ((k : Int) < 26) = true := decide_eq_true (by omega)
        have hx := HX.out k hk26
        have hsm := (HS.out k hk26).1
        obtain ⟨len, HLEN⟩ : ∃ len : Nat, Hid ((D k).length = len) := ⟨_, Hid.mk rfl⟩
        rw [HLEN.out] at hx hsm
        rename World => wo
        have hd1 : decide (1048576 < (len : Int)) = false := decide_eq_false (by omega)
        by_cases hzb : 1048576 < z + 32 * len
        · go_wp2_with fail
          go_ret
          exact ⟨rfl, HFIN.out⟩
        · have hd2 : decide (1048576 < (z : Int) + 32 * (len : Int)) = false := decide_eq_false (by omega)
          go_wp2_with fail
          go_loopw [6, 8] (fun vz vj wr => ∃ z j : Nat, j ≤ len ∧ z ≤ 1048576 ∧ vz = .int .i64 z ∧ vj = .int .i64 j ∧ wr = wo) (fun _ vj _ => len - (intOf vj).toNat)
          case atStart => exact ⟨z + 32 * len, 0, by omega, by omega, by go_num, rfl, (by first | rfl | trivial)⟩
          case round =>
            clear hz hzb
            obtain ⟨z, j, hj, hz, rfl, rfl, rfl⟩ := hrel
            by_cases hjl : j < len
            · have hjd : decide ((j : Int) < (len : Int)) = true := decide_eq_true (by omega)
              have hjd' : decide (j < len) = true := decide_eq_true hjl
              have hjD : j < (D k).length := by rw [HLEN.out]; exact hjl
              obtain ⟨g', o', hsl, hc1, hc2⟩ := HR2.out k hk26 j hjD
              rw [hsl] at hx
              obtain ⟨hs1, hs2⟩ := (HS.out k hk26).2 j hjD
              obtain ⟨p1, HP1⟩ : ∃ p : ByteArray, Hid ((D k)[j].1 = p) := ⟨_, Hid.mk rfl⟩
              obtain ⟨p2, HP2⟩ : ∃ p : ByteArray, Hid ((D k)[j].2 = p) := ⟨_, Hid.mk rfl⟩
              rw [HP1.out] at hc1 hs1
              rw [HP2.out] at hc2 hs2
              obtain ⟨m1, hm1⟩ : ∃ m : Nat, p1.size = m := ⟨_, rfl⟩
              obtain ⟨m2, hm2⟩ : ∃ m : Nat, p2.size = m := ⟨_, rfl⟩
              rw [hm1] at hs1
              rw [hm2] at hs2
              by_cases hb1 : 1048576 < z + m1
              · go_wp2_with fail
                go_ret
                exact ⟨rfl, HFIN.out⟩
              · by_cases hb2 : 1048576 < z + m1 + m2
                · go_wp2_with fail
                  go_ret
                  exact ⟨rfl, HFIN.out⟩
                · go_wp2_with fail
                  refine ⟨⟨z + m1 + m2, j + 1, by omega, by omega, by go_num, by go_num, (by first | rfl | trivial)⟩, by simp [intOf] <;> omega⟩
            · have hje : j = len := by omega
              subst hje
              go_wp2_with fail
              refine ⟨⟨z, k + 1, by omega, by omega, by go_num, by go_num, (by first | rfl | trivial)⟩, by simp [intOf] <;> omega⟩
      · have hke : k = 26 := by omega
        subst hke
        rename World => W2
        clear hk26 hk
        go_wp2_with (first | (refine wpList_load_mid rfl 26 _ rfl w.heap.size 0 rfl cs.toList _ hrng2 Try.underlying26 rfl hi26 ?_))
        refine (dom_empty _ _ cs h26 W2).mono ?_
        rintro e W3 ⟨rfl, hb3⟩
        have HF3 := Hid.mk (HFIN.out.trans (hb3.mono HFIN.out.size))
        clear hb3
        go_wp2_with fail
        go_ret
        exact ⟨rfl, HF3.out⟩
end Go.Proofs.Qxb6617442a
