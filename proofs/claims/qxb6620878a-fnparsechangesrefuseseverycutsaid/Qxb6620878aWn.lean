/-
  The law FnParseChangesRefusesEveryCut (7): its walk.
-/
import Derived.Test.Qxb6620878aWm
namespace Go.Proofs.Qxb6620878a
open Go.RowKit Go.Maps

set_option maxRecDepth 100000 in
set_option maxHeartbeats 1000000 in
theorem bytes7_any (x y : Int) (a1 a2 : Option Addr) (n1 c1 n2 c2 : Nat) (w : World) (b1 : n1 ≤ 9223372036854775807) (b2 : n2 ≤ 9223372036854775807) :
    Calls Try.prog 18 #[.int .u64 x, .slice a1 n1 c1, .slice a2 n2 c2, .int .i64 y] w fun e w' => (∃ b, e = .returned (.bool b)) ∧ w' = w := by
  go_enter Try.func18, Try.ntmps18
  go_wp2
  all_goals (go_ret; exact ⟨⟨_, rfl⟩, rfl⟩)

set_option maxRecDepth 100000 in
set_option maxHeartbeats 1000000 in
theorem bytes7_small (x y : Int) (a1 a2 : Option Addr) (n1 c1 n2 c2 : Nat) (w : World) (b1 : n1 ≤ 262144) (b2 : n2 ≤ 262144) :
    Calls Try.prog 18 #[.int .u64 x, .slice a1 n1 c1, .slice a2 n2 c2, .int .i64 y] w fun e w' => e = .returned (.bool true) ∧ w' = w := by
  go_enter Try.func18, Try.ntmps18
  go_wp2
  go_ret
  exact ⟨rfl, rfl⟩

set_option maxRecDepth 100000 in
set_option maxHeartbeats 1000000 in
theorem law7_large (x y : Int) (a1 a2 : Option Addr) (n1 c1 n2 c2 : Nat) (w : World) (b1 : n1 ≤ 9223372036854775807) (b2 : n2 ≤ 9223372036854775807)
    (hl : 262144 < n1 ∨ 262144 < n2) :
    Calls Try.prog 7 #[.int .u64 x, .slice a1 n1 c1, .slice a2 n2 c2, .int .i64 y] w fun e w' => e = .returned (.bool true) ∧ Below w.heap.size w w' := by
  have hs : 262144 < n1 ∨ (n1 ≤ 262144 ∧ 262144 < n2) := by omega
  clear hl
  rcases hs with h1 | ⟨h1, h2⟩
  all_goals
    go_enter Try.func7, Try.ntmps7
    go_wp2_with fail
    refine (bytes7_any x y a1 a2 n1 c1 n2 c2 w b1 b2).mono ?_
    rintro e w' ⟨⟨b, rfl⟩, hw⟩
    have hw2 := hw.symm
    subst hw2
    clear hw
    cases b
    all_goals
      go_wp2_with fail
      go_ret
      exact ⟨rfl, Below.refl _ _⟩

set_option maxRecDepth 100000 in
set_option maxHeartbeats 1000000 in
theorem law7_odd (x y : Int) (a1 a2 : Option Addr) (n1 c1 n2 c2 : Nat) (w : World) (b1 : n1 ≤ 262144) (b2 : n2 ≤ 262144)
    (hl : ¬ n1 % 32 = 0 ∨ ¬ n2 % 32 = 0) :
    Calls Try.prog 7 #[.int .u64 x, .slice a1 n1 c1, .slice a2 n2 c2, .int .i64 y] w fun e w' => e = .returned (.bool true) ∧ Below w.heap.size w w' := by
  have hs : (((n1 : Int) % 32 != 0) = true) ∨ (((n1 : Int) % 32 != 0) = false ∧ ((n2 : Int) % 32 != 0) = true) := by
    by_cases h : n1 % 32 = 0
    · refine .inr ⟨?_, ?_⟩
      · simp; omega
      · simp; omega
    · refine .inl ?_
      simp; omega
  clear hl
  rcases hs with h1 | ⟨h1, h2⟩
  all_goals
    go_enter Try.func7, Try.ntmps7
    go_wp2_with fail
    refine (bytes7_small x y a1 a2 n1 c1 n2 c2 w b1 b2).mono ?_
    rintro e w' ⟨rfl, hw⟩
    have hw2 := hw.symm
    subst hw2
    clear hw
    go_wp2_with fail
    go_ret
    exact ⟨rfl, Below.refl _ _⟩

/-- 'e[:cut]' read: refused. -/
theorem cut_refused (base : Nat) (hbase : base < 18446744073709551616) (l1 l2 : List UInt8) (m1 : l1.length % 32 = 0) (m2 : l2.length % 32 = 0) (b1 : l1.length ≤ 262144) (b2 : l2.length ≤ 262144) (g n c cut : Nat) (w : World)
    (hn : (enc base l1 l2 []).length = n) (hnc : n ≤ c) (hn2 : n ≤ 1048576) (hr : w.rangeAt g 0 (bc (enc base l1 l2 []))) (hcut : cut < n) :
    Calls Try.prog 12 #[.slice (some ⟨g, 0, none⟩) cut c] w fun e w' => e = .returned (.tuple #[.int .i64 0, .map none, .map none, .bool false]) ∧ Below w.heap.size w w' := by
  have hb := enc_cut base hbase l1 l2 m1 m2 b1 b2 cut (by omega)
  have hr2 := range_part hr 0 cut
  rw [Nat.add_zero, List.drop_zero] at hr2
  refine (zzparse (some ⟨g, 0, none⟩) cut c _ w (by rw [List.length_take]; omega) (by omega) (by omega) (.inr ⟨g, 0, rfl, hr2⟩)).mono ?_
  rintro e w' ⟨b, x, y, ok, rfl, hans, hbl⟩
  obtain ⟨rfl, rfl, rfl, rfl⟩ := hans.of_bad hb
  exact ⟨rfl, hbl⟩

set_option maxRecDepth 100000 in
set_option maxHeartbeats 2000000 in
theorem law7_main (base : Nat) (hbase : base < 18446744073709551616) (a1 a2 : Option Addr) (n1 c1 n2 c2 : Nat) (y : Int) (l1 l2 : List UInt8) (w : World) (s1 : Sl w a1 n1 c1 l1) (s2 : Sl w a2 n2 c2 l2)
    (b1 : n1 ≤ 262144) (b2 : n2 ≤ 262144) (m1 : n1 % 32 = 0) (m2 : n2 % 32 = 0) :
    Calls Try.prog 7 #[.int .u64 base, .slice a1 n1 c1, .slice a2 n2 c2, .int .i64 y] w fun e w' => e = .returned (.bool true) ∧ Below w.heap.size w w' := by
  have g1 : ((n1 : Int) % 32 != 0) = false := by simp; omega
  have g2 : ((n2 : Int) % 32 != 0) = false := by simp; omega
  have hln := enc_length base hbase l1 l2 [] (by rw [s1.1]; exact b1) (by rw [s2.1]; exact b2) (by simp)
  have HG : Hid (base ≤ 9223372036854775807 → _) := fun h => enc_good base hbase l1 l2 [] (by rw [s1.1]; exact m1) (by rw [s2.1]; exact m2) (by rw [s1.1]; exact b1) (by rw [s2.1]; exact b2) h
  have HB : Hid (¬ base ≤ 9223372036854775807 → Bad (enc base l1 l2 [])) := fun h => enc_big base hbase l1 l2 [] h
  have HCUT : Hid _ := Hid.mk (cut_refused base hbase l1 l2 (by rw [s1.1]; exact m1) (by rw [s2.1]; exact m2) (by rw [s1.1]; exact b1) (by rw [s2.1]; exact b2))
  have hen := encode base hbase a1 a2 none n1 c1 n2 c2 0 0 l1 l2 [] w s1 s2 ⟨rfl, Nat.le_refl _, by omega, .inl ⟨rfl, rfl, rfl⟩⟩ b1 b2 (by omega)
  obtain ⟨L, HL⟩ : ∃ L : List UInt8, Hid (enc base l1 l2 [] = L) := ⟨_, Hid.mk rfl⟩
  rw [HL.out] at hln HG HB hen HCUT
  clear m1 m2
  go_enter Try.func7, Try.ntmps7
  go_wp2_with fail
  refine (bytes7_small _ y a1 a2 n1 c1 n2 c2 w b1 b2).mono ?_
  rintro e w' ⟨rfl, hw⟩
  have hw2 := hw.symm
  subst hw2
  clear hw
  go_wp2_with fail
  refine hen.mono ?_
  clear hen
  rintro e w1 ⟨v, rfl, hown, hb1⟩
  obtain ⟨g, cp, rfl, hcp, hcm, hg, hr⟩ := own_bs hown (by omega)
  have hgl : g < w1.heap.size := World.block_lt_of_cell? w1 _ (hr 0 _ (List.getElem?_eq_getElem (by rw [bc_length]; omega)))
  clear hown
  go_wp2_with fail
  refine (zzparse (some ⟨g, 0, none⟩) L.length cp L _ rfl hcp hln.2 (.inr ⟨g, 0, rfl, hr⟩)).mono ?_
  rintro e w3 ⟨b, x1, y1, ok, rfl, hans, hb3⟩
  have hb := hb1.trans (hb3.mono hb1.size)
  have hr3 : w3.rangeAt g 0 (bc L) := fun j u hu => (hb3.cell (p := ⟨g, 0 + j, none⟩) hgl).trans (hr j u hu)
  have hg3 : g < w3.heap.size := Nat.lt_of_lt_of_le hgl hb3.size
  clear hb3 hb1 hr hgl
  by_cases hbig : base ≤ 9223372036854775807
  · obtain ⟨r0, r1, r2, e1, e2, e3, e4, e5, e6⟩ := HG.out hbig
    obtain ⟨p1, p2, N1, N2, rfl, rfl, rfl, hok, hw1, hw2⟩ := hans.of_good e1 e2 e3
    rw [e5, s1.1] at hw1
    rw [e6, s2.1] at hw2
    rw [e4] at hok
    have hok' : ok = true := by rw [hok]; rfl
    subst hok'
    clear e1 e2 e3 e4 e5 e6 hans HG HB hok
    have hbig' : (base : Int) ≤ 9223372036854775807 := by omega
    have hvv : ((base : Int) == (base : Int)) = true := by simp
    have t1 := s1.later hb
    have t2 := s2.later hb
    go_wp2_with fail
    refine (holds_int a1 n1 c1 l1 _ _ 0 (n1 / 32) p1 N1 _ rfl (by omega) s1.1 (by omega) s1.2.1 s1.2.2.1 t1.bs (by omega) (by rw [List.drop_zero]; exact hw1)).mono ?_
    rintro e w5 ⟨rfl, hb5⟩
    have hw5 := hw2.kept (w' := w5) (row := none) ⟨hb5.os, hb5.tape, hb5.output, hb5.size, fun k hk _ => hb5.block k hk⟩ (by simp)
    have t5 := t2.later hb5
    have hr5 : w5.rangeAt g 0 (bc L) := fun j u hu => (hb5.cell (p := ⟨g, 0 + j, none⟩) hg3).trans (hr3 j u hu)
    have hg5 : g < w5.heap.size := Nat.lt_of_lt_of_le hg3 hb5.size
    have hbb5 := hb.trans (hb5.mono hb.size)
    clear hw1 hw2 hb5 hb t1 t2 hr3 hg3
    go_wp2_with fail
    refine (holds_int a2 n2 c2 l2 _ _ 0 (n2 / 32) p2 N2 _ rfl (by omega) s2.1 (by omega) s2.2.1 s2.2.2.1 t5.bs (by omega) (by rw [List.drop_zero]; exact hw5)).mono ?_
    rintro e w6 ⟨rfl, hb6⟩
    have hr6 : w6.rangeAt g 0 (bc L) := fun j u hu => (hb6.cell (p := ⟨g, 0 + j, none⟩) hg5).trans (hr5 j u hu)
    have hbb6 := hbb5.trans (hb6.mono hbb5.size)
    clear hw5 hb6 hbb5 t5 hr5 hg5
    by_cases hy0 : y < 0
    · go_wp2_with fail
      go_ret
      exact ⟨rfl, hbb6⟩
    · obtain ⟨cut, rfl⟩ := Int.eq_ofNat_of_zero_le (show 0 ≤ y from by omega)
      by_cases hyc : cut < L.length
      · go_wp2_with fail
        refine (HCUT.out g L.length cp cut w6 rfl hcp hln.2 hr6 hyc).mono ?_
        rintro e w7 ⟨rfl, hb7⟩
        have hbb7 := hbb6.trans (hb7.mono hbb6.size)
        clear hb7 hbb6 hr6
        go_wp2_with fail
        refine (refused_yes _).mono ?_
        rintro e w9 ⟨rfl, rfl⟩
        go_wp2_with fail
        go_ret
        exact ⟨rfl, hbb7⟩
      · go_wp2_with fail
        go_ret
        exact ⟨rfl, hbb6⟩
  · obtain ⟨rfl, rfl, rfl, rfl⟩ := hans.of_bad (HB.out hbig)
    have hbig' : (9223372036854775807 : Int) < (base : Int) := by omega
    clear hans HG HB
    go_wp2_with fail
    refine (refused_yes _).mono ?_
    rintro e w9 ⟨rfl, hw9⟩
    have hw9' := hw9.symm
    subst hw9'
    clear hw9
    by_cases hy0 : y < 0
    · go_wp2_with fail
      go_ret
      exact ⟨rfl, hb⟩
    · obtain ⟨cut, rfl⟩ := Int.eq_ofNat_of_zero_le (show 0 ≤ y from by omega)
      by_cases hyc : cut < L.length
      · go_wp2_with fail
        refine (HCUT.out g L.length cp cut w3 rfl hcp hln.2 hr3 hyc).mono ?_
        rintro e w7 ⟨rfl, hb7⟩
        have hbb7 := hb.trans (hb7.mono hb.size)
        clear hb7 hb hr3
        go_wp2_with fail
        refine (refused_yes _).mono ?_
        rintro e w9 ⟨rfl, rfl⟩
        go_wp2_with fail
        go_ret
        exact ⟨rfl, hbb7⟩
      · go_wp2_with fail
        go_ret
        exact ⟨rfl, hb⟩
end Go.Proofs.Qxb6620878a
