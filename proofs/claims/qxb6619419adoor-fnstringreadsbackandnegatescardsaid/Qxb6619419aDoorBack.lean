/-
  The text of an amount read back, and the law (3).
-/
import Derived.Test.Qxb6619419aDoorRead
namespace Go.Proofs.Qxb6619419aDoor
open Go.RowKit

theorem dg_val (u j : Nat) : u / 10 ^ j = u / 10 ^ (j + 1) * 10 + ((Lib.dg u j).toNat - 48) := by
  rw [Dc.dg_toNat, Nat.pow_succ, ← Nat.div_div_eq_div_mul]
  omega

/-- What has been read, i signs from the left (o: where the digits begin, e: where they end). -/
def vlOf (m e : Nat) (i : Nat) : Nat := if i ≤ e then m / 100 / 10 ^ (e - i) else if i = e + 1 then m / 100 else if i = e + 2 then m / 10 else m

theorem div_le' (a b : Nat) : a / b ≤ a := Nat.div_le_self a b

theorem first_digit (u : Nat) (h : 1 < Lib.nDigits u) : (Lib.dg u (Lib.nDigits u - 1)).toNat ≠ 48 := by
  have hu : 1 ≤ u := by
    cases u with
    | zero =>
      have : Lib.nDigits 0 = 1 := Lib.nDigits_small (by omega)
      omega
    | succ u => omega
  have h1 := Dc.pow_nDigits_le u hu
  have h2 := Lib.lt_pow_nDigits u
  have hp : 0 < 10 ^ (Lib.nDigits u - 1) := Nat.pow_pos (by omega)
  rw [Dc.dg_toNat]
  have e1 : 10 ^ Lib.nDigits u = 10 ^ (Lib.nDigits u - 1) * 10 := by rw [← Nat.pow_succ]; congr 1; omega
  rw [e1] at h2
  have h3 : u / 10 ^ (Lib.nDigits u - 1) < 10 := Nat.div_lt_of_lt_mul h2
  have h4 : 1 ≤ u / 10 ^ (Lib.nDigits u - 1) := (Nat.one_le_div_iff hp).2 h1
  omega

/-- THE TEXT OF m, BEHIND o OTHER SIGNS, IS READ AS m. -/
theorem read_at (pre : List UInt8) (ng : Bool) (hpre : (pre = [] ∧ ng = false) ∨ (pre = [45] ∧ ng = true)) (m : Nat) (hm : m < 18446744073709551616) (hz : ng = true → m ≠ 0) (w : World) :
    Calls Tryd.prog 7 #[.string ⟨(pre ++ ustr m).toArray⟩] w fun r w' => r = .returned (.tuple #[.bool ng, .int .u64 m, .bool true]) ∧ w' = w := by
  have hD := Lib.decDigits_length (m / 100)
  have h20 := Lib.nDigits_le20 (m / 100) (by omega)
  have hp := Lib.nDigits_pos (m / 100)
  have ho : (pre.length = 0 ∧ ng = false) ∨ (pre.length = 1 ∧ ng = true) := by
    rcases hpre with ⟨rfl, h⟩ | ⟨rfl, h⟩
    · exact Or.inl ⟨rfl, h⟩
    · exact Or.inr ⟨rfl, h⟩
  have hlen : (pre ++ ustr m).length = pre.length + Lib.nDigits (m / 100) + 3 := by rw [List.length_append, ustr_length]; omega
  have gd : ∀ i (h : i < Lib.nDigits (m / 100)), (pre ++ ustr m)[pre.length + i]'(by omega) = Lib.dg (m / 100) (Lib.nDigits (m / 100) - 1 - i) := by
    intro i h
    rw [List.getElem_append_right (by omega)]
    simp only [Nat.add_sub_cancel_left, ustr]
    rw [List.getElem_append_left (by omega)]
    simp only [Dc.dec_low, Dc.low_get]
  have gt : ∀ i (h : i < 3), (pre ++ ustr m)[pre.length + Lib.nDigits (m / 100) + i]'(by omega) = [46, dgt (m / 10 % 10), dgt (m % 10)][i]'(by simpa using h) := by
    intro i h
    rw [List.getElem_append_right (by omega)]
    simp only [ustr]
    rw [List.getElem_append_right (by omega)]
    congr 1
    omega
  have hx := dgt_toNat (k := m / 10 % 10) (by omega)
  have hy := dgt_toNat (k := m % 10) (by omega)
  have g0 := gt 0 (by omega)
  have g1 := gt 1 (by omega)
  have g2 := gt 2 (by omega)
  simp only [List.getElem_cons_zero, List.getElem_cons_succ, Nat.add_zero] at g0 g1 g2
  have hw := read_walk ⟨(pre ++ ustr m).toArray⟩ pre.length (pre.length + Lib.nDigits (m / 100)) ng ho (by omega) (by rw [ba_size]; omega) (by omega)
    (by
      rcases hpre with ⟨rfl, rfl⟩ | ⟨rfl, rfl⟩
      · exact ustr_first m _
      · rfl)
    (fun i h h1 h2 => by
      rw [ba_get _ _ (by omega)]
      obtain ⟨j, rfl⟩ : ∃ j, i = pre.length + j := ⟨i - pre.length, by omega⟩
      by_cases hj : j < Lib.nDigits (m / 100)
      · rw [gd j hj]
        exact Dc.dg_range _ _
      · have : j = Lib.nDigits (m / 100) + 1 ∨ j = Lib.nDigits (m / 100) + 2 := by omega
        rcases this with rfl | rfl
        · simp only [← Nat.add_assoc]
          rw [g1]
          omega
        · simp only [← Nat.add_assoc]
          rw [g2]
          omega)
    (by
      by_cases h1 : Lib.nDigits (m / 100) = 1
      · exact Or.inl (by omega)
      · refine Or.inr ⟨by omega, ?_⟩
        rw [beq_eq_false_iff_ne, ba_get _ _ (by omega)]
        have := gd 0 (by omega)
        simp only [Nat.add_zero, Nat.sub_zero] at this
        rw [this]
        have := first_digit (m / 100) (by omega)
        omega)
    (by rw [ba_get _ _ (by omega), g0]; rfl)
    (vlOf m (pre.length + Lib.nDigits (m / 100)))
    (by
      rw [vlOf, if_pos (by omega), Nat.add_sub_cancel_left]
      exact Nat.div_eq_of_lt (Lib.lt_pow_nDigits _))
    (fun i h h1 h2 => by
      rw [ba_get _ _ (by omega)]
      obtain ⟨j, rfl⟩ : ∃ j, i = pre.length + j := ⟨i - pre.length, by omega⟩
      by_cases hj : j < Lib.nDigits (m / 100)
      · rw [gd j hj, vlOf, vlOf, if_pos (by omega), if_pos (by omega)]
        have := dg_val (m / 100) (Lib.nDigits (m / 100) - 1 - j)
        rw [show pre.length + Lib.nDigits (m / 100) - (pre.length + j + 1) = Lib.nDigits (m / 100) - 1 - j from by omega, show pre.length + Lib.nDigits (m / 100) - (pre.length + j) = Lib.nDigits (m / 100) - 1 - j + 1 from by omega]
        exact this
      · have : j = Lib.nDigits (m / 100) + 1 ∨ j = Lib.nDigits (m / 100) + 2 := by omega
        rcases this with rfl | rfl
        · simp only [← Nat.add_assoc]
          rw [g1, hx, vlOf, vlOf, if_neg (by omega), if_neg (by omega), if_pos (by omega), if_neg (by omega), if_pos (by omega)]
          omega
        · simp only [← Nat.add_assoc]
          rw [g2, hy, vlOf, vlOf, if_neg (by omega), if_neg (by omega), if_neg (by omega), if_neg (by omega), if_neg (by omega), if_pos (by omega)]
          omega)
    (by rw [vlOf, vlOf, if_neg (by omega), if_pos rfl, if_pos (Nat.le_refl _), Nat.sub_self, Nat.pow_zero, Nat.div_one])
    (fun i _ => by
      unfold vlOf
      have := div_le' (m / 100) (10 ^ (pre.length + Lib.nDigits (m / 100) - i))
      split
      · omega
      · split
        · omega
        · split <;> omega)
    (fun h => by
      rw [vlOf, if_neg (by omega), if_neg (by omega), if_neg (by omega)]
      exact hz h)
    w
  rw [vlOf, if_neg (by omega), if_neg (by omega), if_neg (by omega)] at hw
  exact hw

theorem read_str (a : Int) (ha : -9223372036854775808 ≤ a ∧ a ≤ 9223372036854775807) (w : World) :
    Calls Tryd.prog 7 #[.string ⟨(str a).toArray⟩] w fun r w' => r = .returned (.tuple #[.bool (decide (a < 0)), .int .u64 a.natAbs, .bool true]) ∧ w' = w := by
  by_cases h : a < 0
  · rw [str_of_neg h, decide_eq_true h]
    exact read_at [45] true (Or.inr ⟨rfl, rfl⟩) a.natAbs (by omega) (fun _ => by omega) w
  · rw [str_of_nonneg (by omega), decide_eq_false h]
    exact read_at [] false (Or.inl ⟨rfl, rfl⟩) a.natAbs (by omega) (fun h => by cases h) w

set_option maxRecDepth 100000 in
theorem mag8 (a : Int) (ha : -9223372036854775808 ≤ a ∧ a ≤ 9223372036854775807) (w : World) :
    Calls Tryd.prog 8 #[.int .i64 a] w fun r w' => r = .returned (.int .u64 a.natAbs) ∧ w' = w := by
  obtain ⟨h1, h2⟩ := ha
  by_cases h : 0 ≤ a
  · rw [show ((a.natAbs : Nat) : Int) = a from by omega]
    go_enter Tryd.func8, Tryd.ntmps8
    go_wp2_with fail
    go_ret
    exact ⟨rfl, rfl⟩
  · obtain ⟨b, hb⟩ : ∃ b : Int, -(a + 1) = b := ⟨_, rfl⟩
    rw [show ((a.natAbs : Nat) : Int) = b + 1 from by omega]
    have hb1 : 0 ≤ b := by omega
    have hb2 : b ≤ 9223372036854775807 := by omega
    have hn : a < 0 := by omega
    go_enter Tryd.func8, Tryd.ntmps8
    go_wp2_with fail
    go_ret
    exact ⟨rfl, rfl⟩

/-- What the negative reads as. -/
def negIs (a : Int) (s t : ByteArray) : Prop := (0 < a → (⟨#[45]⟩ : ByteArray) ++ s = t) ∧ (a < 0 → (⟨#[45]⟩ : ByteArray) ++ t = s) ∧ (a = 0 → t = s)

theorem minus_cat (L : List UInt8) : (⟨#[45]⟩ : ByteArray) ++ (⟨L.toArray⟩ : ByteArray) = ⟨(45 :: L).toArray⟩ := by
  apply ByteArray.ext
  rw [ByteArray.data_append]
  simp

theorem neg_is (a : Int) : negIs a ⟨(str a).toArray⟩ ⟨(str (-a)).toArray⟩ := by
  refine ⟨fun h => ?_, fun h => ?_, fun h => ?_⟩
  · rw [str_of_nonneg (by omega), str_of_neg (by omega), minus_cat, Int.natAbs_neg]
  · rw [str_of_neg h, str_of_nonneg (by omega), minus_cat, Int.natAbs_neg]
  · subst h
    rfl

theorem str_len40 (a : Int) (ha : -9223372036854775808 ≤ a ∧ a ≤ 9223372036854775807) : (str a).length ≤ 40 := by
  have := ustr_len30 (m := a.natAbs) (by omega)
  rw [str]
  split
  · rw [List.length_cons]; omega
  · omega

set_option maxRecDepth 100000 in
set_option maxHeartbeats 1000000 in
theorem law3 (a : Int) (h : (Lit.int .i64 a).wf = true) (w : World) (htab : Lib.TabIs Tryd.prog w powName .u64 Lib.pow10Tab) :
    Calls Tryd.prog 3 #[.int .i64 a] w fun e w' => e = .returned (.bool true) ∧ Below w.heap.size w w' := by
  have ha := i64_range h
  have HT := Hid.mk htab
  have HA := Hid.mk ha
  clear htab h
  have HN := Hid.mk (neg_is a)
  obtain ⟨sa, HSA⟩ : ∃ s : ByteArray, Hid ((⟨(str a).toArray⟩ : ByteArray) = s) := ⟨_, Hid.mk rfl⟩
  obtain ⟨sb, HSB⟩ : ∃ s : ByteArray, Hid ((⟨(str (-a)).toArray⟩ : ByteArray) = s) := ⟨_, Hid.mk rfl⟩
  rw [HSA.out, HSB.out] at HN
  have hza : ¬ 9223372036854775807 < 1 + sa.size := by
    have := str_len40 a HA.out
    rw [← HSA.out, ba_size]
    omega
  have hzb : ¬ 9223372036854775807 < 1 + sb.size := by
    have := ustr_len30 (m := (-a).natAbs) (by have := HA.out; omega)
    rw [← HSB.out, ba_size, str]
    split
    · rw [List.length_cons]; omega
    · omega
  have HR : Hid (∀ w, Calls Tryd.prog 7 #[.string sa] w fun r w' => r = .returned (.tuple #[.bool (decide (a < 0)), .int .u64 a.natAbs, .bool true]) ∧ w' = w) := Hid.mk (fun w => by
    have := read_str a HA.out w
    rw [HSA.out] at this
    exact this)
  have HSa : Hid (∀ w, Lib.TabIs Tryd.prog w powName .u64 Lib.pow10Tab → Calls Tryd.prog 6 #[.int .i64 a] w fun e w' => e = .returned (.string sa) ∧ Below w.heap.size w w') := Hid.mk (fun w h => by
    have := str_any a HA.out.1 HA.out.2 w h
    rw [HSA.out] at this
    exact this)
  have HSb : Hid (-9223372036854775807 ≤ a → ∀ w, Lib.TabIs Tryd.prog w powName .u64 Lib.pow10Tab → Calls Tryd.prog 6 #[.int .i64 (-a)] w fun e w' => e = .returned (.string sb) ∧ Below w.heap.size w w') := Hid.mk (fun hh w h => by
    have := str_any (-a) (by have := HA.out; omega) (by omega) w h
    rw [HSB.out] at this
    exact this)
  have HM8 : Hid (∀ w, Calls Tryd.prog 8 #[.int .i64 a] w fun r w' => r = .returned (.int .u64 a.natAbs) ∧ w' = w) := Hid.mk (fun w => mag8 a HA.out w)
  clear HSA HSB
  obtain ⟨mg, HMG⟩ : ∃ x : Int, Hid ((a.natAbs : Int) = x) := ⟨_, Hid.mk rfl⟩
  rw [HMG.out] at HR HM8
  clear ha
  by_cases hmin : a = -9223372036854775808
  · have hq : (a == -9223372036854775808) = true := by simpa using hmin
    have hneg : a < 0 := by omega
    rw [decide_eq_true hneg] at HR
    have hlt : decide (a < 0) = true := decide_eq_true hneg
    clear hmin
    go_enter Tryd.func3, Tryd.ntmps3
    go_wp2_with fail
    refine (HSa.out w HT.out).mono ?_
    rintro e w1 ⟨rfl, hb1⟩
    go_wp2_with fail
    refine (HR.out w1).mono ?_
    rintro e w2 ⟨rfl, hw⟩
    have := hw.symm
    subst this
    go_wp2_with fail
    refine (HM8.out w1).mono ?_
    rintro e w3 ⟨rfl, hw⟩
    have := hw.symm
    subst this
    go_wp2_with fail
    go_ret
    exact ⟨rfl, hb1⟩
  · have hq : (a == -9223372036854775808) = false := by rw [beq_eq_false_iff_ne]; exact hmin
    have hlow : -9223372036854775807 ≤ a := by have := HA.out; omega
    clear hmin
    have hup : a ≤ 9223372036854775807 := HA.out.2
    rcases Int.lt_trichotomy a 0 with hc | hc | hc
    · have hcat := HN.out.2.1 hc
      have hlt : decide (a < 0) = true := decide_eq_true hc
      have hg : ¬ (0 < a) := by omega
      go_enter Tryd.func3, Tryd.ntmps3
      go_wp2_with fail
      refine (HSa.out w HT.out).mono ?_
      rintro e w1 ⟨rfl, hb1⟩
      go_wp2_with fail
      refine (HR.out w1).mono ?_
      rintro e w2 ⟨rfl, hw⟩
      have := hw.symm
      subst this
      go_wp2_with fail
      refine (HM8.out w1).mono ?_
      rintro e w3 ⟨rfl, hw⟩
      have := hw.symm
      subst this
      go_wp2_with fail
      refine (HSb.out hlow w1 (tab_later HT.out hb1)).mono ?_
      rintro e w4 ⟨rfl, hb2⟩
      have hbb := hb1.trans (hb2.mono hb1.size)
      clear hb1 hb2
      go_wp2_with fail
      go_ret
      exact ⟨by first | rfl | simp [hcat], hbb⟩
    · have hcat := HN.out.2.2 hc
      have hlt : decide (a < 0) = false := decide_eq_false (by omega)
      have hg : ¬ (0 < a) := by omega
      have hg' : ¬ (a < 0) := by omega
      clear hc
      go_enter Tryd.func3, Tryd.ntmps3
      go_wp2_with fail
      refine (HSa.out w HT.out).mono ?_
      rintro e w1 ⟨rfl, hb1⟩
      go_wp2_with fail
      refine (HR.out w1).mono ?_
      rintro e w2 ⟨rfl, hw⟩
      have := hw.symm
      subst this
      go_wp2_with fail
      refine (HM8.out w1).mono ?_
      rintro e w3 ⟨rfl, hw⟩
      have := hw.symm
      subst this
      go_wp2_with fail
      refine (HSb.out hlow w1 (tab_later HT.out hb1)).mono ?_
      rintro e w4 ⟨rfl, hb2⟩
      have hbb := hb1.trans (hb2.mono hb1.size)
      clear hb1 hb2
      go_wp2_with fail
      go_ret
      exact ⟨by first | rfl | simp [hcat], hbb⟩
    · have hcat := HN.out.1 hc
      have hlt : decide (a < 0) = false := decide_eq_false (by omega)
      go_enter Tryd.func3, Tryd.ntmps3
      go_wp2_with fail
      refine (HSa.out w HT.out).mono ?_
      rintro e w1 ⟨rfl, hb1⟩
      go_wp2_with fail
      refine (HR.out w1).mono ?_
      rintro e w2 ⟨rfl, hw⟩
      have := hw.symm
      subst this
      go_wp2_with fail
      refine (HM8.out w1).mono ?_
      rintro e w3 ⟨rfl, hw⟩
      have := hw.symm
      subst this
      go_wp2_with fail
      refine (HSb.out hlow w1 (tab_later HT.out hb1)).mono ?_
      rintro e w4 ⟨rfl, hb2⟩
      have hbb := hb1.trans (hb2.mono hb1.size)
      clear hb1 hb2
      go_wp2_with fail
      go_ret
      exact ⟨by first | rfl | simp [hcat], hbb⟩
end Go.Proofs.Qxb6619419aDoor
