/-
  The order of texts (12, 9) and the law of the order (4).
-/
import Derived.Test.Qxb6619419aDoorInc
import Derived.BigQuiet
namespace Go.Proofs.Qxb6619419aDoor
open Go.RowKit

namespace Dc
open Go.Lib (dg decDigits nDigits nDigits_pos lt_pow_nDigits)
/-- The first sign that differs is the lesser. -/
def Lx (l r : List UInt8) : Prop := ∃ p a b s t, l = p ++ a :: s ∧ r = p ++ b :: t ∧ a.toNat < b.toNat ∧ s.length = t.length

theorem Lx.cons {l r : List UInt8} (c : UInt8) (h : Lx l r) : Lx (c :: l) (c :: r) := by
  obtain ⟨p, a, b, s, t, rfl, rfl, h1, h2⟩ := h
  exact ⟨c :: p, a, b, s, t, rfl, rfl, h1, h2⟩
theorem Lx.app {l r : List UInt8} (x y : List UInt8) (hxy : x.length = y.length) (h : Lx l r) : Lx (l ++ x) (r ++ y) := by
  obtain ⟨p, a, b, s, t, rfl, rfl, h1, h2⟩ := h
  exact ⟨p, a, b, s ++ x, t ++ y, by simp, by simp, h1, by simp [h2, hxy]⟩
theorem Lx.pre {l r : List UInt8} (x : List UInt8) (h : Lx l r) : Lx (x ++ l) (x ++ r) := by
  obtain ⟨p, a, b, s, t, rfl, rfl, h1, h2⟩ := h
  exact ⟨x ++ p, a, b, s, t, by simp, by simp, h1, h2⟩

theorem lx_low (u v : Nat) : ∀ k, u % 10 ^ k < v % 10 ^ k → Lx (low u k) (low v k)
  | 0, h => by simp [Nat.mod_one] at h
  | k + 1, h => by
    rw [mod_succ, mod_succ] at h
    have hP : 0 < 10 ^ k := Nat.pow_pos (by omega)
    have hu := Nat.mod_lt u hP
    have hv := Nat.mod_lt v hP
    have du := dg_toNat u k
    have dv := dg_toNat v k
    rcases Nat.lt_trichotomy (u / 10 ^ k % 10) (v / 10 ^ k % 10) with hc | hc | hc
    · exact ⟨[], dg u k, dg v k, low u k, low v k, rfl, rfl, by omega, by rw [low_length, low_length]⟩
    · have e : dg u k = dg v k := by rw [dg, dg, hc]
      rw [hc] at h
      have := lx_low u v k (by omega)
      rw [low, low, e]
      exact this.cons _
    · exfalso
      have : 10 ^ k * (v / 10 ^ k % 10 + 1) ≤ 10 ^ k * (u / 10 ^ k % 10) := Nat.mul_le_mul_left _ hc
      rw [Nat.mul_add] at this
      omega

theorem nDigits_mono {u v : Nat} (h : u ≤ v) : nDigits u ≤ nDigits v := by
  rcases Nat.lt_or_ge (nDigits v) (nDigits u) with hc | hc
  · have hp := nDigits_pos v
    have hu : 1 ≤ u := by
      cases u with
      | zero =>
        have : nDigits 0 = 1 := Go.Lib.nDigits_small (by omega)
        omega
      | succ u => omega
    have h1 := pow_nDigits_le u hu
    have h2 := lt_pow_nDigits v
    have h3 : 10 ^ nDigits v ≤ 10 ^ (nDigits u - 1) := Nat.pow_le_pow_right (by omega) (by omega)
    omega
  · exact hc
end Dc

theorem ustr_length (m : Nat) : (ustr m).length = Lib.nDigits (m / 100) + 3 := by
  simp [ustr, Lib.decDigits_length]

/-- A LESSER AMOUNT HAS THE LESSER TEXT: the shorter one, or the one whose first differing sign is less. -/
theorem ustr_less {m n : Nat} (h : m < n) : (ustr m).length < (ustr n).length ∨ ((ustr m).length = (ustr n).length ∧ Dc.Lx (ustr m) (ustr n)) := by
  have hmono := Dc.nDigits_mono (show m / 100 ≤ n / 100 by omega)
  rcases Nat.lt_or_ge (Lib.nDigits (m / 100)) (Lib.nDigits (n / 100)) with hc | hc
  · left
    rw [ustr_length, ustr_length]
    omega
  · right
    have he : Lib.nDigits (m / 100) = Lib.nDigits (n / 100) := by omega
    refine ⟨by rw [ustr_length, ustr_length, he], ?_⟩
    have x1 := dgt_toNat (k := m / 10 % 10) (by omega)
    have x2 := dgt_toNat (k := m % 10) (by omega)
    have y1 := dgt_toNat (k := n / 10 % 10) (by omega)
    have y2 := dgt_toNat (k := n % 10) (by omega)
    unfold ustr
    rcases Nat.lt_or_ge (m / 100) (n / 100) with hd | hd
    · refine Dc.Lx.app _ _ rfl ?_
      rw [Dc.dec_low, Dc.dec_low, he]
      refine Dc.lx_low _ _ _ ?_
      have e1 := Lib.lt_pow_nDigits (m / 100)
      have e2 := Lib.lt_pow_nDigits (n / 100)
      rw [he] at e1
      rw [Nat.mod_eq_of_lt e1, Nat.mod_eq_of_lt e2]
      exact hd
    · have e : m / 100 = n / 100 := by omega
      rw [e]
      refine Dc.Lx.pre _ ?_
      rcases Nat.lt_or_ge (m / 10 % 10) (n / 10 % 10) with h1 | h1
      · exact ⟨[46], _, _, _, _, rfl, rfl, by omega, rfl⟩
      · have e1 : m / 10 % 10 = n / 10 % 10 := by omega
        rw [e1]
        exact ⟨[46, dgt (n / 10 % 10)], _, _, _, _, rfl, rfl, by omega, rfl⟩

set_option maxRecDepth 100000 in
set_option maxHeartbeats 400000 in
theorem cmp_len (s t : ByteArray) (m n : Nat) (hs : s.size = m) (ht : t.size = n) (_hm : m ≤ 30) (_hn : n ≤ 30) (hc : m ≠ n) (w : World) :
    Calls Tryd.prog 12 #[.string s, .string t] w fun e w' => e = .returned (.int .i64 (if m < n then -1 else 1)) ∧ w' = w := by
  rcases Nat.lt_or_gt_of_ne hc with h | h
  · rw [if_pos h]
    clear hc
    go_enter Tryd.func12, Tryd.ntmps12
    go_wp2_with fail
    go_ret
    exact ⟨rfl, rfl⟩
  · rw [if_neg (by omega)]
    clear hc
    have hh : ¬ m < n := by omega
    go_enter Tryd.func12, Tryd.ntmps12
    go_wp2_with fail
    go_ret
    exact ⟨rfl, rfl⟩

set_option maxRecDepth 100000 in
set_option maxHeartbeats 1000000 in
theorem cmp_diff (s t : ByteArray) (n k : Nat) (hs : s.size = n) (ht : t.size = n) (hn : n ≤ 30) (hk : k < n) (c : Int) (w : World)
    (heq : ∀ i (h : i < k), s[i]'(by omega) = t[i]'(by omega))
    (hd : ((s[k]'(by omega)).toNat < (t[k]'(by omega)).toNat ∧ c = -1) ∨ ((t[k]'(by omega)).toNat < (s[k]'(by omega)).toNat ∧ c = 1)) :
    Calls Tryd.prog 12 #[.string s, .string t] w fun e w' => e = .returned (.int .i64 c) ∧ ∃ q, w' = w.drewN q := by
  have HE := Hid.mk heq
  have HD := Hid.mk hd
  clear heq hd
  go_enter Tryd.func12, Tryd.ntmps12
  go_wp2_with fail
  go_loopw [5] (fun i wr => ∃ j q : Nat, j ≤ k ∧ i = .int .i64 j ∧ wr = w.drewN q) (fun i _ => n - (intOf i).toNat)
  case atStart => exact ⟨0, 0, by omega, rfl, rfl⟩
  case round =>
    obtain ⟨j, q, hj, rfl, rfl⟩ := hrel
    by_cases hlt : j < k
    · have he := HE.out j hlt
      have hjn : j < n := by omega
      go_wp2_with fail
      go_quiet (fail)
      go_wp2_with fail
      go_quiet (fail)
      go_wp2_with fail
      exact ⟨⟨j + 1, _, by omega, by go_num, rfl⟩, by simp [intOf] <;> omega⟩
    · have hjk : j = k := by omega
      subst hjk
      rcases HD.out with ⟨h1, rfl⟩ | ⟨h1, rfl⟩
      · go_wp2_with fail
        go_quiet (fail)
        go_wp2_with fail
        go_ret
        exact ⟨rfl, _, World.drewN_drewN ..⟩
      · go_wp2_with fail
        go_quiet (fail)
        go_wp2_with fail
        go_quiet (fail)
        go_wp2_with fail
        go_ret
        exact ⟨rfl, _, by simp only [World.drewN_drewN]; rfl⟩

set_option maxRecDepth 100000 in
set_option maxHeartbeats 1000000 in
theorem cmp_same (s : ByteArray) (n : Nat) (hs : s.size = n) (hn : n ≤ 30) (w : World) :
    Calls Tryd.prog 12 #[.string s, .string s] w fun e w' => e = .returned (.int .i64 0) ∧ ∃ q, w' = w.drewN q := by
  go_enter Tryd.func12, Tryd.ntmps12
  go_wp2_with fail
  go_loopw [5] (fun i wr => ∃ j q : Nat, j ≤ n ∧ i = .int .i64 j ∧ wr = w.drewN q) (fun i _ => n - (intOf i).toNat)
  case atStart => exact ⟨0, 0, by omega, rfl, rfl⟩
  case round =>
    obtain ⟨j, q, hj, rfl, rfl⟩ := hrel
    by_cases hlt : j < n
    · go_wp2_with fail
      go_quiet (fail)
      go_wp2_with fail
      go_quiet (fail)
      go_wp2_with fail
      exact ⟨⟨j + 1, _, by omega, by go_num, rfl⟩, by simp [intOf] <;> omega⟩
    · have hjk : j = n := by omega
      subst hjk
      go_wp2_with fail
      go_ret
      exact ⟨rfl, _, rfl⟩

/-- What is to come of the two. -/
def ordIs (m n : Int) (c : Int) : Prop := (m < n ∧ c = -1) ∨ (m = n ∧ c = 0) ∨ (n < m ∧ c = 1)

theorem lx_get {l r : List UInt8} (h : Dc.Lx l r) : ∃ k, ∃ (h1 : k < l.length) (h2 : k < r.length), (∀ i (h : i < k), l[i]'(by omega) = r[i]'(by omega)) ∧ l[k].toNat < r[k].toNat := by
  obtain ⟨p, a, b, s, t, rfl, rfl, h1, h2⟩ := h
  refine ⟨p.length, by simp, by simp, fun i h => ?_, ?_⟩
  · rw [List.getElem_append_left h, List.getElem_append_left h]
  · rw [List.getElem_append_right (Nat.le_refl _), List.getElem_append_right (Nat.le_refl _)]
    simpa using h1

theorem ustr_len30 {m : Nat} (h : m < 18446744073709551616) : (ustr m).length ≤ 30 := by
  rw [ustr_length]
  have := Lib.nDigits_le20 (m / 100) (by omega)
  omega

theorem cmp_ustr (m n : Nat) (c : Int) (hc : ordIs m n c) (hm : m < 18446744073709551616) (hn : n < 18446744073709551616) (w : World) :
    Calls Tryd.prog 12 #[.string ⟨(ustr m).toArray⟩, .string ⟨(ustr n).toArray⟩] w fun e w' => e = .returned (.int .i64 c) ∧ ∃ q, w' = w.drewN q := by
  have l1 := ustr_len30 hm
  have l2 := ustr_len30 hn
  rcases hc with ⟨h, rfl⟩ | ⟨h, rfl⟩ | ⟨h, rfl⟩
  · have h' : m < n := by omega
    rcases ustr_less h' with hl | ⟨hl, hx⟩
    · refine (cmp_len _ _ _ _ (ba_size _) (ba_size _) l1 l2 (by omega) w).mono fun e w' ⟨he, hw⟩ => ?_
      rw [if_pos hl] at he
      exact ⟨he, 0, hw⟩
    · obtain ⟨k, h1, h2, he, hlt⟩ := lx_get hx
      exact cmp_diff _ _ _ k (ba_size _) ((ba_size _).trans hl.symm) l1 h1 (-1) w (fun i h => he i h) (Or.inl ⟨hlt, rfl⟩)
  · have h' : m = n := by omega
    subst h'
    exact cmp_same _ _ (ba_size _) l1 w
  · have h' : n < m := by omega
    rcases ustr_less h' with hl | ⟨hl, hx⟩
    · refine (cmp_len _ _ _ _ (ba_size _) (ba_size _) l1 l2 (by omega) w).mono fun e w' ⟨he, hw⟩ => ?_
      rw [if_neg (by omega)] at he
      exact ⟨he, 0, hw⟩
    · obtain ⟨k, h1, h2, he, hlt⟩ := lx_get hx
      exact cmp_diff _ _ _ k (ba_size _) ((ba_size _).trans hl) l1 h2 1 w (fun i h => (he i h).symm) (Or.inr ⟨hlt, rfl⟩)

set_option maxRecDepth 100000 in
set_option maxHeartbeats 1000000 in
/-- The signs differ. -/
theorem ord_signs (s t : ByteArray) (m n : Nat) (hs : s.size = m + 1) (ht : t.size = n + 1) (hm : m ≤ 40) (hn : n ≤ 40) (b : Bool)
    (h1 : (((s[0]'(by omega)).toNat : Int) == 45) = b) (h2 : (((t[0]'(by omega)).toNat : Int) == 45) = !b) (w : World) :
    Calls Tryd.prog 9 #[.string s, .string t] w fun e w' => e = .returned (.int .i64 (if b then -1 else 1)) ∧ ∃ q, w' = w.drewN q := by
  cases b
  · have h2' : (((t[0]'(by omega)).toNat : Int) == 45) = true := h2
    clear h2
    go_enter Tryd.func9, Tryd.ntmps9
    go_wp2_with fail
    go_ret
    exact ⟨rfl, 0, rfl⟩
  · have h2' : (((t[0]'(by omega)).toNat : Int) == 45) = false := h2
    clear h2
    go_enter Tryd.func9, Tryd.ntmps9
    go_wp2_with fail
    go_ret
    exact ⟨rfl, 0, rfl⟩

set_option maxRecDepth 100000 in
set_option maxHeartbeats 1000000 in
theorem ord_pos (s t : ByteArray) (m n : Nat) (hs : s.size = m + 1) (ht : t.size = n + 1) (hm : m ≤ 40) (hn : n ≤ 40) (c : Int)
    (h1 : (((s[0]'(by omega)).toNat : Int) == 45) = false) (h2 : (((t[0]'(by omega)).toNat : Int) == 45) = false)
    (hc : ∀ w, Calls Tryd.prog 12 #[.string s, .string t] w fun e w' => e = .returned (.int .i64 c) ∧ ∃ q, w' = w.drewN q) (w : World) :
    Calls Tryd.prog 9 #[.string s, .string t] w fun e w' => e = .returned (.int .i64 c) ∧ ∃ q, w' = w.drewN q := by
  have HC := Hid.mk hc
  clear hc
  go_enter Tryd.func9, Tryd.ntmps9
  go_wp2_with fail
  refine (HC.out w).mono ?_
  rintro e w1 ⟨rfl, q, rfl⟩
  go_wp2_with fail
  go_ret
  exact ⟨rfl, _, rfl⟩

set_option maxRecDepth 100000 in
set_option maxHeartbeats 1000000 in
theorem ord_neg (s t : ByteArray) (m n : Nat) (hs : s.size = m + 1) (ht : t.size = n + 1) (hm : m ≤ 40) (hn : n ≤ 40) (c : Int) (s' t' : ByteArray)
    (h1 : (((s[0]'(by omega)).toNat : Int) == 45) = true) (h2 : (((t[0]'(by omega)).toNat : Int) == 45) = true)
    (hs' : s.extract 1 s.size = s') (ht' : t.extract 1 t.size = t')
    (hc : ∀ w, Calls Tryd.prog 12 #[.string t', .string s'] w fun e w' => e = .returned (.int .i64 c) ∧ ∃ q, w' = w.drewN q) (w : World) :
    Calls Tryd.prog 9 #[.string s, .string t] w fun e w' => e = .returned (.int .i64 c) ∧ ∃ q, w' = w.drewN q := by
  have HC := Hid.mk hc
  clear hc
  have hsl : ∀ wx, (Instr.slice 9 (.string s) (some (.int .i64 1)) none none).run Tryd.prog wx = .ok (.string s') wx := fun wx => by
    rw [run_slice_string_from_if wx 9 s .i64 1 Tryd.underlying9, if_pos ⟨by omega, by omega⟩]
    exact congrArg (fun z => Result.ok (Value.string z) wx) hs'
  have htl : ∀ wx, (Instr.slice 9 (.string t) (some (.int .i64 1)) none none).run Tryd.prog wx = .ok (.string t') wx := fun wx => by
    rw [run_slice_string_from_if wx 9 t .i64 1 Tryd.underlying9, if_pos ⟨by omega, by omega⟩]
    exact congrArg (fun z => Result.ok (Value.string z) wx) ht'
  clear hs' ht'
  go_enter Tryd.func9, Tryd.ntmps9
  go_wp2_with fail
  go_quiet ((go_at_call 12; exact Calls.quiet_of (HC.out _)))
  go_wp2_with fail
  go_ret
  exact ⟨rfl, _, rfl⟩

theorem ustr_first (m : Nat) (h : 0 < (⟨(ustr m).toArray⟩ : ByteArray).size) : ((((⟨(ustr m).toArray⟩ : ByteArray)[0]'h).toNat : Int) == 45) = false := by
  have hl := Lib.decDigits_length (m / 100)
  have hp := Lib.nDigits_pos (m / 100)
  have hh : 0 < (ustr m).length := by rw [ustr_length]; omega
  rw [beq_eq_false_iff_ne, ba_get _ 0 hh]
  simp only [ustr]
  rw [List.getElem_append_left (by omega)]
  simp only [Dc.dec_low, Dc.low_get]
  have := Dc.dg_range (m / 100) (Lib.nDigits (m / 100) - 1 - 0)
  omega

theorem cut_first (c : UInt8) (L : List UInt8) : (⟨(c :: L).toArray⟩ : ByteArray).extract 1 (⟨(c :: L).toArray⟩ : ByteArray).size = ⟨L.toArray⟩ := by
  apply ByteArray.ext
  rw [ByteArray.data_extract, ba_size]
  simp

theorem str_of_nonneg {a : Int} (h : 0 ≤ a) : str a = ustr a.natAbs := by rw [str, if_neg (by omega)]
theorem str_of_neg {a : Int} (h : a < 0) : str a = 45 :: ustr a.natAbs := by rw [str, if_pos h]

/-- THE ORDER OF THE TEXTS OF TWO AMOUNTS. -/
theorem ord_str (a b : Int) (ha : -9223372036854775808 ≤ a ∧ a ≤ 9223372036854775807) (hb : -9223372036854775808 ≤ b ∧ b ≤ 9223372036854775807) (c : Int) (hc : ordIs a b c) (w : World) :
    Calls Tryd.prog 9 #[.string ⟨(str a).toArray⟩, .string ⟨(str b).toArray⟩] w fun e w' => e = .returned (.int .i64 c) ∧ ∃ q, w' = w.drewN q := by
  have la := ustr_len30 (m := a.natAbs) (by omega)
  have lb := ustr_len30 (m := b.natAbs) (by omega)
  have pa := ustr_length a.natAbs
  have pb := ustr_length b.natAbs
  have sa : (⟨(ustr a.natAbs).toArray⟩ : ByteArray).size = ((ustr a.natAbs).length - 1) + 1 := by rw [ba_size]; omega
  have sb : (⟨(ustr b.natAbs).toArray⟩ : ByteArray).size = ((ustr b.natAbs).length - 1) + 1 := by rw [ba_size]; omega
  have na : (⟨(45 :: ustr a.natAbs).toArray⟩ : ByteArray).size = (ustr a.natAbs).length + 1 := by rw [ba_size]; rfl
  have nb : (⟨(45 :: ustr b.natAbs).toArray⟩ : ByteArray).size = (ustr b.natAbs).length + 1 := by rw [ba_size]; rfl
  by_cases h1 : a < 0
  · by_cases h2 : b < 0
    · rw [str_of_neg h1, str_of_neg h2]
      exact ord_neg _ _ _ _ na nb (by omega) (by omega) c _ _ rfl rfl (cut_first _ _) (cut_first _ _) (fun w => cmp_ustr b.natAbs a.natAbs c (by unfold ordIs at hc ⊢; omega) (by omega) (by omega) w) w
    · rw [str_of_neg h1, str_of_nonneg (by omega)]
      have := ord_signs _ _ _ _ na sb (by omega) (by omega) true rfl (ustr_first _ _) w
      have e : c = -1 := by unfold ordIs at hc; omega
      rw [e]
      exact this
  · by_cases h2 : b < 0
    · rw [str_of_nonneg (by omega), str_of_neg h2]
      have := ord_signs _ _ _ _ sa nb (by omega) (by omega) false (ustr_first _ _) rfl w
      have e : c = 1 := by unfold ordIs at hc; omega
      rw [e]
      exact this
    · rw [str_of_nonneg (by omega), str_of_nonneg (by omega)]
      exact ord_pos _ _ _ _ sa sb (by omega) (by omega) c (ustr_first _ _) (ustr_first _ _) (fun w => cmp_ustr a.natAbs b.natAbs c (by unfold ordIs at hc ⊢; omega) (by omega) (by omega) w) w

theorem below_drew {B : Nat} {a W : World} (h : Below B a W) (n : Nat) : Below B a (W.drewN n) := ⟨h.os, h.tape, h.output, h.size, h.block⟩

set_option maxRecDepth 100000 in
set_option maxHeartbeats 1000000 in
theorem law4_of (a b : Int) (ha : -9223372036854775808 ≤ a ∧ a ≤ 9223372036854775807) (hb : -9223372036854775808 ≤ b ∧ b ≤ 9223372036854775807) (c : Int) (hc : ordIs a b c) (w : World) (htab : Lib.TabIs Tryd.prog w powName .u64 Lib.pow10Tab) :
    Calls Tryd.prog 4 #[.int .i64 a, .int .i64 b] w fun e w' => e = .returned (.bool true) ∧ Below w.heap.size w w' := by
  have HT := Hid.mk htab
  have HC := Hid.mk hc
  have HA := Hid.mk ha
  have HB := Hid.mk hb
  have key : ∀ s : Value, s = .int .i64 c → True := fun _ _ => trivial
  clear htab ha hb key
  obtain ⟨sa, HSA⟩ : ∃ s : ByteArray, Hid ((⟨(str a).toArray⟩ : ByteArray) = s) := ⟨_, Hid.mk rfl⟩
  obtain ⟨sb, HSB⟩ : ∃ s : ByteArray, Hid ((⟨(str b).toArray⟩ : ByteArray) = s) := ⟨_, Hid.mk rfl⟩
  have HO : Hid (∀ w, Calls Tryd.prog 9 #[.string sa, .string sb] w fun e w' => e = .returned (.int .i64 c) ∧ ∃ q, w' = w.drewN q) := Hid.mk (fun w => by
    have := ord_str a b HA.out HB.out c HC.out w
    rw [HSA.out, HSB.out] at this
    exact this)
  have HSa : Hid (∀ w, Lib.TabIs Tryd.prog w powName .u64 Lib.pow10Tab → Calls Tryd.prog 6 #[.int .i64 a] w fun e w' => e = .returned (.string sa) ∧ Below w.heap.size w w') := Hid.mk (fun w h => by
    have := str_any a HA.out.1 HA.out.2 w h
    rw [HSA.out] at this
    exact this)
  have HSb : Hid (∀ w, Lib.TabIs Tryd.prog w powName .u64 Lib.pow10Tab → Calls Tryd.prog 6 #[.int .i64 b] w fun e w' => e = .returned (.string sb) ∧ Below w.heap.size w w') := Hid.mk (fun w h => by
    have := str_any b HB.out.1 HB.out.2 w h
    rw [HSB.out] at this
    exact this)
  clear HSA HSB HA HB
  unfold ordIs at hc
  rcases hc with ⟨h, rfl⟩ | ⟨h, rfl⟩ | ⟨h, rfl⟩
  · have h' : ¬ b < a := by omega
    go_enter Tryd.func4, Tryd.ntmps4
    go_wp2_with fail
    refine (HSa.out w HT.out).mono ?_
    rintro e w1 ⟨rfl, hb1⟩
    go_wp2_with fail
    refine (HSb.out w1 (tab_later HT.out hb1)).mono ?_
    rintro e w2 ⟨rfl, hb2⟩
    have hbb := hb1.trans (hb2.mono hb1.size)
    clear hb1 hb2
    go_wp2_with fail
    refine (HO.out w2).mono ?_
    rintro e w3 ⟨rfl, q, rfl⟩
    go_wp2_with fail
    go_ret
    exact ⟨rfl, below_drew hbb _⟩
  · subst h
    go_enter Tryd.func4, Tryd.ntmps4
    go_wp2_with fail
    refine (HSa.out w HT.out).mono ?_
    rintro e w1 ⟨rfl, hb1⟩
    go_wp2_with fail
    refine (HSb.out w1 (tab_later HT.out hb1)).mono ?_
    rintro e w2 ⟨rfl, hb2⟩
    have hbb := hb1.trans (hb2.mono hb1.size)
    clear hb1 hb2
    go_wp2_with fail
    refine (HO.out w2).mono ?_
    rintro e w3 ⟨rfl, q, rfl⟩
    go_wp2_with fail
    go_ret
    exact ⟨rfl, below_drew hbb _⟩
  · have h' : ¬ a < b := by omega
    go_enter Tryd.func4, Tryd.ntmps4
    go_wp2_with fail
    refine (HSa.out w HT.out).mono ?_
    rintro e w1 ⟨rfl, hb1⟩
    go_wp2_with fail
    refine (HSb.out w1 (tab_later HT.out hb1)).mono ?_
    rintro e w2 ⟨rfl, hb2⟩
    have hbb := hb1.trans (hb2.mono hb1.size)
    clear hb1 hb2
    go_wp2_with fail
    refine (HO.out w2).mono ?_
    rintro e w3 ⟨rfl, q, rfl⟩
    go_wp2_with fail
    go_ret
    exact ⟨rfl, below_drew hbb _⟩

theorem law4 (a b : Int) (h : (Lit.int .i64 a).wf = true) (h' : (Lit.int .i64 b).wf = true) (w : World) (htab : Lib.TabIs Tryd.prog w powName .u64 Lib.pow10Tab) :
    Calls Tryd.prog 4 #[.int .i64 a, .int .i64 b] w fun e w' => e = .returned (.bool true) ∧ Below w.heap.size w w' := by
  rcases Int.lt_trichotomy a b with hc | hc | hc
  · exact law4_of a b (i64_range h) (i64_range h') (-1) (Or.inl ⟨hc, rfl⟩) w htab
  · exact law4_of a b (i64_range h) (i64_range h') 0 (Or.inr (Or.inl ⟨hc, rfl⟩)) w htab
  · exact law4_of a b (i64_range h) (i64_range h') 1 (Or.inr (Or.inr ⟨hc, rfl⟩)) w htab
end Go.Proofs.Qxb6619419aDoor
