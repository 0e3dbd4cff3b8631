/-
  Plain facts on bytes and varints, with no Go in sight: what 'uvarintDec' (the shelf's word for binary.Uvarint) gives, what the law's own reader gathers, what the shortest varint decodes to; the changes file's format as two small functions.
-/
import Derived.Lib.VarintDec
import Derived.Lib.Varint
import Derived.Lib.Strings
namespace Go.Proofs.Qxb6620878a
namespace Pl
open Go.Lib (uvarintFrom uvarintDec uvarint uvarint_small uvarint_big uvarint_length64 uvarint_pos)

/-- Seven bits a byte, the least first. -/
def val : List UInt8 → Nat
  | [] => 0
  | b :: r => b.toNat % 128 + 128 * val r

theorem val_snoc (b : UInt8) : ∀ l : List UInt8, val (l ++ [b]) = val l + 128 ^ l.length * (b.toNat % 128)
  | [] => by simp [val]
  | c :: r => by
    simp only [List.cons_append, val, val_snoc b r, List.length_cons, Nat.pow_succ, Nat.mul_add]
    rw [Nat.mul_comm (128 ^ r.length) 128, Nat.mul_assoc, Nat.add_assoc]

theorem val_lt : ∀ l : List UInt8, val l < 128 ^ l.length
  | [] => by simp [val]
  | c :: r => by
    have := val_lt r
    simp only [val, List.length_cons, Nat.pow_succ]
    omega

theorem pow7 (j : Nat) : 2 ^ (7 * j) = 128 ^ j := by rw [Nat.pow_mul]

/-- The first j bytes bear the bit 128: what is left to decode. -/
theorem scan : ∀ (j : Nat) (l : List UInt8), j ≤ 10 → j ≤ l.length → (∀ i (h : i < l.length), i < j → 128 ≤ (l[i]).toNat) → uvarintDec l = uvarintFrom j (val (l.take j)) (l.drop j)
  | 0, l, _, _, _ => by simp [uvarintDec, val]
  | j + 1, l, hj, hl, h => by
    rw [scan j l (by omega) (by omega) (fun i hi hlt => h i hi (by omega))]
    have hb := h j (by omega) (by omega)
    rw [List.drop_eq_getElem_cons (by omega), uvarintFrom, if_neg (by omega), if_neg (by omega), List.take_succ_eq_append_getElem (by omega), val_snoc]
    rw [pow7, List.length_take, Nat.min_eq_left (by omega), Nat.mul_comm (128 ^ j)]

/-- .. and the next one is the last. -/
theorem dec_end (l : List UInt8) (j : Nat) (hj : j < 10) (hl : j < l.length) (h : ∀ i (h : i < l.length), i < j → 128 ≤ (l[i]).toNat) (hb : (l[j]).toNat < 128) (h9 : ¬ (j = 9 ∧ 1 < (l[j]).toNat)) :
    uvarintDec l = (val (l.take (j + 1)), (j : Int) + 1) := by
  rw [scan j l (by omega) (by omega) h, List.drop_eq_getElem_cons hl, uvarintFrom, if_neg (by omega), if_pos hb, if_neg h9, List.take_succ_eq_append_getElem hl, val_snoc, pow7, List.length_take, Nat.min_eq_left (by omega), Nat.mod_eq_of_lt hb, Nat.mul_comm (128 ^ j)]

theorem dec_over (l : List UInt8) (hl : 9 < l.length) (h : ∀ i (h : i < l.length), i < 9 → 128 ≤ (l[i]).toNat) (hb : (l[9]).toNat < 128) (h9 : 1 < (l[9]).toNat) :
    (uvarintDec l).2 ≤ 0 := by
  rw [scan 9 l (by omega) (by omega) h, List.drop_eq_getElem_cons hl, uvarintFrom, if_neg (by omega), if_pos hb, if_pos ⟨rfl, h9⟩]
  decide

theorem dec_short (l : List UInt8) (hl : l.length ≤ 10) (h : ∀ i (h : i < l.length), 128 ≤ (l[i]).toNat) : uvarintDec l = (0, 0) := by
  rw [scan l.length l hl (Nat.le_refl _) (fun i hi _ => h i hi), List.drop_length]
  rfl

theorem dec_long (l : List UInt8) (hl : 10 ≤ l.length) (h : ∀ i (h : i < l.length), i < 10 → 128 ≤ (l[i]).toNat) : (uvarintDec l).2 ≤ 0 := by
  rw [scan 10 l (by omega) hl h]
  cases l.drop 10 with
  | nil => simp [uvarintFrom]
  | cons b r => simp [uvarintFrom]

theorem from_le : ∀ (l : List UInt8) (i acc : Nat), (uvarintFrom i acc l).2 ≤ (i : Int) + l.length
  | [], i, acc => by simp [uvarintFrom]
  | b :: r, i, acc => by
    have := from_le r (i + 1) (acc + b.toNat % 128 * 2 ^ (7 * i))
    simp only [uvarintFrom, List.length_cons]
    split
    · simp only []; omega
    · split
      · split
        · simp only []; omega
        · simp only []; omega
      · omega

theorem dec_le (l : List UInt8) : (uvarintDec l).2 ≤ l.length := by
  have := from_le l 0 0
  simp only [uvarintDec]
  omega

theorem from_val : ∀ (l : List UInt8) (i acc : Nat), (uvarintFrom i acc l).2 ≤ 0 → (uvarintFrom i acc l).1 = 0
  | [], i, acc, _ => by simp [uvarintFrom]
  | b :: r, i, acc, h => by
    simp only [uvarintFrom] at h ⊢
    by_cases h1 : i = 10
    · rw [if_pos h1]
    · rw [if_neg h1] at h ⊢
      by_cases h2 : b.toNat < 128
      · rw [if_pos h2] at h ⊢
        by_cases h3 : i = 9 ∧ 1 < b.toNat
        · rw [if_pos h3]
        · rw [if_neg h3] at h
          simp only [] at h
          omega
      · rw [if_neg h2] at h ⊢
        exact from_val r _ _ h

/-- WHAT THE LAW's OWN READER ANSWERS. -/
def uvAt (l : List UInt8) : Nat × Int × Bool := if 0 < (uvarintDec l).2 then ((uvarintDec l).1, (uvarintDec l).2, true) else (0, 0, false)

theorem drop_get (l : List UInt8) (a i : Nat) (h : i < (l.drop a).length) (h' : a + i < l.length) : (l.drop a)[i] = l[a + i] := List.getElem_drop ..

theorem at_over (l : List UInt8) (a : Nat) (hl : a + 9 < l.length) (h : ∀ i (h : a + i < l.length), i < 9 → 128 ≤ (l[a + i]).toNat) (hb : (l[a + 9]).toNat < 128) (h9 : 1 < (l[a + 9]).toNat) : uvAt (l.drop a) = (0, 0, false) := by
  have hlen : (l.drop a).length = l.length - a := List.length_drop ..
  have := dec_over (l.drop a) (by omega) (fun i hi hlt => by rw [drop_get l a i hi (by omega)]; exact h i (by omega) hlt) (by rw [drop_get l a 9 (by omega) hl]; exact hb) (by rw [drop_get l a 9 (by omega) hl]; exact h9)
  rw [uvAt, if_neg (by omega)]

theorem at_short (l : List UInt8) (a k : Nat) (hk : k ≤ 10) (hl : a + k ≤ l.length) (h : ∀ i (h : a + i < l.length), i < k → 128 ≤ (l[a + i]).toNat) (he : k = 10 ∨ a + k = l.length) : uvAt (l.drop a) = (0, 0, false) := by
  have hlen : (l.drop a).length = l.length - a := List.length_drop ..
  have hz : (uvarintDec (l.drop a)).2 ≤ 0 := by
    rcases he with rfl | he
    · exact dec_long (l.drop a) (by omega) (fun i hi hlt => by rw [drop_get l a i hi (by omega)]; exact h i (by omega) hlt)
    · rw [dec_short (l.drop a) (by omega) (fun i hi => by rw [drop_get l a i hi (by omega)]; exact h i (by omega) (by omega))]
      exact Int.le_refl 0
  rw [uvAt, if_neg (by omega)]

theorem at_good (l : List UInt8) (a k : Nat) (hk : k < 10) (hl : a + k < l.length) (h : ∀ i (h : a + i < l.length), i < k → 128 ≤ (l[a + i]).toNat) (hb : (l[a + k]).toNat < 128) (h9 : ¬ (k = 9 ∧ 1 < (l[a + k]).toNat)) :
    uvAt (l.drop a) = (val ((l.drop a).take (k + 1)), (k : Int) + 1, true) ∧ val ((l.drop a).take (k + 1)) < 18446744073709551616 := by
  have hlen : (l.drop a).length = l.length - a := List.length_drop ..
  have hd := dec_end (l.drop a) k hk (by omega) (fun i hi hlt => by rw [drop_get l a i hi (by omega)]; exact h i (by omega) hlt) (by rw [drop_get l a k (by omega) hl]; exact hb) (by rw [drop_get l a k (by omega) hl]; exact h9)
  have hlt := Go.Lib.uvarintDec_lt (l.drop a)
  rw [hd] at hlt
  refine ⟨?_, hlt⟩
  rw [uvAt, hd, if_pos (by show (0 : Int) < (k : Int) + 1; omega)]

theorem val_step (L : List UInt8) (m : Nat) (h : m < L.length) : val (L.drop m) = (L[m]).toNat % 128 + 128 * val (L.drop (m + 1)) := by
  rw [List.drop_eq_getElem_cons h, val]

theorem val_drop_le : ∀ (m : Nat) (L : List UInt8), val (L.drop m) ≤ val L
  | 0, L => by simp
  | m + 1, [] => by simp
  | m + 1, b :: r => by
    have := val_drop_le m r
    simp only [List.drop_succ_cons, val]
    omega

/-! ### the shortest varint -/
theorem uvarint_val : ∀ (k x : Nat), x < 128 ^ (k + 1) → val (uvarint x) = x
  | 0, x, h => by
    have hx : x < 128 := by simpa using h
    rw [uvarint_small hx]
    have : x.toUInt8.toNat = x := by simp; omega
    simp [val, this]; omega
  | k + 1, x, h => by
    by_cases hx : x < 128
    · rw [uvarint_small hx]
      have : x.toUInt8.toNat = x := by simp; omega
      simp [val, this]; omega
    · rw [uvarint_big (by omega)]
      have ih := uvarint_val k (x / 128) (by rw [Nat.pow_succ] at h; exact Nat.div_lt_of_lt_mul (by rw [Nat.mul_comm]; exact h))
      have : (x % 128 + 128).toUInt8.toNat = x % 128 + 128 := by simp; omega
      simp only [val, ih, this]; omega

theorem uvarint_mid : ∀ (k x : Nat), x < 128 ^ (k + 1) → ∀ i (h : i < (uvarint x).length), (i + 1 < (uvarint x).length → 128 ≤ ((uvarint x)[i]).toNat) ∧ (i + 1 = (uvarint x).length → ((uvarint x)[i]).toNat < 128)
  | 0, x, h, i, hi => by
    have hx : x < 128 := by simpa using h
    have e := uvarint_small hx
    have : x.toUInt8.toNat = x := by simp; omega
    simp only [e] at hi ⊢
    simp at hi
    subst hi
    simp only [List.getElem_cons_zero, this, List.length_singleton]
    omega
  | k + 1, x, h, i, hi => by
    by_cases hx : x < 128
    · have e := uvarint_small hx
      have : x.toUInt8.toNat = x := by simp; omega
      simp only [e] at hi ⊢
      simp at hi
      subst hi
      simp only [List.getElem_cons_zero, this, List.length_singleton]
      omega
    · have e := uvarint_big (x := x) (by omega)
      have ih := uvarint_mid k (x / 128) (by rw [Nat.pow_succ] at h; exact Nat.div_lt_of_lt_mul (by rw [Nat.mul_comm]; exact h))
      have : (x % 128 + 128).toUInt8.toNat = x % 128 + 128 := by simp; omega
      have hp := uvarint_pos (x / 128)
      simp only [e] at hi ⊢
      cases i with
      | zero =>
        simp only [List.getElem_cons_zero, this, List.length_cons]
        omega
      | succ i =>
        have := ih i (by simpa using hi)
        simp only [List.getElem_cons_succ, List.length_cons]
        omega

theorem pow64 {x : Nat} (h : x < 18446744073709551616) : x < 128 ^ (9 + 1) := Nat.lt_of_lt_of_le h (by decide)

/-- WHAT IS WRITTEN IS WHAT IS READ. -/
theorem dec_uvarint (x : Nat) (h : x < 18446744073709551616) (r : List UInt8) : uvarintDec (uvarint x ++ r) = (x, ((uvarint x).length : Int)) := by
  have hp := uvarint_pos x
  have h10 := uvarint_length64 h
  have hm := uvarint_mid 9 x (pow64 h)
  have hv := uvarint_val 9 x (pow64 h)
  generalize uvarint x = u at hp h10 hm hv
  obtain ⟨n, hn⟩ : ∃ n, u.length = n + 1 := ⟨u.length - 1, by omega⟩
  have hlt : n < (u ++ r).length := by simp; omega
  have hun : n < u.length := by omega
  have hg : ∀ i (hi : i < (u ++ r).length) (hu : i < u.length), (u ++ r)[i] = u[i] := fun i hi hu => List.getElem_append_left hu
  have ht : (u ++ r).take (n + 1) = u := by rw [← hn, List.take_left]
  have hlast := (hm n hun).2 (by omega)
  rw [dec_end (u ++ r) n (by omega) hlt (fun i hi hin => by rw [hg i hi (by omega)]; exact (hm i (by omega)).1 (by omega)) (by rw [hg n hlt hun]; exact hlast) ?_]
  · rw [ht, hv, hn]
    simp
  · rw [hg n hlt hun]
    rintro ⟨rfl, h1⟩
    have e : u = u.take 9 ++ [u[9]] := by
      have := List.take_succ_eq_append_getElem hun
      rw [← this, ← hn, List.take_length]
    have hv2 : val (u.take 9) + 128 ^ 9 * (u[9].toNat % 128) = x := by
      have := val_snoc u[9] (u.take 9)
      rw [← e, hv, List.length_take, Nat.min_eq_left (by omega)] at this
      exact this.symm
    rw [Nat.mod_eq_of_lt hlast] at hv2
    have e9 : (128 : Nat) ^ 9 = 9223372036854775808 := by decide
    rw [e9] at hv2
    omega

/-- A varint cut short. -/
theorem dec_uvarint_cut (x : Nat) (h : x < 18446744073709551616) (j : Nat) (hj : j < (uvarint x).length) : uvarintDec ((uvarint x).take j) = (0, 0) := by
  have h10 := uvarint_length64 h
  have hm := uvarint_mid 9 x (pow64 h)
  refine dec_short _ (by simp; omega) (fun i hi => ?_)
  have hi' : i < j := by simp at hi; omega
  rw [List.getElem_take]
  exact (hm i (by omega)).1 (by omega)

/-! ### the changes file's format -/
def magic : List UInt8 := [99, 111, 112, 112, 105, 99, 101, 32, 99, 104, 97, 110, 103, 101, 115, 32, 49, 10]

/-- The magic line and the base: the base, and what is left. -/
def head (l : List UInt8) : Option (Nat × List UInt8) :=
  if l.take 18 = magic ∧ 0 < (uvarintDec (l.drop 18)).2 ∧ (uvarintDec (l.drop 18)).1 ≤ 9223372036854775807 then
    some ((uvarintDec (l.drop 18)).1, (l.drop 18).drop (uvarintDec (l.drop 18)).2.toNat) else none

/-- A count: the count, and what is left (the digests first). -/
def one (r : List UInt8) : Option (Nat × List UInt8) :=
  if 0 < (uvarintDec r).2 ∧ (uvarintDec r).1 ≤ (r.length - (uvarintDec r).2.toNat) / 32 then
    some ((uvarintDec r).1, r.drop (uvarintDec r).2.toNat) else none

end Pl
end Go.Proofs.Qxb6620878a
