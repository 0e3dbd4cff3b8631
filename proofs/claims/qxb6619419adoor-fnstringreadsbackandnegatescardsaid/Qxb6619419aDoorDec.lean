/-
  Plain facts on decimal numerals: the increment digit by digit.
-/
import Derived.Lib.ItoaNum
import Derived.Lib.ItoaLen
namespace Go.Proofs.Qxb6619419aDoor
namespace Dc
open Go.Lib (dg decDigits nDigits decDigits_eq nDigits_unique nDigits_pos lt_pow_nDigits nDigits_small nDigits_big dg_succ)

/-- The k low digits of u, the greatest first. -/
def low (u : Nat) : Nat → List UInt8
  | 0 => []
  | k + 1 => dg u k :: low u k

theorem low_length (u : Nat) : ∀ k, (low u k).length = k
  | 0 => rfl
  | k + 1 => by simp [low, low_length u k]

theorem low_range (u : Nat) : ∀ k, (List.range k).map (fun t => dg u (k - 1 - t)) = low u k
  | 0 => rfl
  | k + 1 => by
    rw [List.range_succ_eq_map, List.map_cons, List.map_map, low, ← low_range u k]
    congr 1
    apply List.map_congr_left
    intro t _
    show dg u (k + 1 - 1 - (t + 1)) = dg u (k - 1 - t)
    congr 1
    omega

theorem dec_low (u : Nat) : decDigits u = low u (nDigits u) := by rw [decDigits_eq, low_range]

theorem low_get (u : Nat) : ∀ (k i : Nat) (h : i < (low u k).length), (low u k)[i] = dg u (k - 1 - i)
  | k + 1, 0, _ => by simp [low]
  | k + 1, i + 1, h => by
    have := low_get u k i (by simpa [low] using h)
    simp only [low, List.getElem_cons_succ, this]
    congr 1
    omega

theorem dg_toNat (u j : Nat) : (dg u j).toNat = 48 + u / 10 ^ j % 10 := by
  simp [dg]
  omega

theorem dg_range (u j : Nat) : 48 ≤ (dg u j).toNat ∧ (dg u j).toNat ≤ 57 := by
  rw [dg_toNat]
  omega

/-- The increment, k digits from the right done: what they have become, and whether one is carried. (R: the digits, the least first.) -/
def incK (R : List UInt8) : Nat → List UInt8 × Bool
  | 0 => ([], true)
  | k + 1 =>
    if (incK R k).2 = true then
      if R.getD k 0 = 57 then (48 :: (incK R k).1, true) else ((R.getD k 0 + 1) :: (incK R k).1, false)
    else (R.getD k 0 :: (incK R k).1, false)

def incAll (D : List UInt8) : List UInt8 := if (incK D.reverse D.length).2 = true then 49 :: (incK D.reverse D.length).1 else (incK D.reverse D.length).1

theorem incK_length (R : List UInt8) : ∀ k, (incK R k).1.length = k
  | 0 => rfl
  | k + 1 => by
    have := incK_length R k
    simp only [incK]
    split
    · split <;> simp [this]
    · simp [this]

theorem div_carry (u P : Nat) (h : (u + 1) % P = 0) : (u + 1) / P = u / P + 1 := by
  have h1 := Nat.div_add_mod (u + 1) P
  rw [h, Nat.add_zero] at h1
  generalize (u + 1) / P = q at h1
  obtain ⟨q', rfl⟩ : ∃ q', q = q' + 1 := by
    cases q with
    | zero => simp at h1
    | succ q' => exact ⟨q', rfl⟩
  have h2 : u / P = q' := Nat.div_eq_of_lt_le (by rw [Nat.mul_add] at h1; rw [Nat.mul_comm]; cases P <;> omega) (by rw [Nat.mul_comm, h1]; omega)
  rw [h2]

theorem div_keep (u P : Nat) (hP : 0 < P) (h : (u + 1) % P ≠ 0) : (u + 1) / P = u / P := by
  have h1 := Nat.div_add_mod (u + 1) P
  have h2 := Nat.mod_lt (u + 1) hP
  generalize (u + 1) / P = q at h1
  generalize (u + 1) % P = r at h h1 h2
  exact (Nat.div_eq_of_lt_le (by rw [Nat.mul_comm]; omega) (by rw [Nat.add_mul, Nat.one_mul, Nat.mul_comm q P]; omega)).symm

theorem mod_succ (x k : Nat) : x % 10 ^ (k + 1) = x % 10 ^ k + 10 ^ k * (x / 10 ^ k % 10) := by
  rw [Nat.pow_succ, Nat.mod_mul]

/-- WHAT THE INCREMENT KEEPS. -/
theorem incK_low (u m : Nat) (R : List UInt8) (hR : ∀ j, j < m → R.getD j 0 = dg u j) : ∀ k, k ≤ m → (incK R k).1 = low (u + 1) k ∧ ((incK R k).2 = true ↔ (u + 1) % 10 ^ k = 0)
  | 0, _ => by simp [incK, low, Nat.mod_one]
  | k + 1, hk => by
    obtain ⟨h1, h2⟩ := incK_low u m R hR k (by omega)
    have hP : 0 < 10 ^ k := Nat.pow_pos (by omega)
    have hd := hR k (by omega)
    have ms := mod_succ (u + 1) k
    simp only [incK]
    by_cases hc : (incK R k).2 = true
    · have hz := h2.1 hc
      have hq := div_carry u (10 ^ k) hz
      rw [hz, Nat.zero_add] at ms
      rw [if_pos hc, hd]
      by_cases h9 : dg u k = 57
      · have h9' : u / 10 ^ k % 10 = 9 := by
          have := congrArg UInt8.toNat h9
          rw [dg_toNat] at this
          have e : (57 : UInt8).toNat = 57 := rfl
          omega
        have h0 : (u + 1) / 10 ^ k % 10 = 0 := by omega
        rw [if_pos h9]
        refine ⟨?_, ?_⟩
        · show 48 :: (incK R k).1 = dg (u + 1) k :: low (u + 1) k
          rw [h1, dg, h0]
          rfl
        · show (true = true ↔ _)
          rw [ms, h0, Nat.mul_zero]
          simp
      · have h9' : u / 10 ^ k % 10 ≠ 9 := fun e => h9 (by rw [dg, e]; rfl)
        have h0 : (u + 1) / 10 ^ k % 10 = u / 10 ^ k % 10 + 1 := by omega
        rw [if_neg h9]
        refine ⟨?_, ?_⟩
        · show (dg u k + 1) :: (incK R k).1 = dg (u + 1) k :: low (u + 1) k
          rw [h1]
          congr 1
          apply UInt8.toNat_inj.1
          rw [UInt8.toNat_add, dg_toNat, dg_toNat, h0]
          have e : (1 : UInt8).toNat = 1 := rfl
          rw [e]
          omega
        · show (false = true ↔ _)
          rw [ms, h0]
          constructor
          · intro h; cases h
          · intro h
            have : 0 < 10 ^ k * (u / 10 ^ k % 10 + 1) := Nat.mul_pos hP (by omega)
            omega
    · have hz : (u + 1) % 10 ^ k ≠ 0 := fun h => hc (h2.2 h)
      have hq := div_keep u (10 ^ k) hP hz
      rw [if_neg hc, hd]
      refine ⟨?_, ?_⟩
      · show dg u k :: (incK R k).1 = dg (u + 1) k :: low (u + 1) k
        rw [h1, dg, dg, hq]
      · show (false = true ↔ _)
        rw [ms]
        constructor
        · intro h; cases h
        · intro h; omega

theorem pow_nDigits_le (u : Nat) (h : 1 ≤ u) : 10 ^ (nDigits u - 1) ≤ u := by
  suffices H : ∀ n u, u ≤ n → 1 ≤ u → 10 ^ (nDigits u - 1) ≤ u from H u u (Nat.le_refl _) h
  intro n
  induction n with
  | zero => intro u h1 h2; omega
  | succ n ih =>
    intro u h1 h2
    by_cases hs : u < 10
    · rw [nDigits_small hs]
      simpa using h2
    · rw [nDigits_big hs]
      have := ih (u / 10) (by omega) (by omega)
      have hp := nDigits_pos (u / 10)
      rw [Nat.add_sub_cancel]
      have e : 10 ^ nDigits (u / 10) = 10 ^ (nDigits (u / 10) - 1) * 10 := by
        rw [← Nat.pow_succ, Nat.succ_eq_add_one, Nat.sub_add_cancel hp]
      omega

/-- THE NUMERAL OF THE NEXT NUMBER. -/
theorem inc_dec (u : Nat) : incAll (decDigits u) = decDigits (u + 1) := by
  have hl := Go.Lib.decDigits_length u
  have hlt := lt_pow_nDigits u
  have hp := nDigits_pos u
  have hR : ∀ j, j < nDigits u → (decDigits u).reverse.getD j 0 = dg u j := by
    intro j hj
    have hj' : j < (decDigits u).reverse.length := by rw [List.length_reverse, hl]; exact hj
    rw [List.getD_eq_getElem?_getD, List.getElem?_eq_getElem hj', Option.getD_some, List.getElem_reverse]
    simp only [dec_low u, low_get, low_length]
    congr 1
    omega
  obtain ⟨h1, h2⟩ := incK_low u (nDigits u) _ hR (nDigits u) (Nat.le_refl _)
  unfold incAll
  rw [hl]
  by_cases hc : (incK (decDigits u).reverse (nDigits u)).2 = true
  · have hz := h2.1 hc
    have hu : u + 1 = 10 ^ nDigits u := by
      rcases Nat.lt_or_ge (u + 1) (10 ^ nDigits u) with h | h
      · rw [Nat.mod_eq_of_lt h] at hz
        omega
      · omega
    have hn : nDigits (u + 1) = nDigits u + 1 := nDigits_unique (nDigits u) (u + 1) (by omega) (by rw [Nat.pow_succ]; omega)
    rw [if_pos hc, h1, dec_low (u + 1), hn, low]
    congr 1
    have hpp : 0 < 10 ^ nDigits u := Nat.pow_pos (by omega)
    rw [dg, hu, Nat.div_self hpp]
    rfl
  · have hz : (u + 1) % 10 ^ nDigits u ≠ 0 := fun h => hc (h2.2 h)
    have hu : u + 1 < 10 ^ nDigits u := by
      rcases Nat.lt_or_ge (u + 1) (10 ^ nDigits u) with h | h
      · exact h
      · have : u + 1 = 10 ^ nDigits u := by omega
        rw [this, Nat.mod_self] at hz
        exact absurd rfl hz
    have hn : nDigits (u + 1) = nDigits u := by
      obtain ⟨k, hk⟩ : ∃ k, nDigits u = k + 1 := ⟨nDigits u - 1, by omega⟩
      rw [hk] at hu ⊢
      refine nDigits_unique k (u + 1) ?_ hu
      rcases Nat.eq_zero_or_pos u with e | e
      · subst e
        rw [nDigits_small (by omega)] at hk
        have : k = 0 := by omega
        subst this
        simp
      · have := pow_nDigits_le u e
        rw [hk, Nat.add_sub_cancel] at this
        omega
    rw [if_neg hc, h1, dec_low (u + 1), hn]

end Dc
end Go.Proofs.Qxb6619419aDoor
