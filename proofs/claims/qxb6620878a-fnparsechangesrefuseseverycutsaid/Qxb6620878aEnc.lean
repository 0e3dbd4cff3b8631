/-
  Plain facts on the changes file as it is written: what its reader makes of it, whole and cut short.
-/
import Derived.Test.Qxb6620878aWe
namespace Go.Proofs.Qxb6620878a
open Go.RowKit Go.Maps
open Go.Lib (uvarintDec uvarint uvarint_length64 uvarint_pos)

theorem one_enc (k : Nat) (hk : k < 18446744073709551616) (R : List UInt8) (h : k ≤ R.length / 32) : Pl.one (uvarint k ++ R) = some (k, R) := by
  rw [Pl.one, Pl.dec_uvarint k hk R, Int.toNat_natCast, List.drop_left, List.length_append, if_pos ⟨by have := uvarint_pos k; simp; omega, by simp; omega⟩]

theorem one_short (k : Nat) (hk : k < 18446744073709551616) (R : List UInt8) (h : ¬ k ≤ R.length / 32) : Pl.one (uvarint k ++ R) = none := by
  rw [Pl.one, Pl.dec_uvarint k hk R, Int.toNat_natCast, List.length_append, if_neg (fun hc => h (by have := hc.2; simp at this; omega))]

theorem one_cut (k : Nat) (hk : k < 18446744073709551616) (j : Nat) (hj : j < (uvarint k).length) : Pl.one ((uvarint k).take j) = none := by
  rw [Pl.one, Pl.dec_uvarint_cut k hk j hj, if_neg (fun hc => by simp at hc)]

theorem head_enc (b : Nat) (hb : b < 18446744073709551616) (R : List UInt8) (h : b ≤ 9223372036854775807) : Pl.head (Pl.magic ++ (uvarint b ++ R)) = some (b, R) := by
  have e : (Pl.magic ++ (uvarint b ++ R)).drop 18 = uvarint b ++ R := List.drop_left (l₁ := Pl.magic)
  have e' : (Pl.magic ++ (uvarint b ++ R)).take 18 = Pl.magic := List.take_left (l₁ := Pl.magic)
  rw [Pl.head, e, e', Pl.dec_uvarint b hb R, Int.toNat_natCast, List.drop_left, if_pos ⟨rfl, by have := uvarint_pos b; simp; omega, h⟩]

theorem head_big (b : Nat) (hb : b < 18446744073709551616) (R : List UInt8) (h : ¬ b ≤ 9223372036854775807) : Pl.head (Pl.magic ++ (uvarint b ++ R)) = none := by
  have e : (Pl.magic ++ (uvarint b ++ R)).drop 18 = uvarint b ++ R := List.drop_left (l₁ := Pl.magic)
  rw [Pl.head, e, Pl.dec_uvarint b hb R, if_neg (fun hc => h hc.2.2)]

theorem head_cut (b : Nat) (hb : b < 18446744073709551616) (j : Nat) (hj : j < (uvarint b).length) : Pl.head (Pl.magic ++ (uvarint b).take j) = none := by
  have e : (Pl.magic ++ (uvarint b).take j).drop 18 = (uvarint b).take j := List.drop_left (l₁ := Pl.magic)
  rw [Pl.head, e, Pl.dec_uvarint_cut b hb j hj, if_neg (fun hc => by simp at hc)]

theorem take_parts (u R : List UInt8) (c : Nat) : (c < u.length ∧ (u ++ R).take c = u.take c) ∨ (u.length ≤ c ∧ (u ++ R).take c = u ++ R.take (c - u.length)) := by
  by_cases h : c < u.length
  · exact .inl ⟨h, List.take_append_of_le_length (by omega)⟩
  · exact .inr ⟨by omega, by rw [List.take_append, List.take_of_length_le (by omega)]⟩

theorem enc_big (base : Nat) (hbase : base < 18446744073709551616) (l1 l2 l3 : List UInt8) (h : ¬ base ≤ 9223372036854775807) : Bad (enc base l1 l2 l3) := .inl (head_big base hbase _ h)

/-- THE FILE READ WHOLE. -/
theorem enc_good (base : Nat) (hbase : base < 18446744073709551616) (l1 l2 l3 : List UInt8) (h1 : l1.length % 32 = 0) (h2 : l2.length % 32 = 0) (b1 : l1.length ≤ 262144) (b2 : l2.length ≤ 262144) (h : base ≤ 9223372036854775807) :
    ∃ r0 r1 r2, Pl.head (enc base l1 l2 l3) = some (base, r0) ∧ Pl.one r0 = some (l1.length / 32, r1) ∧ Pl.one (r1.drop (32 * (l1.length / 32))) = some (l2.length / 32, r2) ∧ r2.drop (32 * (l2.length / 32)) = l3 ∧
      setOf r1 (l1.length / 32) = setOf l1 (l1.length / 32) ∧ setOf r2 (l2.length / 32) = setOf l2 (l2.length / 32) := by
  have e1 : 32 * (l1.length / 32) = l1.length := by omega
  have e2 : 32 * (l2.length / 32) = l2.length := by omega
  refine ⟨uvarint (l1.length / 32) ++ (l1 ++ (uvarint (l2.length / 32) ++ (l2 ++ l3))), l1 ++ (uvarint (l2.length / 32) ++ (l2 ++ l3)), l2 ++ l3, head_enc base hbase _ h, one_enc _ (by omega) _ (by simp; omega), ?_, ?_, ?_, ?_⟩
  · rw [e1, List.drop_left]
    exact one_enc _ (by omega) _ (by simp; omega)
  · rw [e2, List.drop_left]
  · exact setOf_congr _ (fun j hj => dig_append _ _ _ (by omega))
  · exact setOf_congr _ (fun j hj => dig_append _ _ _ (by omega))

/-- EVERY CUT OF IT IS REFUSED. -/
theorem enc_cut (base : Nat) (hbase : base < 18446744073709551616) (l1 l2 : List UInt8) (h1 : l1.length % 32 = 0) (h2 : l2.length % 32 = 0) (b1 : l1.length ≤ 262144) (b2 : l2.length ≤ 262144) (cut : Nat) (hc : cut < (enc base l1 l2 []).length) :
    Bad ((enc base l1 l2 []).take cut) := by
  unfold enc at hc ⊢
  rw [List.append_nil] at hc ⊢
  simp only [List.length_append] at hc
  rcases take_parts Pl.magic _ cut with ⟨hlt, e⟩ | ⟨hge, e⟩
  · rw [e]
    refine .inl ?_
    rw [Pl.head, if_neg (fun hx => ?_)]
    have := congrArg List.length hx.1
    rw [List.length_take, List.length_take] at this
    omega
  · rw [e]
    clear e
    rcases take_parts (uvarint base) (uvarint (l1.length / 32) ++ (l1 ++ (uvarint (l2.length / 32) ++ l2))) (cut - Pl.magic.length) with ⟨hlt, e⟩ | ⟨hge1, e⟩
    · rw [e]
      exact .inl (head_cut base hbase _ hlt)
    · rw [e]
      clear e
      by_cases hb : base ≤ 9223372036854775807
      · refine .inr ⟨base, _, head_enc base hbase _ hb, ?_⟩
        rcases take_parts (uvarint (l1.length / 32)) (l1 ++ (uvarint (l2.length / 32) ++ l2)) (cut - Pl.magic.length - (uvarint base).length) with ⟨hlt, e⟩ | ⟨hge2, e⟩
        · rw [e]
          exact .inl (one_cut _ (by omega) _ hlt)
        · rw [e]
          clear e
          rcases take_parts l1 (uvarint (l2.length / 32) ++ l2) (cut - Pl.magic.length - (uvarint base).length - (uvarint (l1.length / 32)).length) with ⟨hlt, e⟩ | ⟨hge3, e⟩
          · rw [e]
            exact .inl (one_short _ (by omega) _ (by rw [List.length_take]; omega))
          · rw [e]
            clear e
            refine .inr ⟨l1.length / 32, _, one_enc _ (by omega) _ (by simp; omega), ?_⟩
            rw [show 32 * (l1.length / 32) = l1.length from by omega, List.drop_left]
            rcases take_parts (uvarint (l2.length / 32)) l2 (cut - Pl.magic.length - (uvarint base).length - (uvarint (l1.length / 32)).length - l1.length) with ⟨hlt, e⟩ | ⟨hge4, e⟩
            · rw [e]
              exact one_cut _ (by omega) _ hlt
            · rw [e]
              exact one_short _ (by omega) _ (by rw [List.length_take]; omega)
      · exact .inl (head_big base hbase _ hb)

theorem enc_length (base : Nat) (hbase : base < 18446744073709551616) (l1 l2 l3 : List UInt8) (b1 : l1.length ≤ 262144) (b2 : l2.length ≤ 262144) (b3 : l3.length ≤ 262144) : 18 ≤ (enc base l1 l2 l3).length ∧ (enc base l1 l2 l3).length ≤ 1048576 := by
  have hu0 := uvarint_length64 hbase
  have hu1 := uvarint_length64 (show l1.length / 32 < 18446744073709551616 from by omega)
  have hu2 := uvarint_length64 (show l2.length / 32 < 18446744073709551616 from by omega)
  have hm : Pl.magic.length = 18 := rfl
  unfold enc
  simp only [List.length_append]
  omega

end Go.Proofs.Qxb6620878a
