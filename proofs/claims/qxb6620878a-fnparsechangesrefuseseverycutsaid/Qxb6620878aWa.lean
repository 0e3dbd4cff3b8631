/-
  Walks of the law's own small functions: zzRefused (13), zzUvarintAt (14), the length check (11).
-/
import Derived.Test.Qxb6620878aRows
import Derived.Test.Qxb6620878aPlain
import Derived.WalkKit
import Derived.WalkSpells
import Derived.WalkLawsBesides
import Derived.Lib.VarintBits
namespace Go.Proofs.Qxb6620878a
open Go.RowKit
theorem Hid.mk {p : Prop} (h : p) : Hid p := h

set_option maxRecDepth 100000 in
set_option maxHeartbeats 400000 in
theorem refused_yes (w : World) :
    Calls Try.prog 13 #[.int .i64 0, .map none, .map none, .bool false] w fun e w' => e = .returned (.bool true) ∧ w' = w := by
  have h1 := fun W r => run_eql_map_nil (P := Try.prog) W 28 45 46 r Try.underlying28
  go_enter Try.func13, Try.ntmps13
  go_wp2
  go_ret
  exact ⟨rfl, rfl⟩

/-- 'v<<7 | uint64(b & 0x7f)'. -/
theorem gather (V : Nat) (d : UInt8) (h : V * 128 + 127 < 18446744073709551616) :
    bits BinOp.or IntKind.u64 ((V : Int) * 128) (IntKind.u64.wrap (bits BinOp.and IntKind.u8 (d.toNat : Int) 127)) = ((d.toNat % 128 + 128 * V : Nat) : Int) := by
  have hd := d.toNat_lt
  have e1 : bits BinOp.and IntKind.u8 (d.toNat : Int) 127 = (d.toNat : Int) % 128 := bits_mask .u8 8 (by decide) wraps_u8 7 (by decide) _ (by omega) (by omega)
  rw [e1, IntWalk.u64_in _ ⟨by omega, by omega⟩]
  have e2 : (d.toNat : Int) % 128 = ((d.toNat % 128 : Nat) : Int) := by omega
  have e3 : (V : Int) * 128 = ((V * 128 : Nat) : Int) := by omega
  rw [e2, e3, u64_or_nat _ _ (by omega) (by omega)]
  have e4 : V * 128 ||| d.toNat % 128 = V * 128 + d.toNat % 128 := by
    have := Nat.two_pow_add_eq_or_of_lt (i := 7) (b := d.toNat % 128) (by omega) V
    rw [Nat.mul_comm V 128]
    exact this.symm
  rw [e4]
  omega

set_option maxRecDepth 100000 in
set_option maxHeartbeats 1000000 in
theorem uvat (g o n c : Nat) (l : List UInt8) (a : Nat) (w : World) (hl : l.length = n) (hn : n ≤ 1048576) (hat : a ≤ n)
    (hcell : ∀ j (hj : j < l.length), w.cell? ⟨g, o + j, none⟩ = some (.int .u8 (l[j]).toNat)) :
    Calls Try.prog 14 #[.slice (some ⟨g, o, none⟩) n c, .int .i64 a] w fun e w' =>
      e = .returned (.tuple #[.int .u64 (Pl.uvAt (l.drop a)).1, .int .i64 (Pl.uvAt (l.drop a)).2.1, .bool (Pl.uvAt (l.drop a)).2.2]) ∧ w' = w := by
  go_enter Try.func14, Try.ntmps14
  go_wp2
  go_loop [7, 8] (fun e j => ∃ k : Nat, k ≤ 10 ∧ a + k ≤ n ∧ e = .int .i64 (-1) ∧ j = .int .i64 k ∧ Hid (∀ i (h : a + i < l.length), i < k → 128 ≤ (l[a + i]).toNat)) (fun _ j => 10 - (intOf j).toNat)
  case atStart => exact ⟨0, by omega, by omega, rfl, rfl, fun i h hi => absurd hi (by omega)⟩
  case round =>
    obtain ⟨k, hk, hkn, rfl, rfl, HALL⟩ := hrel
    by_cases h1 : k < 10 ∧ a + k < n
    · have hc := hcell (a + k) (by omega)
      have HC := Hid.mk hcell
      clear hcell
      have hlt0 : a + k < l.length := by omega
      have hb256 : (l[a + k]).toNat < 256 := (l[a + k]).toNat_lt
      obtain ⟨b, HB⟩ : ∃ b : UInt8, Hid (l[a + k] = b) := ⟨_, Hid.mk rfl⟩
      rw [HB.out] at hc hb256
      obtain ⟨h10, hlt⟩ := h1
      by_cases hsm : b.toNat < 128
      · by_cases hov : k = 9 ∧ 1 < b.toNat
        · obtain ⟨h9, hb1⟩ := hov
          subst h9
          have HF : Hid (Pl.uvAt (l.drop a) = (0, 0, false)) := Pl.at_over l a hlt0 HALL.out (by rw [HB.out]; exact hsm) (by rw [HB.out]; exact hb1)
          go_wp2
          go_ret3
          exact ⟨by rw [HF.out]; rfl, rfl⟩
        · have HF : Hid (_ ∧ _) := Pl.at_good l a k h10 hlt0 HALL.out (by rw [HB.out]; exact hsm) (by rw [HB.out]; exact hov)
          have hs : (((k : Int) == 9) = true ∧ ¬ 1 < b.toNat ∧ a + 9 < n ∧ w.cell? ⟨g, o + (a + 9), none⟩ = some (.int .u8 b.toNat)) ∨ ((k : Int) == 9) = false := by
            by_cases h9 : k = 9
            · subst h9
              exact .inl ⟨rfl, by omega, by omega, hc⟩
            · exact .inr (beq_eq_false_iff_ne.2 (by omega))
          have hLl : ((l.drop a).take (k + 1)).length = k + 1 := by rw [List.length_take, List.length_drop]; omega
          obtain ⟨L, HL⟩ : ∃ L : List UInt8, Hid ((l.drop a).take (k + 1) = L) := ⟨_, Hid.mk rfl⟩
          rw [HL.out] at hLl
          have HLl := Hid.mk hLl
          clear hLl
          rcases hs with ⟨h9, hb1, hn9, hc9⟩ | h9
          all_goals
            go_wp2
            go_loop [9, 10] (fun v j => ∃ (j0 : Int) (V : Nat), -1 ≤ j0 ∧ j0 ≤ k ∧ j = .int .i64 j0 ∧ v = .int .u64 V ∧ Hid (V = Pl.val (L.drop (j0 + 1).toNat))) (fun _ j => (intOf j + 1).toNat)
            case atStart =>
              refine ⟨k, 0, by omega, by omega, rfl, rfl, ?_⟩
              show 0 = Pl.val (L.drop ((k : Int) + 1).toNat)
              rw [show ((k : Int) + 1).toNat = L.length from by have := HLl.out; omega, List.drop_length]
              rfl
            case round =>
              obtain ⟨j0, V, hj1, hj2, rfl, rfl, HV⟩ := hrel
              by_cases hj0 : 0 ≤ j0
              · obtain ⟨m, rfl⟩ := Int.eq_ofNat_of_zero_le hj0
                have hcm := HC.out (a + m) (by omega)
                have hstep := Pl.val_step L m (by have := HLl.out; omega)
                have hget : L[m]'(by have := HLl.out; omega) = l[a + m]'(by omega) := by
                  have e : L[m]'(by have := HLl.out; omega) = ((l.drop a).take (k + 1))[m]'(by rw [HL.out]; have := HLl.out; omega) := by simp only [HL.out]
                  rw [e, List.getElem_take, Pl.drop_get]
                rw [hget] at hstep
                have hle := Pl.val_drop_le m L
                have hbd : Pl.val L < 18446744073709551616 := by rw [← HL.out]; exact HF.out.2
                have hVe : V = Pl.val (L.drop (m + 1)) := by have := HV.out; rw [show ((m : Int) + 1).toNat = m + 1 from by omega] at this; exact this
                rw [← hVe] at hstep
                obtain ⟨d, hd⟩ : ∃ d : UInt8, l[a + m]'(by omega) = d := ⟨_, rfl⟩
                rw [hd] at hcm hstep
                have hd256 : d.toNat < 256 := d.toNat_lt
                have hVb : V * 128 + d.toNat % 128 < 18446744073709551616 := by omega
                have hg := gather V d (by omega)
                have HSt := Hid.mk hstep
                clear hstep hget hle hbd hVe hd
                go_wp2
                refine ⟨⟨(m : Int) - 1, d.toNat % 128 + 128 * V, by omega, by omega, rfl, rfl, ?_⟩, by simp [intOf] <;> omega⟩
                refine Hid.mk ?_
                rw [show ((m : Int) - 1 + 1).toNat = m from by omega, HSt.out]
              · have hj : j0 = -1 := by omega
                subst hj
                go_wp2
                go_ret3
                have hVe : V = Pl.val L := HV.out
                exact ⟨by rw [HF.out.1, HL.out, ← hVe]; rfl, rfl⟩
      · have HN : Hid (∀ i (h : a + i < l.length), i < k + 1 → 128 ≤ (l[a + i]).toNat) := fun i h hi => by
          by_cases e : i < k
          · exact HALL.out i h e
          · obtain rfl : i = k := by omega
            rw [HB.out]
            omega
        go_wp2
        go_round
        case rel => exact ⟨k + 1, by omega, by omega, rfl, by go_num, HN⟩
        case measure => simp [intOf]; omega
    · have HF : Hid (Pl.uvAt (l.drop a) = (0, 0, false)) := Pl.at_short l a k hk (by omega) HALL.out (by omega)
      have h1' : ¬ k < 10 ∨ ¬ a + k < n := by omega
      clear hcell
      rcases h1' with h1' | h1'
      all_goals
        go_wp2
        all_goals (go_ret3; exact ⟨by rw [HF.out]; rfl, rfl⟩)

set_option maxRecDepth 100000 in
set_option maxHeartbeats 400000 in
theorem bytes5 (a : Option Addr) (n c : Nat) (w : World) (hn : n ≤ 9223372036854775807) :
    Calls Try.prog 11 #[.slice a n c] w fun e w' => e = .returned (.bool (decide (n ≤ 1048576))) ∧ w' = w := by
  by_cases h : n ≤ 1048576
  · go_enter Try.func11, Try.ntmps11
    go_wp2
    go_ret
    exact ⟨by simp [h], rfl⟩
  · go_enter Try.func11, Try.ntmps11
    go_wp2
    go_ret
    exact ⟨by simp [h], rfl⟩
end Go.Proofs.Qxb6620878a
