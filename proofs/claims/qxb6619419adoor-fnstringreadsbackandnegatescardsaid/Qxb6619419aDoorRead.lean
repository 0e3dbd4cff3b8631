/-
  The reading of an amount's text (7), the magnitude (8), and the law of reading back (3).
-/
import Derived.Test.Qxb6619419aDoorCmp
import Derived.OwnWalk
namespace Go.Proofs.Qxb6619419aDoor
open Go.RowKit

set_option maxRecDepth 100000 in
set_option maxHeartbeats 2000000 in
theorem read_walk (s : ByteArray) (o e : Nat) (ng : Bool) (ho : (o = 0 ∧ ng = false) ∨ (o = 1 ∧ ng = true)) (he : o < e) (hs : s.size = e + 3) (he30 : e ≤ 30)
    (h0 : (((s[0]'(by omega)).toNat : Int) == 45) = ng)
    (hdig : ∀ i (h : i < e + 3), o ≤ i → i ≠ e → 48 ≤ (s[i]'(by omega)).toNat ∧ (s[i]'(by omega)).toNat ≤ 57)
    (hlead : e = o + 1 ∨ (o + 1 < e ∧ (((s[o]'(by omega)).toNat : Int) == 48) = false))
    (hdot : (s[e]'(by omega)).toNat = 46)
    (vl : Nat → Nat) (v0 : vl o = 0) (vs : ∀ i (h : i < e + 3), o ≤ i → i ≠ e → vl (i + 1) = vl i * 10 + ((s[i]'(by omega)).toNat - 48)) (ve : vl (e + 1) = vl e)
    (vm : ∀ i, i ≤ e + 3 → vl i ≤ 18446744073709551615) (hz : ng = true → vl (e + 3) ≠ 0) (w : World) :
    Calls Tryd.prog 7 #[.string s] w fun r w' => r = .returned (.tuple #[.bool ng, .int .u64 (vl (e + 3)), .bool true]) ∧ w' = w := by
  have HG := Hid.mk hdig
  have HV := Hid.mk vs
  have HE := Hid.mk ve
  have HM := Hid.mk vm
  have H0 := Hid.mk v0
  have HZ := Hid.mk hz
  clear hdig vs ve vm v0 hz
  have g1 := HG.out (e + 1) (by omega) (by omega) (by omega)
  have g2 := HG.out (e + 2) (by omega) (by omega) (by omega)
  rcases ho with ⟨rfl, rfl⟩ | ⟨rfl, rfl⟩
  · go_enter Tryd.func7, Tryd.ntmps7
    go_wp2_with fail
    go_loop [6] (fun i => ∃ k : Nat, 0 ≤ k ∧ k ≤ e ∧ i = .int .i64 k) (fun i => e + 3 - (intOf i).toNat)
    case atStart => exact ⟨0, by omega, by omega, by go_num⟩
    case round =>
      obtain ⟨k, hk1, hk2, rfl⟩ := hrel
      by_cases hk : k < e
      · have hd := HG.out k (by omega) hk1 (by omega)
        go_wp2_with fail
        go_round
        case rel => exact ⟨k + 1, by omega, by omega, by go_num⟩
        case measure => simp [intOf] <;> omega
      · have hke : k = e := by omega
        subst hke
        have q1 : ((k : Int) + 3 - k) = 3 := by omega
        have q2 : ((k : Int) - 0 == 0) = false := by rw [beq_eq_false_iff_ne]; omega
        rcases hlead with hl | ⟨hl, hl'⟩
        · have q3 : ¬ ((1 : Int) < (k : Int) - 0) := by omega
          have q4 : ¬ ((1 : Int) < (k : Int)) ∨ 0 < 0 := by omega
          have HL := Hid.mk hl
          clear hl
          go_wp2_with fail
          go_loop [10, 11] (fun v i => ∃ j : Nat, 0 ≤ j ∧ j ≤ k + 3 ∧ i = .int .i64 j ∧ v = .int .u64 (vl j)) (fun _ i => k + 3 - (intOf i).toNat)
          case atStart => exact ⟨0, by omega, by omega, by go_num, by rw [H0.out]; rfl⟩
          case round =>
            obtain ⟨j, hj1, hj2, rfl, rfl⟩ := hrel
            by_cases hj : j < k + 3
            · by_cases hjk : j = k
              · subst hjk
                have hqe : ((j : Int) == (j : Int)) = true := by simp
                have hve := HE.out
                obtain ⟨x, HX⟩ : ∃ x : Nat, Hid (vl j = x) := ⟨_, Hid.mk rfl⟩
                rw [HX.out] at hve ⊢
                have HVE := Hid.mk hve
                clear hve
                go_wp2_with fail
                go_round
                case rel => exact ⟨j + 1, by omega, by omega, by go_num, by rw [HVE.out]⟩
                case measure => simp [intOf] <;> omega
              · have hqe : ((j : Int) == (k : Int)) = false := by rw [beq_eq_false_iff_ne]; omega
                have hd := HG.out j hj hj1 hjk
                have hv := HV.out j hj hj1 hjk
                have hm := HM.out (j + 1) (by omega)
                have hm' := HM.out j (by omega)
                rw [hv] at hm
                obtain ⟨x, HX⟩ : ∃ x : Nat, Hid (vl j = x) := ⟨_, Hid.mk rfl⟩
                rw [HX.out] at hv hm hm' ⊢
                obtain ⟨c, HC⟩ : ∃ c : UInt8, Hid (s[j]'(by omega) = c) := ⟨_, Hid.mk rfl⟩
                have hsp : s[j]'(by omega) = c := HC.out
                rw [hsp] at hv hm hd
                have HV' := Hid.mk hv
                clear hv
                have hquo : ¬ ((18446744073709551615 - ((c.toNat : Int) - 48)) / 10 < (x : Int)) := by omega
                go_wp2_with fail
                go_round
                case rel => exact ⟨j + 1, by omega, by omega, by go_num, by rw [HV'.out]; congr 1; omega⟩
                case measure => simp [intOf] <;> omega
            · have hje : j = k + 3 := by omega
              subst hje
              obtain ⟨x, HX⟩ : ∃ x : Nat, Hid (vl (k + 3) = x) := ⟨_, Hid.mk rfl⟩
              rw [HX.out] at HZ ⊢
              have hzz : True := trivial
              go_wp2_with fail
              go_ret3
              exact ⟨by first | rfl | (rw [HX.out]; rfl), rfl⟩
        · have q3 : (1 : Int) < (k : Int) - 0 := by omega
          go_wp2_with fail
          go_loop [10, 11] (fun v i => ∃ j : Nat, 0 ≤ j ∧ j ≤ k + 3 ∧ i = .int .i64 j ∧ v = .int .u64 (vl j)) (fun _ i => k + 3 - (intOf i).toNat)
          case atStart => exact ⟨0, by omega, by omega, by go_num, by rw [H0.out]; rfl⟩
          case round =>
            obtain ⟨j, hj1, hj2, rfl, rfl⟩ := hrel
            by_cases hj : j < k + 3
            · by_cases hjk : j = k
              · subst hjk
                have hqe : ((j : Int) == (j : Int)) = true := by simp
                have hve := HE.out
                obtain ⟨x, HX⟩ : ∃ x : Nat, Hid (vl j = x) := ⟨_, Hid.mk rfl⟩
                rw [HX.out] at hve ⊢
                have HVE := Hid.mk hve
                clear hve
                go_wp2_with fail
                go_round
                case rel => exact ⟨j + 1, by omega, by omega, by go_num, by rw [HVE.out]⟩
                case measure => simp [intOf] <;> omega
              · have hqe : ((j : Int) == (k : Int)) = false := by rw [beq_eq_false_iff_ne]; omega
                have hd := HG.out j hj hj1 hjk
                have hv := HV.out j hj hj1 hjk
                have hm := HM.out (j + 1) (by omega)
                have hm' := HM.out j (by omega)
                rw [hv] at hm
                obtain ⟨x, HX⟩ : ∃ x : Nat, Hid (vl j = x) := ⟨_, Hid.mk rfl⟩
                rw [HX.out] at hv hm hm' ⊢
                obtain ⟨c, HC⟩ : ∃ c : UInt8, Hid (s[j]'(by omega) = c) := ⟨_, Hid.mk rfl⟩
                have hsp : s[j]'(by omega) = c := HC.out
                rw [hsp] at hv hm hd
                have HV' := Hid.mk hv
                clear hv
                have hquo : ¬ ((18446744073709551615 - ((c.toNat : Int) - 48)) / 10 < (x : Int)) := by omega
                go_wp2_with fail
                go_round
                case rel => exact ⟨j + 1, by omega, by omega, by go_num, by rw [HV'.out]; congr 1; omega⟩
                case measure => simp [intOf] <;> omega
            · have hje : j = k + 3 := by omega
              subst hje
              obtain ⟨x, HX⟩ : ∃ x : Nat, Hid (vl (k + 3) = x) := ⟨_, Hid.mk rfl⟩
              rw [HX.out] at HZ ⊢
              have hzz : True := trivial
              go_wp2_with fail
              go_ret3
              exact ⟨by first | rfl | (rw [HX.out]; rfl), rfl⟩
  · go_enter Tryd.func7, Tryd.ntmps7
    go_wp2_with fail
    go_loop [6] (fun i => ∃ k : Nat, 1 ≤ k ∧ k ≤ e ∧ i = .int .i64 k) (fun i => e + 3 - (intOf i).toNat)
    case atStart => exact ⟨1, by omega, by omega, by go_num⟩
    case round =>
      obtain ⟨k, hk1, hk2, rfl⟩ := hrel
      by_cases hk : k < e
      · have hd := HG.out k (by omega) hk1 (by omega)
        go_wp2_with fail
        go_round
        case rel => exact ⟨k + 1, by omega, by omega, by go_num⟩
        case measure => simp [intOf] <;> omega
      · have hke : k = e := by omega
        subst hke
        have q1 : ((k : Int) + 3 - k) = 3 := by omega
        have q2 : ((k : Int) - 1 == 0) = false := by rw [beq_eq_false_iff_ne]; omega
        rcases hlead with hl | ⟨hl, hl'⟩
        · have q3 : ¬ ((1 : Int) < (k : Int) - 1) := by omega
          have q4 : ¬ ((1 : Int) < (k : Int)) ∨ 0 < 1 := by omega
          have HL := Hid.mk hl
          clear hl
          go_wp2_with fail
          go_loop [10, 11] (fun v i => ∃ j : Nat, 1 ≤ j ∧ j ≤ k + 3 ∧ i = .int .i64 j ∧ v = .int .u64 (vl j)) (fun _ i => k + 3 - (intOf i).toNat)
          case atStart => exact ⟨1, by omega, by omega, by go_num, by rw [H0.out]; rfl⟩
          case round =>
            obtain ⟨j, hj1, hj2, rfl, rfl⟩ := hrel
            by_cases hj : j < k + 3
            · by_cases hjk : j = k
              · subst hjk
                have hqe : ((j : Int) == (j : Int)) = true := by simp
                have hve := HE.out
                obtain ⟨x, HX⟩ : ∃ x : Nat, Hid (vl j = x) := ⟨_, Hid.mk rfl⟩
                rw [HX.out] at hve ⊢
                have HVE := Hid.mk hve
                clear hve
                go_wp2_with fail
                go_round
                case rel => exact ⟨j + 1, by omega, by omega, by go_num, by rw [HVE.out]⟩
                case measure => simp [intOf] <;> omega
              · have hqe : ((j : Int) == (k : Int)) = false := by rw [beq_eq_false_iff_ne]; omega
                have hd := HG.out j hj hj1 hjk
                have hv := HV.out j hj hj1 hjk
                have hm := HM.out (j + 1) (by omega)
                have hm' := HM.out j (by omega)
                rw [hv] at hm
                obtain ⟨x, HX⟩ : ∃ x : Nat, Hid (vl j = x) := ⟨_, Hid.mk rfl⟩
                rw [HX.out] at hv hm hm' ⊢
                obtain ⟨c, HC⟩ : ∃ c : UInt8, Hid (s[j]'(by omega) = c) := ⟨_, Hid.mk rfl⟩
                have hsp : s[j]'(by omega) = c := HC.out
                rw [hsp] at hv hm hd
                have HV' := Hid.mk hv
                clear hv
                have hquo : ¬ ((18446744073709551615 - ((c.toNat : Int) - 48)) / 10 < (x : Int)) := by omega
                go_wp2_with fail
                go_round
                case rel => exact ⟨j + 1, by omega, by omega, by go_num, by rw [HV'.out]; congr 1; omega⟩
                case measure => simp [intOf] <;> omega
            · have hje : j = k + 3 := by omega
              subst hje
              obtain ⟨x, HX⟩ : ∃ x : Nat, Hid (vl (k + 3) = x) := ⟨_, Hid.mk rfl⟩
              rw [HX.out] at HZ ⊢
              have hzz : ((x : Int) == 0) = false := by rw [beq_eq_false_iff_ne]; have := HZ.out (by trivial); omega
              go_wp2_with fail
              go_ret3
              exact ⟨by first | rfl | (rw [HX.out]; rfl), rfl⟩
        · have q3 : (1 : Int) < (k : Int) - 1 := by omega
          go_wp2_with fail
          go_loop [10, 11] (fun v i => ∃ j : Nat, 1 ≤ j ∧ j ≤ k + 3 ∧ i = .int .i64 j ∧ v = .int .u64 (vl j)) (fun _ i => k + 3 - (intOf i).toNat)
          case atStart => exact ⟨1, by omega, by omega, by go_num, by rw [H0.out]; rfl⟩
          case round =>
            obtain ⟨j, hj1, hj2, rfl, rfl⟩ := hrel
            by_cases hj : j < k + 3
            · by_cases hjk : j = k
              · subst hjk
                have hqe : ((j : Int) == (j : Int)) = true := by simp
                have hve := HE.out
                obtain ⟨x, HX⟩ : ∃ x : Nat, Hid (vl j = x) := ⟨_, Hid.mk rfl⟩
                rw [HX.out] at hve ⊢
                have HVE := Hid.mk hve
                clear hve
                go_wp2_with fail
                go_round
                case rel => exact ⟨j + 1, by omega, by omega, by go_num, by rw [HVE.out]⟩
                case measure => simp [intOf] <;> omega
              · have hqe : ((j : Int) == (k : Int)) = false := by rw [beq_eq_false_iff_ne]; omega
                have hd := HG.out j hj hj1 hjk
                have hv := HV.out j hj hj1 hjk
                have hm := HM.out (j + 1) (by omega)
                have hm' := HM.out j (by omega)
                rw [hv] at hm
                obtain ⟨x, HX⟩ : ∃ x : Nat, Hid (vl j = x) := ⟨_, Hid.mk rfl⟩
                rw [HX.out] at hv hm hm' ⊢
                obtain ⟨c, HC⟩ : ∃ c : UInt8, Hid (s[j]'(by omega) = c) := ⟨_, Hid.mk rfl⟩
                have hsp : s[j]'(by omega) = c := HC.out
                rw [hsp] at hv hm hd
                have HV' := Hid.mk hv
                clear hv
                have hquo : ¬ ((18446744073709551615 - ((c.toNat : Int) - 48)) / 10 < (x : Int)) := by omega
                go_wp2_with fail
                go_round
                case rel => exact ⟨j + 1, by omega, by omega, by go_num, by rw [HV'.out]; congr 1; omega⟩
                case measure => simp [intOf] <;> omega
            · have hje : j = k + 3 := by omega
              subst hje
              obtain ⟨x, HX⟩ : ∃ x : Nat, Hid (vl (k + 3) = x) := ⟨_, Hid.mk rfl⟩
              rw [HX.out] at HZ ⊢
              have hzz : ((x : Int) == 0) = false := by rw [beq_eq_false_iff_ne]; have := HZ.out (by trivial); omega
              go_wp2_with fail
              go_ret3
              exact ⟨by first | rfl | (rw [HX.out]; rfl), rfl⟩
end Go.Proofs.Qxb6619419aDoor
