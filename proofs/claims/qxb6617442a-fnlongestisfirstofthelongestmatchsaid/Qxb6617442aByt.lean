/-
  The walk of the length check (9).
-/
import Derived.Test.Qxb6617442aDom
namespace Go.Proofs.Qxb6617442a
open Go.RowKit

/-- The lists and strings ahead of (k, j) are short. -/
def ShortUpto (D : Nat → List (ByteArray × ByteArray)) (k j : Nat) : Prop :=
  (∀ k', k' < 26 → k' < k → (D k').length ≤ 1048576 ∧ ∀ j' (h : j' < (D k').length), (D k')[j'].1.size ≤ 1048576 ∧ (D k')[j'].2.size ≤ 1048576) ∧
  (∀ j' (h : j' < (D k).length), j' < j → (D k)[j'].1.size ≤ 1048576 ∧ (D k)[j'].2.size ≤ 1048576)

theorem ShortUpto.step {D k j} (h : ShortUpto D k j) (hn : ∀ hj : j < (D k).length, (D k)[j].1.size ≤ 1048576 ∧ (D k)[j].2.size ≤ 1048576) : ShortUpto D k (j + 1) := by
  refine ⟨h.1, fun j' hj' hlt => ?_⟩
  by_cases hc : j' < j
  · exact h.2 j' hj' hc
  · have e2 : j' = j := by omega
    subst e2
    exact hn hj'

theorem ShortUpto.onward {D k} (h : ShortUpto D k (D k).length) (hl : (D k).length ≤ 1048576) : ShortUpto D (k + 1) 0 := by
  refine ⟨fun k' h26 hlt => ?_, fun j' _ hlt => absurd hlt (by omega)⟩
  by_cases hc : k' < k
  · exact h.1 k' h26 hc
  · have e2 : k' = k := by omega
    subst e2
    exact ⟨hl, fun j' hj' => h.2 j' hj' hj'⟩

/-- What the answer true tells. -/
def BytTold (n : Nat) (D : Nat → List (ByteArray × ByteArray)) (b : Bool) : Prop := b = true → (n ≤ 1048576 ∧ Small 1048576 D)
theorem BytTold.no (n : Nat) (D : Nat → List (ByteArray × ByteArray)) : BytTold n D false := fun h => by cases h

/-- What the check leaves. -/
def BytPost (n : Nat) (D : Nat → List (ByteArray × ByteArray)) (w : World) (e : Ending) (w' : World) : Prop := ∃ b, e = .returned (.bool b) ∧ BytTold n D b ∧ Below w.heap.size w w'

set_option maxRecDepth 100000 in
set_option maxHeartbeats 2000000 in
theorem byt9 (a : Option Addr) (n c : Nat) (cs : Array Value) (sl : Nat → Option Addr) (cap : Nat → Nat) (D : Nat → List (ByteArray × ByteArray)) (w : World)
    (hn : n ≤ 9223372036854775807) (hcs : Cs cs sl cap D) (hr : Reads w sl D) (hsm : Small 9223372036854775807 D) :
    Calls Try.prog 9 #[.slice a n c, .agg cs] w (BytPost n D w) := by
  have HA : Hid (Below w.heap.size w (w.alloc (.cells cs 26))) := Hid.mk ((Below.refl _ _).alloc (Nat.le_refl _) _)
  have HR := Hid.mk (hr.old HA.out)
  have HX := Hid.mk (box_new (w := w) hcs 26)
  have HS := Hid.mk hsm
  clear hr hcs hsm
  by_cases hbig : 1048576 < n
  · go_enter Try.func9, Try.ntmps9
    go_wp2_with fail
    go_ret
    exact ⟨false, rfl, BytTold.no _ _, HA.out⟩
  · go_enter Try.func9, Try.ntmps9
    go_wp2_with fail
    obtain ⟨R, HRR⟩ : ∃ R, Hid (w.heap.size = R) := ⟨_, Hid.mk rfl⟩
    obtain ⟨W0, HW0⟩ : ∃ W0, Hid (w.alloc (.cells cs 26) = W0) := ⟨_, Hid.mk rfl⟩
    rw [HW0.out] at HA HR HX ⊢
    rw [HRR.out] at HA HX ⊢
    clear HW0
    have HFIN : Hid (Below w.heap.size w W0) := Hid.mk (by rw [HRR.out]; exact HA.out)
    go_loopw [5, 6] (fun vz vk wr => ∃ z k : Nat, k ≤ 26 ∧ z ≤ 1048576 ∧ vz = .int .i64 z ∧ vk = .int .i64 k ∧ wr = W0 ∧ Hid (ShortUpto D k 0)) (fun _ vk _ => 26 - (intOf vk).toNat)
    case atStart => exact ⟨n, 0, by omega, by omega, by go_num, rfl, rfl, Hid.mk ⟨fun k' _ hlt => absurd hlt (by omega), fun j' _ hlt => absurd hlt (by omega)⟩⟩
    case round =>
      obtain ⟨z, k, hk, hz, rfl, rfl, rfl, HM⟩ := hrel
      by_cases hk26 : k < 26
      · have hkd : decide ((k : Int) < 26) = true := decide_eq_true (by omega)
        have hx := HX.out k hk26
        obtain ⟨L, HL⟩ : ∃ L, Hid (D k = L) := ⟨_, Hid.mk rfl⟩
        have hsm := (HS.out k hk26).1
        rw [HL.out] at hx hsm
        obtain ⟨len, HLEN⟩ : ∃ len : Nat, Hid (L.length = len) := ⟨_, Hid.mk rfl⟩
        rw [HLEN.out] at hx hsm
        rename World => wo
        by_cases hlb : 1048576 < len
        · go_wp2_with fail
          go_ret
          exact ⟨false, rfl, BytTold.no _ _, HFIN.out⟩
        · by_cases hzb : 1048576 < z + len
          · go_wp2_with fail
            go_ret
            exact ⟨false, rfl, BytTold.no _ _, HFIN.out⟩
          · have hd1 : decide (1048576 < (len : Int)) = false := decide_eq_false (by omega)
            have hd2 : decide (1048576 < (z : Int) + (len : Int)) = false := decide_eq_false (by omega)
            go_wp2_with fail
            go_loopw [5, 7] (fun vz vj wr => ∃ z j : Nat, j ≤ len ∧ z ≤ 1048576 ∧ vz = .int .i64 z ∧ vj = .int .i64 j ∧ wr = wo ∧ Hid (ShortUpto D k j)) (fun _ vj _ => len - (intOf vj).toNat)
            case atStart => exact ⟨z + len, 0, by omega, by omega, by go_num, rfl, (by first | rfl | trivial), HM⟩
            case round =>
              clear HM
              obtain ⟨z, j, hj, hz, rfl, rfl, rfl, HM⟩ := hrel
              by_cases hjl : j < len
              · have hjd : decide ((j : Int) < (len : Int)) = true := decide_eq_true (by omega)
                have hjd' : decide (j < len) = true := decide_eq_true hjl
                have hjD : j < (D k).length := by rw [HL.out, HLEN.out]; exact hjl
                obtain ⟨g', o', hsl, hc1, hc2⟩ := HR.out k hk26 j hjD
                rw [hsl] at hx
                obtain ⟨hs1, hs2⟩ := (HS.out k hk26).2 j hjD
                have HYES := Hid.mk (fun h => ShortUpto.step HM.out h)
                obtain ⟨p1, HP1⟩ : ∃ p : ByteArray, Hid ((D k)[j].1 = p) := ⟨_, Hid.mk rfl⟩
                obtain ⟨p2, HP2⟩ : ∃ p : ByteArray, Hid ((D k)[j].2 = p) := ⟨_, Hid.mk rfl⟩
                rw [HP1.out] at hc1 hs1
                rw [HP2.out] at hc2 hs2
                obtain ⟨m1, hm1⟩ : ∃ m : Nat, p1.size = m := ⟨_, rfl⟩
                obtain ⟨m2, hm2⟩ : ∃ m : Nat, p2.size = m := ⟨_, rfl⟩
                have HYES' : Hid (m1 ≤ 1048576 → m2 ≤ 1048576 → ShortUpto D k (j + 1)) := Hid.mk (fun h1 h2 => HYES.out (fun _ => by rw [HP1.out, HP2.out, hm1, hm2]; exact ⟨h1, h2⟩))
                clear HYES
                rw [hm1] at hs1
                rw [hm2] at hs2
                rename World => wp
                go_wp2_with fail
                go_loopw [5, 8] (fun vz vi wr => ∃ z i : Nat, i ≤ 2 ∧ z ≤ 1048576 ∧ vz = .int .i64 z ∧ vi = .int .i64 i ∧ wr = wp ∧ Hid ((0 < i → m1 ≤ 1048576) ∧ (1 < i → m2 ≤ 1048576))) (fun _ vi _ => 2 - (intOf vi).toNat)
                case atStart => exact ⟨z, 0, by omega, by omega, by go_num, rfl, (by first | rfl | trivial), Hid.mk ⟨fun h => absurd h (by omega), fun h => absurd h (by omega)⟩⟩
                case round =>
                  clear HM hz
                  obtain ⟨z, i, hi, hz, rfl, rfl, rfl, HI⟩ := hrel
                  have hi3 : i = 0 ∨ i = 1 ∨ i = 2 := by omega
                  clear hi
                  rcases hi3 with hi0 | hi1 | hi2
                  · subst hi0
                    by_cases hb1 : 1048576 < m1
                    · go_wp2_with fail
                      go_ret
                      exact ⟨false, rfl, BytTold.no _ _, HFIN.out⟩
                    · by_cases hb2 : 1048576 < z + m1
                      · go_wp2_with fail
                        go_ret
                        exact ⟨false, rfl, BytTold.no _ _, HFIN.out⟩
                      · go_wp2_with fail
                        refine ⟨⟨z + m1, 0 + 1, by omega, by omega, by go_num, by go_num, (by first | rfl | trivial), Hid.mk ⟨fun _ => by omega, fun h => absurd h (by omega)⟩⟩, by simp [intOf] <;> omega⟩
                  · subst hi1
                    by_cases hb1 : 1048576 < m2
                    · go_wp2_with fail
                      go_ret
                      exact ⟨false, rfl, BytTold.no _ _, HFIN.out⟩
                    · by_cases hb2 : 1048576 < z + m2
                      · go_wp2_with fail
                        go_ret
                        exact ⟨false, rfl, BytTold.no _ _, HFIN.out⟩
                      · go_wp2_with fail
                        refine ⟨⟨z + m2, 1 + 1, by omega, by omega, by go_num, by go_num, (by first | rfl | trivial), Hid.mk ⟨fun _ => HI.out.1 (by omega), fun _ => by omega⟩⟩, by simp [intOf] <;> omega⟩
                  · subst hi2
                    have HN := Hid.mk (HYES'.out (HI.out.1 (by omega)) (HI.out.2 (by omega)))
                    go_wp2_with fail
                    refine ⟨⟨z, j + 1, by omega, by omega, by go_num, by go_num, (by first | rfl | trivial), HN⟩, by simp [intOf] <;> omega⟩
              · have hje : j = len := by omega
                subst hje
                have HN : Hid (ShortUpto D (k + 1) 0) := Hid.mk (ShortUpto.onward (by rw [HL.out, HLEN.out]; exact HM.out) (by rw [HL.out, HLEN.out]; omega))
                go_wp2_with fail
                refine ⟨⟨z, k + 1, by omega, by omega, by go_num, by go_num, (by first | rfl | trivial), HN⟩, by simp [intOf] <;> omega⟩
      · have hke : k = 26 := by omega
        subst hke
        have HT : Hid (BytTold n D true) := Hid.mk fun _ => ⟨by omega, fun k' hk' => HM.out.1 k' hk' hk'⟩
        go_wp2_with fail
        go_ret
        exact ⟨true, rfl, HT.out, HFIN.out⟩
end Go.Proofs.Qxb6617442a
