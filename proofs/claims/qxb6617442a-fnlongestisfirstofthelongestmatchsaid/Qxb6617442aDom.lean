/-
  The walk of zzRulesInDomain (10).
-/
import Derived.Test.Qxb6617442aMax
namespace Go.Proofs.Qxb6617442a
open Go.RowKit

/-- The suffix p is not empty and ends in the letter of bucket k. -/
def Fits (k : Nat) (p : ByteArray) : Prop := ∃ h : 0 < p.size, (p[p.size - 1]'(by omega)).toNat = 97 + k
/-- All rules ahead of (k, j) fit. -/
def DomUpto (D : Nat → List (ByteArray × ByteArray)) (k j : Nat) : Prop := ∀ k' j' (h : j' < (D k').length), k' < 26 → (k' < k ∨ (k' = k ∧ j' < j)) → Fits k' (D k')[j'].1

theorem DomUpto.step {D k j} (h : DomUpto D k j) (hn : ∀ hj : j < (D k).length, Fits k (D k)[j].1) : DomUpto D k (j + 1) := by
  intro k' j' hj' h26 hlt
  by_cases hc : k' < k ∨ (k' = k ∧ j' < j)
  · exact h k' j' hj' h26 hc
  · have e1 : k' = k := by omega
    subst e1
    have e2 : j' = j := by omega
    subst e2
    exact hn hj'

theorem DomUpto.onward {D k} (h : DomUpto D k (D k).length) : DomUpto D (k + 1) 0 := by
  intro k' j' hj' h26 hlt
  refine h k' j' hj' h26 ?_
  by_cases e : k' = k
  · subst e
    exact Or.inr ⟨rfl, hj'⟩
  · omega

/-- What the answer true tells. -/
def DomTold (x : UInt8) (D : Nat → List (ByteArray × ByteArray)) (b : Bool) : Prop := b = true → (97 ≤ x.toNat ∧ x.toNat ≤ 122 ∧ DomUpto D 26 0)
theorem DomTold.no (x : UInt8) (D : Nat → List (ByteArray × ByteArray)) : DomTold x D false := fun h => by cases h

set_option maxRecDepth 100000 in
set_option maxHeartbeats 400000 in
theorem dom_empty (a : Option Addr) (c : Nat) (cs : Array Value) (_h26 : cs.size = 26) (w : World) :
    Calls Try.prog 10 #[.slice a 0 c, .agg cs] w fun e w' => e = .returned (.bool false) ∧ Below w.heap.size w w' := by
  have HA : Hid (Below w.heap.size w (w.alloc (.cells cs 26))) := Hid.mk ((Below.refl _ _).alloc (Nat.le_refl _) _)
  go_enter Try.func10, Try.ntmps10
  go_wp2_with fail
  go_ret
  exact ⟨rfl, HA.out⟩

set_option maxRecDepth 100000 in
set_option maxHeartbeats 1000000 in
theorem dom10 (g o n c : Nat) (l : List UInt8) (cs : Array Value) (sl : Nat → Option Addr) (cap : Nat → Nat) (D : Nat → List (ByteArray × ByteArray)) (w : World)
    (hl : l.length = n + 1) (hn : n ≤ 1048576) (hb : BytesAt w g o l) (hcs : Cs cs sl cap D) (hr : Reads w sl D) (hsm : Small 1048576 D) :
    Calls Try.prog 10 #[.slice (some ⟨g, o, none⟩) (n + 1) c, .agg cs] w fun e w' => ∃ b, e = .returned (.bool b) ∧
      DomTold (l[n]'(by omega)) D b ∧ Below w.heap.size w w' := by
  have HA : Hid (Below w.heap.size w (w.alloc (.cells cs 26))) := Hid.mk ((Below.refl _ _).alloc (Nat.le_refl _) _)
  have hlast := (hb.old HA.out) n (by omega)
  have HR := Hid.mk (hr.old HA.out)
  have HX := Hid.mk (box_new (w := w) hcs 26)
  have HS := Hid.mk hsm
  have h26 := hcs.1
  clear hb hr hcs hsm
  obtain ⟨x, HXX⟩ : ∃ x : UInt8, Hid (l[n]'(by omega) = x) := ⟨_, Hid.mk rfl⟩
  simp only [HXX.out] at hlast ⊢
  obtain ⟨W0, HW0⟩ : ∃ W0, Hid (w.alloc (.cells cs 26) = W0) := ⟨_, Hid.mk rfl⟩
  by_cases hlow : x.toNat < 97
  · go_enter Try.func10, Try.ntmps10
    go_wp2_with fail
    go_ret
    first | exact ⟨false, rfl, DomTold.no _ _, HA.out⟩ | exact Or.inl ⟨rfl, DomTold.no _ _, HA.out⟩
  · by_cases hhi : 122 < x.toNat
    · go_enter Try.func10, Try.ntmps10
      go_wp2_with fail
      go_ret
      exact ⟨false, rfl, DomTold.no _ _, HA.out⟩
    · go_enter Try.func10, Try.ntmps10
      go_wp2_with fail
      obtain ⟨R, HRR⟩ : ∃ R, Hid (w.heap.size = R) := ⟨_, Hid.mk rfl⟩
      rw [HW0.out] at HA HR HX ⊢
      rw [HRR.out] at HA HX ⊢
      clear HW0 h26 hlast
      go_loopw [6] (fun vk wr => ∃ k : Nat, k ≤ 26 ∧ vk = .int .i64 k ∧ wr = W0 ∧ Hid (DomUpto D k 0)) (fun vk _ => 26 - (intOf vk).toNat)
      case atStart => exact ⟨0, by omega, rfl, rfl, Hid.mk fun k' j' h _ hlt => absurd hlt (by omega)⟩
      case round =>
        obtain ⟨k, hk, rfl, rfl, HM⟩ := hrel
        by_cases hk26 : k < 26
        · have hkd : decide ((k : Int) < 26) = true := decide_eq_true (by omega)
          have hx := HX.out k hk26
          obtain ⟨L, HL⟩ : ∃ L, Hid (D k = L) := ⟨_, Hid.mk rfl⟩
          have hsm := (HS.out k hk26).1
          rw [HL.out] at hx hsm
          obtain ⟨len, HLEN⟩ : ∃ len : Nat, Hid (L.length = len) := ⟨_, Hid.mk rfl⟩
          rw [HLEN.out] at hx hsm
          rename World => wo
          go_wp2_with fail
          go_loopw [7] (fun vj wr => ∃ j : Nat, j ≤ len ∧ vj = .int .i64 j ∧ wr = wo ∧ Hid (DomUpto D k j)) (fun vj _ => len - (intOf vj).toNat)
          case atStart => exact ⟨0, by omega, rfl, rfl, HM⟩
          case round =>
            clear HM
            obtain ⟨j, hj, rfl, rfl, HM⟩ := hrel
            by_cases hjl : j < len
            · have hjD : j < (D k).length := by rw [HL.out, HLEN.out]; exact hjl
              obtain ⟨g', o', hsl, hc1, _⟩ := HR.out k hk26 j hjD
              rw [hsl] at hx
              have hs1 := ((HS.out k hk26).2 j hjD).1
              have HYES := Hid.mk (fun h => DomUpto.step HM.out h)
              obtain ⟨p, HP⟩ : ∃ p : ByteArray, Hid ((D k)[j].1 = p) := ⟨_, Hid.mk rfl⟩
              rw [HP.out] at hc1 hs1
              have HYES' : Hid (Fits k p → DomUpto D k (j + 1)) := Hid.mk (fun h => HYES.out (fun _ => by rw [HP.out]; exact h))
              clear HYES
              by_cases hz : p.size = 0
              · go_wp2_with fail
                go_ret
                exact ⟨false, rfl, DomTold.no _ _, by rw [HRR.out]; exact HA.out⟩
              · obtain ⟨m, hm⟩ : ∃ m : Nat, p.size = m + 1 := ⟨p.size - 1, by omega⟩
                clear hz
                rw [hm] at hs1
                have hmq : ((m : Int) + 1 == 0) = false := by rw [beq_eq_false_iff_ne]; omega
                obtain ⟨y, HY⟩ : ∃ y : UInt8, Hid (p[m]'(by omega) = y) := ⟨_, Hid.mk rfl⟩
                have hpy : p[m]'(by omega) = y := HY.out
                have HF : Hid (y.toNat = 97 + k → Fits k p) := Hid.mk fun h => ⟨by omega, by simp only [hm, Nat.add_sub_cancel]; rw [HY.out]; exact h⟩
                by_cases hy : y.toNat = 97 + k
                · have hq : ((y.toNat : Int) != 97 + (k : Int)) = false := by simp; omega
                  have HDN := Hid.mk (HYES'.out (HF.out hy))
                  clear hy
                  go_wp2_with fail
                  refine ⟨⟨j + 1, by omega, by go_num, (by first | rfl | trivial), HDN⟩, by simp [intOf] <;> omega⟩
                · have hq : ((y.toNat : Int) != 97 + (k : Int)) = true := by simp; omega
                  clear hy
                  go_wp2_with fail
                  go_ret
                  exact ⟨false, rfl, DomTold.no _ _, by rw [HRR.out]; exact HA.out⟩
            · have hje : j = len := by omega
              subst hje
              have HN : Hid (DomUpto D (k + 1) 0) := Hid.mk (DomUpto.onward (by rw [HL.out, HLEN.out]; exact HM.out))
              go_wp2_with fail
              refine ⟨⟨k + 1, by omega, by go_num, (by first | rfl | trivial), HN⟩, by simp [intOf] <;> omega⟩
        · have hke : k = 26 := by omega
          subst hke
          go_wp2_with fail
          go_ret
          exact ⟨true, rfl, fun _ => ⟨by omega, by omega, HM.out⟩, by rw [HRR.out]; exact HA.out⟩
end Go.Proofs.Qxb6617442a
