/-
  The rules as they lie in memory, and the walk of zzLongestMatchLen (12).
-/
import Derived.Test.Qxb6617442aEnd
namespace Go.Proofs.Qxb6617442a
open Go.RowKit

/-- The argument's 26 cells: slices, each as long as its list of rules. -/
def Cs (cs : Array Value) (sl : Nat → Option Addr) (cap : Nat → Nat) (D : Nat → List (ByteArray × ByteArray)) : Prop :=
  cs.size = 26 ∧ ∀ k, k < 26 → cs[k]? = some (.slice (sl k) (D k).length (cap k))

/-- What the slices lead to. -/
def Reads (w : World) (sl : Nat → Option Addr) (D : Nat → List (ByteArray × ByteArray)) : Prop :=
  ∀ k, k < 26 → ∀ j (h : j < (D k).length), ∃ g o, sl k = some ⟨g, o, none⟩ ∧ w.cell? ⟨g, o + j * 2, none⟩ = some (.string (D k)[j].1) ∧ w.cell? ⟨g, o + j * 2 + 1, none⟩ = some (.string (D k)[j].2)

/-- No list and no string is longer than M. -/
def Small (M : Nat) (D : Nat → List (ByteArray × ByteArray)) : Prop :=
  ∀ k, k < 26 → (D k).length ≤ M ∧ ∀ j (h : j < (D k).length), (D k)[j].1.size ≤ M ∧ (D k)[j].2.size ≤ M

theorem Reads.old {w w' : World} {sl D} (h : Reads w sl D) (hb : Below w.heap.size w w') : Reads w' sl D := by
  intro k hk j hj
  obtain ⟨g, o, h1, h2, h3⟩ := h k hk j hj
  have hg := World.block_lt_of_cell? w _ h2
  refine ⟨g, o, h1, ?_, ?_⟩
  · rw [← h2]; exact World.cell?_of_block (hb.block g hg)
  · rw [← h3]; exact World.cell?_of_block (hb.block g hg)

theorem BytesAt.old {w w' : World} {g o l} (h : BytesAt w g o l) (hb : Below w.heap.size w w') : BytesAt w' g o l := by
  intro j hj
  have h2 := h j hj
  have hg := World.block_lt_of_cell? w _ h2
  rw [← h2]; exact World.cell?_of_block (hb.block g hg)

/-- The array of slices, boxed in block R. -/
def BoxAt (w : World) (R : Nat) (sl : Nat → Option Addr) (cap : Nat → Nat) (D : Nat → List (ByteArray × ByteArray)) : Prop :=
  ∀ k, k < 26 → w.cell? ⟨R, k, none⟩ = some (.slice (sl k) (D k).length (cap k))

theorem box_new {w : World} {cs sl cap D} (h : Cs cs sl cap D) (t : TypeId) : BoxAt (w.alloc (.cells cs t)) w.heap.size sl cap D := by
  intro k hk
  rw [cell_of_row _ _ k cs t (0, 0) (heap_alloc_last w _)]
  exact h.2 k hk

theorem below_drew {B : Nat} {a W : World} (h : Below B a W) (n : Nat) : Below B a (W.drewN n) := ⟨h.os, h.tape, h.output, h.size, h.block⟩

/-- What holds of the greatest length, the rules ahead of (k, j) seen. -/
def MaxUpto (l : List UInt8) (D : Nat → List (ByteArray × ByteArray)) (k j mx : Nat) : Prop :=
  (∀ k' j' (h : j' < (D k').length), k' < 26 → (k' < k ∨ (k' = k ∧ j' < j)) → Ends l (D k')[j'].1 → (D k')[j'].1.size ≤ mx) ∧
  (mx = 0 ∨ ∃ k' j', ∃ h : j' < (D k').length, k' < 26 ∧ (k' < k ∨ (k' = k ∧ j' < j)) ∧ Ends l (D k')[j'].1 ∧ (D k')[j'].1.size = mx)

theorem MaxUpto.no {l D k j mx} (h : MaxUpto l D k j mx) (hn : ∀ hj : j < (D k).length, Ends l (D k)[j].1 → (D k)[j].1.size ≤ mx) : MaxUpto l D k (j + 1) mx := by
  refine ⟨fun k' j' hj' h26 hlt he => ?_, ?_⟩
  · by_cases hc : k' < k ∨ (k' = k ∧ j' < j)
    · exact h.1 k' j' hj' h26 hc he
    · have e1 : k' = k := by omega
      subst e1
      have e2 : j' = j := by omega
      subst e2
      exact hn hj' he
  · rcases h.2 with h0 | ⟨k', j', hj', h26, hlt, he, hs⟩
    · exact Or.inl h0
    · exact Or.inr ⟨k', j', hj', h26, by omega, he, hs⟩

theorem MaxUpto.yes {l D k j mx} (h : MaxUpto l D k j mx) (hk : k < 26) (hj : j < (D k).length) (he : Ends l (D k)[j].1) (hs : mx < (D k)[j].1.size) : MaxUpto l D k (j + 1) (D k)[j].1.size := by
  refine ⟨fun k' j' hj' h26 hlt he' => ?_, Or.inr ⟨k, j, hj, hk, by omega, he, rfl⟩⟩
  by_cases hc : k' < k ∨ (k' = k ∧ j' < j)
  · have := h.1 k' j' hj' h26 hc he'
    omega
  · have e1 : k' = k := by omega
    subst e1
    have e2 : j' = j := by omega
    subst e2
    exact Nat.le_refl _

theorem MaxUpto.onward {l D k mx} (h : MaxUpto l D k (D k).length mx) : MaxUpto l D (k + 1) 0 mx := by
  refine ⟨fun k' j' hj' h26 hlt he => ?_, ?_⟩
  · refine h.1 k' j' hj' h26 ?_ he
    by_cases e : k' = k
    · subst e
      exact Or.inr ⟨rfl, hj'⟩
    · omega
  · rcases h.2 with h0 | ⟨k', j', hj', h26, hlt, he, hs⟩
    · exact Or.inl h0
    · exact Or.inr ⟨k', j', hj', h26, by omega, he, hs⟩

set_option maxRecDepth 100000 in
set_option maxHeartbeats 1000000 in
theorem max12 (g o n c : Nat) (l : List UInt8) (cs : Array Value) (sl : Nat → Option Addr) (cap : Nat → Nat) (D : Nat → List (ByteArray × ByteArray)) (w : World)
    (hl : l.length = n) (hn : n ≤ 1048576) (hb : BytesAt w g o l) (hcs : Cs cs sl cap D) (hr : Reads w sl D) (hsm : Small 1048576 D) :
    Calls Try.prog 12 #[.slice (some ⟨g, o, none⟩) n c, .agg cs] w fun e w' => ∃ mx, e = .returned (.int .i64 (mx : Nat)) ∧ MaxUpto l D 26 0 mx ∧ Below w.heap.size w w' := by
  have HA : Hid (Below w.heap.size w (w.alloc (.cells cs 26))) := Hid.mk ((Below.refl _ _).alloc (Nat.le_refl _) _)
  have HB := Hid.mk (hb.old HA.out)
  have HR := Hid.mk (hr.old HA.out)
  have HX := Hid.mk (box_new (w := w) hcs 26)
  have HS := Hid.mk hsm
  have h26 := hcs.1
  clear hb hr hcs hsm
  go_enter Try.func12, Try.ntmps12
  go_wp2_with fail
  obtain ⟨R, HRR⟩ : ∃ R, Hid (w.heap.size = R) := ⟨_, Hid.mk rfl⟩
  obtain ⟨W0, HW0⟩ : ∃ W0, Hid (w.alloc (.cells cs 26) = W0) := ⟨_, Hid.mk rfl⟩
  rw [HW0.out] at HA HB HR HX ⊢
  rw [HRR.out] at HA HX ⊢
  clear HW0 h26
  go_loopw [5, 6] (fun vm vk wr => ∃ mx k q : Nat, k ≤ 26 ∧ mx ≤ 1048576 ∧ vm = .int .i64 mx ∧ vk = .int .i64 k ∧ wr = W0.drewN q ∧ Hid (MaxUpto l D k 0 mx)) (fun _ vk _ => 26 - (intOf vk).toNat)
  case atStart => exact ⟨0, 0, 0, by omega, by omega, rfl, rfl, rfl, Hid.mk ⟨fun k' j' h _ hlt => absurd hlt (by omega), Or.inl rfl⟩⟩
  case round =>
    obtain ⟨mx, k, q, hk, hmx, rfl, rfl, rfl, HM⟩ := hrel
    by_cases hk26 : k < 26
    · have hkd : decide ((k : Int) < 26) = true := decide_eq_true (by omega)
      have hx := HX.out k hk26
      obtain ⟨L, HL⟩ : ∃ L, Hid (D k = L) := ⟨_, Hid.mk rfl⟩
      have hsm := (HS.out k hk26).1
      rw [HL.out] at hx hsm
      obtain ⟨len, HLEN⟩ : ∃ len : Nat, Hid (L.length = len) := ⟨_, Hid.mk rfl⟩
      rw [HLEN.out] at hx hsm
      go_wp2_with fail
      go_loopw [5, 7] (fun vm vj wr => ∃ mx j q : Nat, j ≤ len ∧ mx ≤ 1048576 ∧ vm = .int .i64 mx ∧ vj = .int .i64 j ∧ wr = W0.drewN q ∧ Hid (MaxUpto l D k j mx)) (fun _ vj _ => len - (intOf vj).toNat)
      case atStart => exact ⟨mx, 0, q, by omega, by omega, rfl, rfl, rfl, HM⟩
      case round =>
        clear HM
        obtain ⟨mx, j, q, hj, hmx, rfl, rfl, rfl, HM⟩ := hrel
        by_cases hjl : j < len
        · obtain ⟨g', o', hsl, hc1, _⟩ := HR.out k hk26 j (by rw [HL.out, HLEN.out]; exact hjl)
          rw [hsl] at hx
          have hjD : j < (D k).length := by rw [HL.out, HLEN.out]; exact hjl
          have hs1 := ((HS.out k hk26).2 j hjD).1
          have HNO := Hid.mk (fun h => MaxUpto.no HM.out h)
          have HYES := Hid.mk (fun h1 h2 => MaxUpto.yes HM.out hk26 hjD h1 h2)
          obtain ⟨p, HP⟩ : ∃ p : ByteArray, Hid ((D k)[j].1 = p) := ⟨_, Hid.mk rfl⟩
          rw [HP.out] at hc1 hs1 HYES
          have HNO' : Hid ((Ends l p → p.size ≤ mx) → MaxUpto l D k (j + 1) mx) := Hid.mk (fun h => HNO.out (fun _ => by rw [HP.out]; exact h))
          clear HNO
          obtain ⟨m, hm⟩ : ∃ m : Nat, p.size = m := ⟨_, rfl⟩
          rw [hm] at hs1 HYES HNO'
          by_cases hgt : mx < m
          · go_wp2_with fail
            refine (ends13 g o n c l p m hm hs1 (W0.drewN q) hl hn (fun i hi => HB.out i hi)).mono ?_
            rintro e w1 ⟨b, rfl, hbe, q1, rfl⟩
            have HBE := Hid.mk hbe
            clear hbe
            cases b
            · go_wp2_with fail
              go_roundw
              case rel => exact ⟨mx, j + 1, _, by omega, by omega, by go_num, by go_num, rfl, Hid.mk (HNO'.out fun h => absurd (HBE.out.2 h) (by decide))⟩
              case measure => simp [intOf] <;> omega
            · go_wp2_with fail
              go_roundw
              case rel => exact ⟨m, j + 1, _, by omega, by omega, by go_num, by go_num, rfl, Hid.mk (HYES.out (HBE.out.1 (by first | rfl | trivial)) hgt)⟩
              case measure => simp [intOf] <;> omega
          · go_wp2_with fail
            refine ⟨⟨mx, j + 1, _, by omega, by omega, by go_num, by go_num, rfl, Hid.mk (HNO'.out fun _ => by omega)⟩, by simp [intOf] <;> omega⟩
        · have hje : j = len := by omega
          subst hje
          have HN : Hid (MaxUpto l D (k + 1) 0 mx) := Hid.mk (MaxUpto.onward (by rw [HL.out, HLEN.out]; exact HM.out))
          go_wp2_with fail
          refine ⟨⟨mx, k + 1, _, by omega, by omega, by go_num, by go_num, rfl, HN⟩, by simp [intOf] <;> omega⟩
    · have hke : k = 26 := by omega
      subst hke
      go_wp2_with fail
      go_ret
      exact ⟨mx, rfl, HM.out, by rw [HRR.out]; exact below_drew HA.out _⟩
end Go.Proofs.Qxb6617442a
