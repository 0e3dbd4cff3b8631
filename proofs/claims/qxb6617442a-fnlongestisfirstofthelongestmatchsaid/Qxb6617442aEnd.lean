/-
  The walks of zzEndsWith (13) and ends (24).
-/
import Derived.Test.Qxb6617442aRows
import Derived.WalkKit
import Derived.WalkSpells
import Derived.WalkLawsBesides
import Derived.Deep.MidRow
import Derived.Deep.WholeRow
import Derived.Deep.OwnRows
import Derived.Laws.BytesArg
import Derived.BigQuiet
namespace Go.Proofs.Qxb6617442a
open Go.RowKit
theorem Hid.mk {p : Prop} (h : p) : Hid p := h

/-- The cells of some bytes. -/
def bc (l : List UInt8) : List Value := l.map fun b => Value.int .u8 b.toNat
theorem bc_length (l : List UInt8) : (bc l).length = l.length := by simp [bc]

/-- The word l ends in p. -/
def Ends (l : List UInt8) (p : ByteArray) : Prop := p.size ≤ l.length ∧ ∀ i (h : i < p.size), l[l.length - p.size + i]? = some (p[i])

/-- Bytes that stand in memory. -/
def BytesAt (w : World) (g o : Nat) (l : List UInt8) : Prop := ∀ j (hj : j < l.length), w.cell? ⟨g, o + j, none⟩ = some (.int .u8 (l[j]).toNat)

set_option maxRecDepth 100000 in
set_option maxHeartbeats 1000000 in
theorem ends13 (g o n c : Nat) (l : List UInt8) (p : ByteArray) (m : Nat) (hp : p.size = m) (hm : m ≤ 1048576) (w : World) (hl : l.length = n) (hn : n ≤ 1048576) (hb : BytesAt w g o l) :
    Calls Try.prog 13 #[.slice (some ⟨g, o, none⟩) n c, .string p] w fun e w' => ∃ b, e = .returned (.bool b) ∧ (b = true ↔ Ends l p) ∧ ∃ q, w' = w.drewN q := by
  by_cases hlt : n < m
  · have HN : Hid (¬ Ends l p) := Hid.mk fun h => by have := h.1; omega
    clear hb
    go_enter Try.func13, Try.ntmps13
    go_wp2_with fail
    go_ret
    exact ⟨false, rfl, ⟨fun h => (by cases h), fun h => absurd h HN.out⟩, 0, rfl⟩
  · obtain ⟨d, hd⟩ : ∃ d : Nat, d + m = n := ⟨n - m, by omega⟩
    have ed : (n : Int) - m = (d : Int) := by omega
    have HB := Hid.mk hb
    clear hb
    go_enter Try.func13, Try.ntmps13
    go_wp2_with fail
    go_loopw [6] (fun i wr => ∃ j q : Nat, j ≤ m ∧ i = .int .i64 j ∧ wr = w.drewN q ∧ Hid (∀ i (h : i < p.size), i < j → l[d + i]? = some (p[i]))) (fun i _ => m - (intOf i).toNat)
    case atStart => exact ⟨0, 0, by omega, rfl, rfl, Hid.mk fun i h hi => absurd hi (by omega)⟩
    case round =>
      obtain ⟨j, q, hj, rfl, rfl, HALL⟩ := hrel
      by_cases hjm : j < m
      · have hc := HB.out (d + j) (by omega)
        have hl0 : d + j < l.length := by omega
        obtain ⟨x, HX⟩ : ∃ x : UInt8, Hid (l[d + j]'hl0 = x) := ⟨_, Hid.mk rfl⟩
        obtain ⟨y, HY⟩ : ∃ y : UInt8, Hid (p[j]'(by omega) = y) := ⟨_, Hid.mk rfl⟩
        have hpy : p[j]'(by omega) = y := HY.out
        rw [HX.out] at hc
        by_cases hxy : x = y
        · have hq : ((x.toNat : Int) != (y.toNat : Int)) = false := by rw [hxy]; simp
          have HXY := Hid.mk hxy
          clear hxy
          go_wp2_with fail
          go_quiet (fail)
          go_wp2_with fail
          refine ⟨⟨j + 1, _, by omega, by go_num, rfl, Hid.mk fun i h hi => ?_⟩, by simp [intOf] <;> omega⟩
          by_cases hij : i < j
          · exact HALL.out i h hij
          · have : i = j := by omega
            subst this
            rw [List.getElem?_eq_getElem hl0, HX.out, HXY.out, HY.out]
        · have hq : ((x.toNat : Int) != (y.toNat : Int)) = true := by
            simp only [bne_iff_ne, ne_eq]
            intro e
            exact hxy (UInt8.toNat_inj.1 (by omega))
          have HN : Hid (¬ Ends l p) := Hid.mk fun h => by
            have := h.2 j (by omega)
            rw [show l.length - p.size + j = d + j from by omega, List.getElem?_eq_getElem hl0, HX.out, HY.out] at this
            exact hxy (Option.some.inj this)
          clear hxy
          go_wp2_with fail
          go_quiet (fail)
          go_wp2_with fail
          go_ret
          exact ⟨false, rfl, ⟨fun h => (by cases h), fun h => absurd h HN.out⟩, _, by simp only [World.drewN_drewN]; rfl⟩
      · have hjm' : j = m := by omega
        subst hjm'
        have HE : Hid (Ends l p) := Hid.mk ⟨by omega, fun i h => by rw [show l.length - p.size + i = d + i from by omega]; exact HALL.out i h (by omega)⟩
        go_wp2_with fail
        go_ret
        exact ⟨true, rfl, ⟨fun _ => HE.out, fun _ => rfl⟩, _, rfl⟩

theorem conv_bytes (w : World) (g o n c : Nat) (l : List UInt8) (hl : l.length = n) (h : BytesAt w g o l) :
    (convert 22 9 (.slice (some ⟨g, o, none⟩) n c)).run Try.prog w = .ok (.string ⟨l.toArray⟩) w := by
  have := run_convert_bytes_arg (P := Try.prog) w 22 5 Try.underlying22 Try.underlying5 g o n c (l.map fun b => (b.toNat : Int)) (by simpa using hl) (fun i hi => by
    rw [h i (by omega)]
    simp [show i < l.length from by omega]) 9 Try.underlying9
  rw [this]
  congr 2
  simp only [strOfNums, List.map_map]
  congr 2
  conv => rhs; rw [← List.map_id l]
  apply List.map_congr_left
  intro b _
  simp

theorem ends_iff (l : List UInt8) (p : ByteArray) (h : p.size ≤ l.length) : Ends l p ↔ l.drop (l.length - p.size) = p.toList := by
  rw [ByteArray.toList_eq]
  constructor
  · intro hE
    apply List.ext_getElem?
    intro i
    rw [List.getElem?_drop]
    by_cases hi : i < p.size
    · rw [hE.2 i hi]
      have hi' : i < p.data.toList.length := by simpa using hi
      rw [List.getElem?_eq_getElem hi']
      rfl
    · rw [List.getElem?_eq_none (by omega), List.getElem?_eq_none (by have : p.data.toList.length = p.size := rfl
                                                                      omega)]
  · intro e
    refine ⟨h, fun i hi => ?_⟩
    have := congrArg (fun z => z[i]?) e
    simp only [List.getElem?_drop] at this
    rw [this]
    have hi' : i < p.data.toList.length := by simpa using hi
    rw [List.getElem?_eq_getElem hi']
    rfl

theorem slice_at (W : World) (a : Addr) (n c k : Nat) (hk : k ≤ n) (_hnc : n ≤ c) (hkc : k < c) :
    (Instr.slice 22 (.slice (some a) n c) (some (.int .i64 (k : Int))) none none).run Try.prog W = .ok (.slice (some (a.add k)) (n - k) (c - k)) W := by
  have hne : ¬ c = k := by omega
  simp [Instr.slice, Instr.sliceBounds, Instr.sliceBound, run_underlying Try.underlying22, Try.sizeOf5, asIntOf, hne]
  intro h
  omega

set_option maxRecDepth 100000 in
set_option maxHeartbeats 1000000 in
theorem ends24 (S g o n c : Nat) (l : List UInt8) (p : ByteArray) (m : Nat) (hp : p.size = m) (hm : m ≤ 1048576) (w : World) (hl : l.length = n) (hn : n ≤ 1048576) (hnc : n ≤ c) (hb : BytesAt w g o l)
    (hS : w.cell? ⟨S, 0, none⟩ = some (.slice (some ⟨g, o, none⟩) n c)) (hm1 : 1 ≤ m) :
    Calls Try.prog 24 #[.pointer (some ⟨S, 0, none⟩), .string p] w fun e w' => ∃ b, e = .returned (.bool b) ∧ (b = true ↔ Ends l p) ∧ ∃ q, w' = w.drewN q := by
  by_cases hlt : n < m
  · have HN : Hid (¬ Ends l p) := Hid.mk fun h => by have := h.1; omega
    clear hb
    have hd : decide (m ≤ n) = false := decide_eq_false (by omega)
    go_enter Try.func24, Try.ntmps24
    go_wp2_with fail
    go_quiet (fail)
    go_wp2_with fail
    go_ret
    exact ⟨false, rfl, ⟨fun h => (by cases h), fun h => absurd h HN.out⟩, _, rfl⟩
  · obtain ⟨d, hd⟩ : ∃ d : Nat, d + m = n := ⟨n - m, by omega⟩
    have ed : (n : Int) - m = (d : Int) := by omega
    have hdd : decide (m ≤ n) = true := decide_eq_true (by omega)
    have HI := Hid.mk (ends_iff l p (by omega))
    have hlen : (l.drop d).length = m := by rw [List.length_drop]; omega
    rw [show l.length - p.size = d from by omega] at HI
    have hcv : ∀ q, (convert 22 9 (.slice (some ⟨g, o + d, none⟩) m (c - d))).run Try.prog (w.drewN q) = .ok (.string ⟨(l.drop d).toArray⟩) (w.drewN q) := fun q => conv_bytes (w.drewN q) g (o + d) m (c - d) (l.drop d) hlen (fun j hj => by
      have := hb (d + j) (by omega)
      rw [World.cell?_drewN, Nat.add_assoc, this, List.getElem_drop])
    have hsl : ∀ W, (Instr.slice 22 (.slice (some ⟨g, o, none⟩) n c) (some (.int .i64 (IntKind.i64.wrap (d : Int)))) none none).run Try.prog W = .ok (.slice (some ⟨g, o + d, none⟩) m (c - d)) W := fun W => by
      rw [show IntKind.i64.wrap (d : Int) = (d : Int) from IntWalk.i64_in _ ⟨by omega, by omega⟩]
      have := slice_at W ⟨g, o, none⟩ n c d (by omega) hnc (by omega)
      rw [Addr.add_mid, show n - d = m from by omega] at this
      exact this
    have hlt' : ((⟨(l.drop d).toArray⟩ : ByteArray).toList == p.toList) = true ↔ Ends l p := by
      rw [ByteArray.toList_mk, beq_iff_eq]
      exact HI.out.symm
    have HLT := Hid.mk hlt'
    clear hlt' hlen hb
    obtain ⟨s, HS⟩ : ∃ s : ByteArray, Hid ((⟨(l.drop d).toArray⟩ : ByteArray) = s) := ⟨_, Hid.mk rfl⟩
    rw [HS.out] at HLT
    simp only [HS.out] at hcv
    go_enter Try.func24, Try.ntmps24
    go_wp2_with fail
    go_quiet (fail)
    go_wp2_with fail
    go_ret
    exact ⟨_, rfl, HLT.out, _, rfl⟩
end Go.Proofs.Qxb6617442a
