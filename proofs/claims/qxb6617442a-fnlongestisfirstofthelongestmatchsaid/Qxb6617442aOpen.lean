/-
  The rules that came in, opened: what the argument's data tell of its cells.
-/
import Derived.Test.Qxb6617442aLaw
import Derived.ProofKit
import Derived.OpenShut
import Derived.ShutString
import Derived.ChangeOld
import Derived.Below
namespace Go.Proofs.Qxb6617442a
open Go.ChangeShapes Go.WideShapes Go.ChangeAt Go.RowKit

theorem cells28 : Try.prog.cellsOf 28 = 2 := by kernel_rfl
theorem cells25 : Try.prog.cellsOf 25 = 1 := by kernel_rfl
theorem cells26 : Try.prog.cellsOf 26 = 26 := by kernel_rfl
theorem cells9 : Try.prog.cellsOf 9 = 1 := by kernel_rfl

section
variable {H : Type} {enc : TypeId × Value → H} {w : World} {spare : Nat → Bool} {held : Bool} {fuel : Nat} {x : DataW H × List MemPlace}

theorem open_rule {cs : List Value} (h : DataW.trod enc Try.prog w 0 spare held fuel 28 cs = some x) : ∃ s1 s2 : ByteArray, cs = [.string s1, .string s2] ∧ s1.size ≤ maxLen ∧ s2.size ≤ maxLen := by
  obtain ⟨xs, m, _, _, hl, hxs, hi⟩ := DataW.trod_array Try.underlying28 h
  rw [cells28] at hl
  match cs, hl with
  | [c0, c1], _ =>
    have h0 := hi 0 (by omega)
    have h1 := hi 1 (by omega)
    rw [cells9] at h0 h1
    rw [List.getElem?_eq_getElem (by omega)] at h0 h1
    obtain ⟨s1, e1, _, z1⟩ := DataW.trod_string Try.underlying9 h0
    obtain ⟨s2, e2, _, z2⟩ := DataW.trod_string Try.underlying9 h1
    simp at e1 e2
    subst e1
    subst e2
    exact ⟨s1, s2, rfl, z1, z2⟩

/-- The string of a cell. -/
def strOf : Option Value → ByteArray
  | some (.string s) => s
  | _ => ⟨#[]⟩
/-- The rules that a slice leads to. -/
def rulesOf (w : World) : Option Value → List (ByteArray × ByteArray)
  | some (.slice (some a) len _) => (List.range len).map fun i => (strOf (w.cell? (a.add (i * 2))), strOf (w.cell? (a.add (i * 2 + 1))))
  | _ => []
def slOf : Option Value → Option Addr
  | some (.slice a _ _) => a
  | _ => none
def capOf : Option Value → Nat
  | some (.slice _ _ c) => c
  | _ => 0

theorem open_bucket {v : Value} (h : DataW.trod enc Try.prog w 0 spare held fuel 25 [v] = some x) :
    v = .slice (slOf (some v)) (rulesOf w (some v)).length (capOf (some v)) ∧ RowAt w (slOf (some v)) (rulesOf w (some v)) ∧ (rulesOf w (some v)).length ≤ maxLen ∧
      ∀ j (h : j < (rulesOf w (some v)).length), (rulesOf w (some v))[j].1.size ≤ maxLen ∧ (rulesOf w (some v))[j].2.size ≤ maxLen := by
  rcases DataW.trod_slice Try.underlying25 h with ⟨hv, _⟩ | ⟨a, len, cap, elems, rest, n, _, hv, _, _, hlc, hcm, hel, hi, _, _⟩
  · simp at hv
    subst hv
    exact ⟨rfl, fun j hj => absurd hj (by simp [rulesOf]), by simp [rulesOf], fun j hj => absurd hj (by simp [rulesOf])⟩
  · simp at hv
    subst hv
    have hlen : (rulesOf w (some (.slice (some a) len cap))).length = len := by simp [rulesOf]
    have key : ∀ j, j < len → ∃ s1 s2 : ByteArray, w.cell? (a.add (j * 2)) = some (.string s1) ∧ w.cell? (a.add (j * 2 + 1)) = some (.string s2) ∧ s1.size ≤ maxLen ∧ s2.size ≤ maxLen := fun j hj => by
      have h1 := hi j hj
      rw [cells28, List.getElem?_eq_getElem (by omega)] at h1
      obtain ⟨cs, hc, ht⟩ := Option.bind_eq_some_iff.1 h1
      obtain ⟨s1, s2, rfl, z1, z2⟩ := open_rule ht
      unfold World.cells? at hc
      rw [if_pos (Nat.zero_le _)] at hc
      have g0 := mapM_some_get hc 0 0 (by simp)
      have g1 := mapM_some_get hc 1 1 (by simp)
      rw [Addr.add_add] at g0 g1
      exact ⟨s1, s2, g0, g1, z1, z2⟩
    have hget : ∀ j (h : j < (rulesOf w (some (.slice (some a) len cap))).length), (rulesOf w (some (.slice (some a) len cap)))[j] = (strOf (w.cell? (a.add (j * 2))), strOf (w.cell? (a.add (j * 2 + 1)))) := fun j h => by
      simp [rulesOf]
    refine ⟨by rw [hlen]; rfl, fun j hj => ?_, by rw [hlen]; omega, fun j hj => ?_⟩
    · obtain ⟨s1, s2, e1, e2, _, _⟩ := key j (by omega)
      obtain ⟨t1, _, f1, _⟩ := key 0 (by omega)
      have hspot : a.spot = none := by
        rw [Nat.zero_mul] at f1
        have : a.add 0 = a := by simp [Addr.add]
        rw [this] at f1
        unfold World.cell? at f1
        split at f1
        · split at f1
          · cases f1
          · rename_i hs
            cases hsp : a.spot with
            | none => rfl
            | some _ => rw [hsp] at hs; simp at hs
        · cases f1
      obtain ⟨g, o, sp⟩ := a
      simp only at hspot
      subst hspot
      rw [hget j hj]
      have e1' : w.cell? ⟨g, o + j * 2, none⟩ = some (.string s1) := by rw [← e1, Addr.add_mid]
      have e2' : w.cell? ⟨g, o + j * 2 + 1, none⟩ = some (.string s2) := by rw [← e2, Addr.add_mid, Nat.add_assoc]
      refine ⟨g, o, rfl, ?_, ?_⟩
      · rw [e1, e1']; rfl
      · rw [e2, e2']; rfl
    · obtain ⟨s1, s2, e1, e2, z1, z2⟩ := key j (by omega)
      rw [hget j hj, e1, e2]
      exact ⟨z1, z2⟩

/-- THE ARGUMENT, OPENED. -/
theorem open_rules {cs : Array Value} (h : DataW.trod enc Try.prog w 0 spare held fuel 26 cs.toList = some x) :
    Cs cs (fun k => slOf cs[k]?) (fun k => capOf cs[k]?) (fun k => rulesOf w cs[k]?) ∧ Reads w (fun k => slOf cs[k]?) (fun k => rulesOf w cs[k]?) ∧ Small 9223372036854775807 (fun k => rulesOf w cs[k]?) := by
  obtain ⟨xs, m, _, _, hl, hxs, hi⟩ := DataW.trod_array Try.underlying26 h
  rw [cells26] at hl
  have hsz : cs.size = 26 := by simpa using hl
  have key : ∀ k, k < 26 → ∃ v x, cs[k]? = some v ∧ DataW.trod enc Try.prog w 0 spare held m 25 [v] = some x := fun k hk => by
    have h1 := hi k hk
    rw [cells25, Nat.mul_one, List.getElem?_eq_getElem (by omega)] at h1
    refine ⟨cs[k], xs[k], by rw [Array.getElem?_eq_getElem], ?_⟩
    rw [← h1]
    congr 1
    have hk' : k < cs.toList.length := by simp; omega
    rw [List.drop_eq_getElem_cons hk']
    simp
  refine ⟨⟨hsz, fun k hk => ?_⟩, fun k hk => ?_, fun k hk => ?_⟩
  all_goals
    obtain ⟨v, y, hv, ht⟩ := key k hk
    obtain ⟨b1, b2, b3, b4⟩ := open_bucket ht
    simp only [hv]
  · exact congrArg some b1
  · exact b2
  · exact ⟨by unfold maxLen at b3; exact b3, fun j hj => by have := b4 j hj; unfold maxLen at this; exact this⟩
end
end Go.Proofs.Qxb6617442a
