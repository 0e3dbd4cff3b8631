/-
  The walk of bytes.CutPrefix (23; HasPrefix 27, Equal 30 in place) at the magic line.
-/
import Derived.Test.Qxb6620878aWh
import Derived.Test.Qxb6620878aShelf
import Derived.Laws.BytesArg
namespace Go.Proofs.Qxb6620878a
open Go.RowKit Go.Maps

theorem range_nil (w : World) (g o : Nat) : w.rangeAt g o (bc []) := fun j v hv => by simp [bc] at hv

theorem conv_bytes (w : World) (g o n c : Nat) (l : List UInt8) (hl : l.length = n) (h : w.rangeAt g o (bc l)) :
    (convert 22 9 (.slice (some ⟨g, o, none⟩) n c)).run Try.prog w = .ok (.string ⟨l.toArray⟩) w := by
  have := run_convert_bytes_arg (P := Try.prog) w 22 5 Try.underlying22 Try.underlying5 g o n c (l.map fun b => (b.toNat : Int)) (by simpa using hl) (fun i hi => by
    have := h i (.int .u8 ((l[i]'(by omega)).toNat : Int)) (by simp [bc, show i < l.length from by omega])
    rw [this]
    simp [show i < l.length from by omega]) 9 Try.underlying9
  rw [this]
  congr 2
  simp only [strOfNums, List.map_map]
  congr 2
  conv => rhs; rw [← List.map_id l]
  apply List.map_congr_left
  intro b _
  simp

set_option maxRecDepth 100000 in
set_option maxHeartbeats 1000000 in
theorem cut_short (a : Option Addr) (n c g2 c2 : Nat) (w : World) (hn : n < 18) :
    Calls Try.prog 23 #[.slice a n c, .slice (some ⟨g2, 0, none⟩) 18 c2] w fun e w' => e = .returned (.tuple #[.slice a n c, .bool false]) ∧ w' = w := by
  have hn' : ¬ ((18 : Int) ≤ (n : Int)) := by omega
  go_enter Try.func23, Try.ntmps23
  go_wp2
  go_ret2
  exact ⟨rfl, rfl⟩

set_option maxRecDepth 100000 in
set_option maxHeartbeats 1000000 in
theorem cut_other (g o n c : Nat) (l : List UInt8) (g2 c2 : Nat) (w : World) (hl : l.length = n) (hn : 18 ≤ n) (_hnc : n ≤ c)
    (h1 : w.rangeAt g o (bc l)) (h2 : w.rangeAt g2 0 (bc Pl.magic)) (ht : (l.take 18 == Pl.magic) = false) :
    Calls Try.prog 23 #[.slice (some ⟨g, o, none⟩) n c, .slice (some ⟨g2, 0, none⟩) 18 c2] w fun e w' => e = .returned (.tuple #[.slice (some ⟨g, o, none⟩) n c, .bool false]) ∧ w' = w := by
  have e1 := conv_bytes w g o 18 c (l.take 18) (by simp; omega) (by have := range_part h1 0 18; simpa using this)
  have e2 := conv_bytes w g2 0 18 c2 Pl.magic rfl h2
  go_enter Try.func23, Try.ntmps23
  go_wp2
  go_ret2
  exact ⟨rfl, rfl⟩

set_option maxRecDepth 100000 in
set_option maxHeartbeats 1000000 in
theorem cut_magic (g o n c : Nat) (l : List UInt8) (g2 c2 : Nat) (w : World) (hl : l.length = n) (hn : 18 ≤ n) (_hnc : n ≤ c)
    (h1 : w.rangeAt g o (bc l)) (h2 : w.rangeAt g2 0 (bc Pl.magic)) (ht : (l.take 18 == Pl.magic) = true) :
    Calls Try.prog 23 #[.slice (some ⟨g, o, none⟩) n c, .slice (some ⟨g2, 0, none⟩) 18 c2] w fun e w' => (∃ o', e = .returned (.tuple #[.slice (some ⟨g, o', none⟩) (n - 18) (c - 18), .bool true]) ∧ ∀ W : World, W.rangeAt g o (bc l) → W.rangeAt g o' (bc (l.drop 18))) ∧ w' = w := by
  have e1 := conv_bytes w g o 18 c (l.take 18) (by simp; omega) (by have := range_part h1 0 18; simpa using this)
  have e2 := conv_bytes w g2 0 18 c2 Pl.magic rfl h2
  have hr : Hid (∀ W : World, W.rangeAt g o (bc l) → W.rangeAt g (o + 18) (bc (l.drop 18))) := fun W h1 => by
    have := range_part h1 18 (l.length - 18)
    rw [List.take_of_length_le (by simp)] at this
    exact this
  have hz : Hid (c = 18 → ∀ W : World, W.rangeAt g o (bc l) → W.rangeAt g o (bc (l.drop 18))) := fun e W _ => by
    rw [List.drop_eq_nil_of_le (by omega)]
    exact range_nil _ _ _
  go_enter Try.func23, Try.ntmps23
  go_wp2
  · go_ret2
    exact ⟨⟨o, rfl, hz.out (by first | rfl | assumption | omega)⟩, rfl⟩
  · go_ret2
    exact ⟨⟨o + 18, rfl, hr.out⟩, rfl⟩

/-- bytes.CutPrefix AT THE MAGIC LINE, whatever the slice. -/
theorem cut_no (a : Option Addr) (n c : Nat) (l : List UInt8) (g2 c2 : Nat) (w : World) (hl : l.length = n) (hnc : n ≤ c)
    (h1 : Bs w a l) (h2 : w.rangeAt g2 0 (bc Pl.magic)) (ht : l.take 18 ≠ Pl.magic) :
    Calls Try.prog 23 #[.slice a n c, .slice (some ⟨g2, 0, none⟩) 18 c2] w fun e w' => e = .returned (.tuple #[.slice a n c, .bool false]) ∧ w' = w := by
  by_cases hn : n < 18
  · exact cut_short a n c g2 c2 w hn
  · rcases h1 with rfl | ⟨g, o, rfl, h1⟩
    · simp at hl
      omega
    · exact cut_other g o n c l g2 c2 w hl (by omega) hnc h1 h2 (by simpa using ht)

theorem cut_yes (a : Option Addr) (n c : Nat) (l : List UInt8) (g2 c2 : Nat) (w : World) (hl : l.length = n) (hnc : n ≤ c)
    (h1 : Bs w a l) (h2 : w.rangeAt g2 0 (bc Pl.magic)) (ht : l.take 18 = Pl.magic) :
    Calls Try.prog 23 #[.slice a n c, .slice (some ⟨g2, 0, none⟩) 18 c2] w fun e w' => (∃ a', e = .returned (.tuple #[.slice a' (n - 18) (c - 18), .bool true]) ∧ ∀ W : World, Bs W a l → Bs W a' (l.drop 18)) ∧ w' = w := by
  have hn : 18 ≤ n := by
    have := congrArg List.length ht
    simp [Pl.magic] at this
    omega
  rcases h1 with rfl | ⟨g, o, rfl, h1⟩
  · simp at hl
    omega
  · exact (cut_magic g o n c l g2 c2 w hl hn hnc h1 h2 (by simpa using ht)).mono fun e w' ⟨⟨o', he, hr⟩, hw⟩ => ⟨⟨some ⟨g, o', none⟩, he, fun W hB => by
      rcases hB with rfl | ⟨g1, o1, e1, hB⟩
      · simp at hl
        omega
      · simp only [Option.some.injEq, Addr.mk.injEq, and_true] at e1
        obtain ⟨rfl, rfl⟩ := e1
        exact .inr ⟨g, o', rfl, hr W hB⟩⟩, hw⟩

/-- binary.Uvarint, whatever the slice. -/
theorem uvar (a : Option Addr) (n c : Nat) (l : List UInt8) (w : World) (hl : l.length = n) (h : Bs w a l) :
    Calls Try.prog 24 #[.slice a n c] w fun e w' => e = .returned (.tuple #[.int .u64 (Lib.uvarintDec l).1, .int .i64 (Lib.uvarintDec l).2]) ∧ w' = w := by
  rcases h with rfl | ⟨g, o, rfl, h⟩
  · simp at hl
    subst hl
    exact Try.binary_Uvarint_empty a c w
  · exact Try.binary_Uvarint g o n c l w hl (fun j hj => h j _ (by simp [bc, hj]))

end Go.Proofs.Qxb6620878a
