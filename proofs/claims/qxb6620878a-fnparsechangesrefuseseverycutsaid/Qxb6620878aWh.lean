/-
  The walk of zzHoldsExactly (15).
-/
import Derived.Test.Qxb6620878aKey
import Derived.Test.Qxb6620878aWa
namespace Go.Proofs.Qxb6620878a
open Go.RowKit Go.Maps

theorem info45 : (Try.prog.info? 45).map (·.size) = some 32 := by kernel_rfl

/-- A whole array into the block that was made last. -/
theorem wpList_store_new {P : Program} {ops : Array Oper} {rest : List Oper} {op : Oper} {a : Act} {w : World} {Q : Exit → Act → World → Prop} (hgd : op.guard = none) (ty : TypeId) (x y : Operand) (ho : op.op = .store ty x y)
    (c c' : Array Value) (hx : a.eval x = .pointer (some ⟨w.heap.size, 0, none⟩)) (hy : a.eval y = .agg c')
    (hi : (P.info? ty).map (·.size) = some c'.size) (hs : c.size = c'.size) (h1 : c'.all (·.oneCell') = true)
    (h : wpList P ops Q rest (a.put op.dst undef) (w.alloc (.cells c' ty))) : wpList P ops Q (op :: rest) a (w.alloc (.cells c ty)) := by
  refine wpList_plain hgd fun K hK => ?_
  unfold Oper.wp execOp
  simp only [ho, hx, hy, Instr.storeAt, Instr.sureAddr, Sem.run_bind, Sem.run_pure, Result.andThen_ok, run_storeVar_new w ty c c' hi hs h1]
  exact hK _ _ h

theorem rangeAt_new (w : World) (cs : List Value) (t : TypeId) : (w.alloc (.cells cs.toArray t)).rangeAt w.heap.size 0 cs := by
  have := World.rangeAt_of_block (heap_alloc_last w (.cells cs.toArray t)) 0 cs.length
  simpa using this

theorem range_part {w : World} {g o : Nat} {l : List UInt8} (h : w.rangeAt g o (bc l)) (k n : Nat) : w.rangeAt g (o + k) (bc ((l.drop k).take n)) := by
  intro j v hv
  rw [Nat.add_assoc]
  refine h (k + j) v ?_
  simp only [bc, List.map_take, List.map_drop, List.getElem?_take, List.getElem?_drop] at hv ⊢
  split at hv
  · exact hv
  · cases hv

theorem range_grown {w w' : World} {g o : Nat} {cs : List Value} {row : Option Nat} (h : w.rangeAt g o cs) (hg : w.grownBy w' row) (hne : some g ≠ row) : w'.rangeAt g o cs :=
  fun j v hv => hg.cell (h j v hv) hne

set_option maxRecDepth 100000 in
set_option maxHeartbeats 1000000 in
theorem holds_some (g o n c : Nat) (l : List UInt8) (fr cnt mb N : Nat) (w : World) (hl : l.length = n) (hn : n ≤ 1048576) (hnc : n ≤ c) (_hcap : c ≤ 9223372036854775807)
    (hc : w.rangeAt g o (bc l)) (hfit : fr + 32 * cnt ≤ n) (hpos : 0 < cnt) (hown : w.ownsMap Try.prog 45 unitElem mb N (setOf (l.drop fr) cnt)) :
    Calls Try.prog 15 #[.map (some mb), .slice (some ⟨g, o, none⟩) n c, .int .i64 fr, .int .i64 cnt] w fun e w' =>
      e = .returned (.bool true) ∧ Below w.heap.size w w' := by
  have hmm := @run_makeMap Try.prog
  have h1 := fun W r => run_eql_map_nil (P := Try.prog) W 28 45 46 r Try.underlying28
  have hgl : g < w.heap.size := by
    have := hc 0 _ (List.getElem?_eq_getElem (by rw [bc_length]; omega))
    exact World.block_lt_of_cell? w _ this
  go_enter Try.func15, Try.ntmps15
  go_wp2
  go_loopw [10] (fun i wr => ∃ k : Nat, k ≤ cnt ∧ i = .int .i64 k ∧ wr.ownsMap Try.prog 45 unitElem w.heap.size k (setOf (l.drop fr) k) ∧ wr.ownsMap Try.prog 45 unitElem mb N (setOf (l.drop fr) cnt) ∧ wr.rangeAt g o (bc l) ∧ Below w.heap.size w wr ∧ w.heap.size + 1 ≤ wr.heap.size) (fun i _ => cnt - (intOf i).toNat)
  case atStart => exact ⟨0, Nat.zero_le _, rfl, World.ownsMap_made _ _ _ _, hown.alloc _, World.rangeAt_alloc hc _, (Below.refl _ _).alloc (Nat.le_refl _) _, by simp⟩
  case round =>
    obtain ⟨k, hk, rfl, hs, hm, hr, hb, hz⟩ := hrel
    by_cases hlt : k < cnt
    · have hdl : (dig (l.drop fr) k).length = 32 := dig_length _ _ (by rw [List.length_drop]; omega)
      have hrng : wr.rangeAt g (o + (fr + k * 32)) (bc (dig (l.drop fr) k)) := by
        rw [dig_drop, Nat.mul_comm 32 k]
        exact range_part hr _ _
      have hkey := key45 _ hdl
      have hhas := has_setOf (l.drop fr) k cnt hlt
      obtain ⟨D, HD⟩ : ∃ D : List UInt8, Hid (dig (l.drop fr) k = D) := ⟨_, Hid.mk rfl⟩
      rw [HD.out] at hdl hrng hkey hhas
      have hi : (Try.prog.info? 45).map (·.size) = some (bc D).length := by rw [bc_length, hdl]; exact info45
      have harr := fun W a cp => run_arrayAt (P := Try.prog) W 45 5 32 a 32 cp Try.underlying45 (Nat.le_refl _)
      have hcs : (bc D).toArray.size = 32 := by simp [bc_length, hdl]
      have hall := all_oneCell_toArray (bc_one D)
      have HR := Hid.mk hr
      have HOWN := Hid.mk hown
      clear hc hown hdl hr
      go_wp2_with (first
        | (refine wpList_load_mid rfl 45 _ rfl g (o + (fr + k * 32)) rfl (bc D) _ hrng Try.underlying45 rfl hi ?_)
        | (refine wpList_load_mid rfl 45 _ rfl wr.heap.size 0 rfl (bc D) _ (rangeAt_new _ _ _) Try.underlying45 rfl hi ?_)
        | (refine wpList_load_mid rfl 45 _ rfl wr.heap.size 0 rfl (bc D) _ (World.rangeAt_alloc (rangeAt_new _ _ _) _) Try.underlying45 rfl hi ?_)
        | (refine wpList_store_new rfl 45 _ _ rfl _ (bc D).toArray rfl rfl (by simpa using hi) (by rw [hcs]; rfl) hall ?_)
        | (at_lookup; refine wpList_lookup_own_unit _ rfl _ _ 28 rfl 45 46 law45 Try.underlying28 (zero46 _) mb N _ rfl (hm.alloc _) _ _ rfl hkey ?_)
        | (at_mapUpdate; refine wpList_mapUpdate_own _ rfl _ _ _ 28 rfl 45 46 law45 Try.underlying28 (unitElem (H := Unit)) w.heap.size k _ rfl ((hs.alloc _).alloc _) (by unfold maxLen; omega) _ _ _ rfl rfl hkey _ [] unitElem_mk ?_; intro w1 hown1 hgrow1))
      have hlt2 := HOWN.out.lt
      have hsz := hgrow1.size
      simp at hsz
      refine ⟨⟨k + 1, by omega, by go_num, ?_, ((hm.alloc _).alloc _).kept hgrow1 (by simp; omega), range_grown (World.rangeAt_alloc (World.rangeAt_alloc HR.out _) _) hgrow1 (by simp; omega), ((hb.alloc hb.size _).alloc (by simp; omega) _).grown hgrow1 (by simp; omega) (fun j hj => by cases hj; exact Nat.le_refl _), by omega⟩, by simp [intOf] <;> omega⟩
      rw [setOf, HD.out]
      exact hown1
    · have hkc : k = cnt := by omega
      subst hkc
      go_wp2_with (first
        | (at_len; refine wpList_len_own _ rfl _ 28 rfl 45 46 Try.underlying28 _ w.heap.size k _ rfl hs ?_)
        | (at_len; refine wpList_len_own _ rfl _ 28 rfl 45 46 Try.underlying28 _ mb N _ rfl hm ?_))
      go_ret
      exact ⟨by simp, hb⟩

set_option maxRecDepth 100000 in
set_option maxHeartbeats 1000000 in
theorem holds_none (a : Option Addr) (n c : Nat) (fr mb N : Nat) (r : List UInt8) (w : World) (hown : w.ownsMap Try.prog 45 unitElem mb N (setOf r 0)) :
    Calls Try.prog 15 #[.map (some mb), .slice a n c, .int .i64 fr, .int .i64 0] w fun e w' =>
      e = .returned (.bool true) ∧ Below w.heap.size w w' := by
  have hmm := @run_makeMap Try.prog
  have h1 := fun W r => run_eql_map_nil (P := Try.prog) W 28 45 46 r Try.underlying28
  have hs := World.ownsMap_made w Try.prog 45 (unitElem (H := Unit))
  have hm := hown.alloc (.map #[] 0)
  go_enter Try.func15, Try.ntmps15
  go_wp2
  refine wp_loop_rounds 1 ?_
  rw [rounds_succ]
  go_wp2_with (first
    | (at_len; refine wpList_len_own _ rfl _ 28 rfl 45 46 Try.underlying28 _ w.heap.size 0 _ rfl hs ?_)
    | (at_len; refine wpList_len_own _ rfl _ 28 rfl 45 46 Try.underlying28 _ mb N _ rfl hm ?_))
  go_ret
  exact ⟨by simp [setOf], (Below.refl _ _).alloc (Nat.le_refl _) _⟩

/-- WHAT A SLICE HOLDS: no byte, whatever its address; or its bytes' cells. -/
def Bs (w : World) (a : Option Addr) (l : List UInt8) : Prop := l = [] ∨ ∃ g o, a = some ⟨g, o, none⟩ ∧ w.rangeAt g o (bc l)

theorem holds_yes (a : Option Addr) (n c : Nat) (l : List UInt8) (fr cnt mb N : Nat) (w : World) (hl : l.length = n) (hn : n ≤ 1048576) (hnc : n ≤ c) (hcap : c ≤ 9223372036854775807)
    (hc : Bs w a l) (hfit : fr + 32 * cnt ≤ n) (hown : w.ownsMap Try.prog 45 unitElem mb N (setOf (l.drop fr) cnt)) :
    Calls Try.prog 15 #[.map (some mb), .slice a n c, .int .i64 fr, .int .i64 cnt] w fun e w' =>
      e = .returned (.bool true) ∧ Below w.heap.size w w' := by
  by_cases h : cnt = 0
  · subst h
    exact holds_none a n c fr mb N _ w hown
  · rcases hc with rfl | ⟨g, o, rfl, hr⟩
    · simp at hl
      omega
    · exact holds_some g o n c l fr cnt mb N w hl hn hnc hcap hr hfit (by omega) hown

end Go.Proofs.Qxb6620878a
