/-
  The walk of ZZLongest (11).
-/
import Derived.Test.Qxb6617442aLon
import Derived.Deep.RegionLaw
import Derived.Deep.AppendLies
namespace Go.Proofs.Qxb6617442a
open Go.RowKit

/-- The cells of some rules. -/
def rc (E : List (ByteArray × ByteArray)) : List Value := E.flatMap fun p => [.string p.1, .string p.2]
theorem rc_length : ∀ E : List (ByteArray × ByteArray), (rc E).length = E.length * 2
  | [] => rfl
  | p :: E => by
    have := rc_length E
    simp only [rc, List.flatMap_cons, List.length_append, List.length_cons, List.length_nil] at this ⊢
    omega
theorem rc_snoc (E : List (ByteArray × ByteArray)) (p : ByteArray × ByteArray) : rc (E ++ [p]) = rc E ++ [.string p.1, .string p.2] := by simp [rc]
theorem rc_get : ∀ (E : List (ByteArray × ByteArray)) (j : Nat) (h : j < E.length), (rc E)[j * 2]? = some (.string E[j].1) ∧ (rc E)[j * 2 + 1]? = some (.string E[j].2)
  | [], j, h => absurd h (by simp)
  | p :: E, 0, _ => ⟨rfl, rfl⟩
  | p :: E, j + 1, h => by
    have := rc_get E j (by simpa using h)
    have e : rc (p :: E) = .string p.1 :: .string p.2 :: rc E := rfl
    rw [e, show (j + 1) * 2 = j * 2 + 1 + 1 from by omega]
    simpa using this

theorem own_setCell {w : World} {B : Nat} {v : Value} {n : Nat} {xs : List Value} (h : w.ownsRow B 45 2 v n xs) {a : Addr} (ha : a.block < B) (u : Value) : (w.setCell a u).ownsRow B 45 2 v n xs := by
  refine ⟨h.1, ?_⟩
  rcases h.2 with h0 | ⟨g, cap, cur, hv, hb, hg, hrest⟩
  · exact Or.inl h0
  · refine Or.inr ⟨g, cap, cur, hv, hb, ?_, hrest⟩
    rw [Below.heap_setCell _ _ _ _ (by omega)]
    exact hg

/-- Bucket c0, once done, in the set. -/
def Done (wr : World) (Q c0 : Nat) (E : List (ByteArray × ByteArray)) (av : Option Nat) : Prop :=
  ∃ s cp, wr.cell? ⟨Q, c0, none⟩ = some (.slice s E.length cp) ∧ ∀ j (h : j < E.length), ∃ g o, s = some ⟨g, o, none⟩ ∧ wr.cell? ⟨g, o + j * 2, none⟩ = some (.string E[j].1) ∧ wr.cell? ⟨g, o + j * 2 + 1, none⟩ = some (.string E[j].2) ∧ av ≠ some g ∧ Q + 1 ≤ g

/-- What stands while the set is built: the rules' box, the buckets still empty, the bucket in hand, bucket c0 if it is done. -/
structure ZFr (sl : Nat → Option Addr) (cap : Nat → Nat) (D : Nat → List (ByteArray × ByteArray)) (c0 k : Nat) (ov : Value) (w wr : World) : Prop where
  box : BoxAt wr w.heap.size sl cap D
  rest : ∀ k', k' < 26 → k < k' → wr.cell? ⟨w.heap.size + 1, k', none⟩ = some (.slice none 0 0)
  cur : k < 26 → wr.cell? ⟨w.heap.size + 1, k, none⟩ = some ov
  fz : ∀ k', wr.frozen? ⟨w.heap.size + 1, k', none⟩ = false
  ready : c0 < k → Done wr (w.heap.size + 1) c0 (D c0) ov.ownBlock
  own : ∀ g, ov.ownBlock = some g → w.heap.size + 2 ≤ g
  size : w.heap.size + 2 ≤ wr.heap.size
  below : Below w.heap.size w wr

theorem nilCells : Value.ownBlock (.slice none 0 0) = none := rfl

/-- The next bucket. -/
theorem ZFr.onward {sl cap D c0 k ov w wr} (h : ZFr sl cap D c0 k ov w wr) (hk : k < 26) (hown : wr.ownsRow (w.heap.size + 2) 45 2 ov (D k).length (rc (D k))) (hnil : (D k).length = 0 → ov = .slice none 0 0) :
    ZFr sl cap D c0 (k + 1) (.slice none 0 0) w wr where
  box := h.box
  rest := fun k' h1 h2 => h.rest k' h1 (by omega)
  cur := fun h1 => h.rest (k + 1) h1 (by omega)
  fz := h.fz
  own := fun g e => by cases e
  size := h.size
  below := h.below
  ready := fun hc => by
    by_cases e : c0 < k
    · obtain ⟨s, cp, h1, h2⟩ := h.ready e
      refine ⟨s, cp, h1, fun j hj => ?_⟩
      obtain ⟨g, o, e1, e2, e3, _, e5⟩ := h2 j hj
      exact ⟨g, o, e1, e2, e3, by rw [nilCells]; simp, e5⟩
    · have e' : c0 = k := by omega
      subst e'
      by_cases hz : (D c0).length = 0
      · refine ⟨none, 0, ?_, fun j hj => absurd hj (by omega)⟩
        rw [h.cur hk, hnil hz, hz]
      · obtain ⟨g, cp, hv, hg1, hg2⟩ := hown.form (by omega)
        subst hv
        refine ⟨some ⟨g, 0, none⟩, cp, h.cur hk, fun j hj => ?_⟩
        have hg := rc_get (D c0) j hj
        refine ⟨g, 0, rfl, ?_, ?_, by rw [nilCells]; simp, by omega⟩
        · rw [Nat.zero_add, hown.cellAt (j * 2) (by omega)]
          exact hg.1
        · rw [Nat.zero_add, hown.cellAt (j * 2 + 1) (by omega)]
          exact hg.2

/-- One rule more in the bucket in hand: new blocks, the row grown, the set's cell written. -/
theorem ZFr.step {sl cap D c0 k ov w wr wx w1} (h : ZFr sl cap D c0 k ov w wr) (hk : k < 26) (hx : Below wr.heap.size wr wx) (hg : wx.grownBy w1 ov.ownBlock) (g n cp : Nat) (hat : ov.ownBlock = some g ∨ wr.heap.size ≤ g) :
    ZFr sl cap D c0 k (.slice (some ⟨g, 0, none⟩) n cp) w (w1.setCell ⟨w.heap.size + 1, k, none⟩ (.slice (some ⟨g, 0, none⟩) n cp)) := by
  have hs := h.size
  have hxs := hx.size
  have hgs := hg.size
  have tr : ∀ (p : Addr) u, wr.cell? p = some u → some p.block ≠ ov.ownBlock → w1.cell? p = some u := fun p u hu hne => by
    have hlt := World.block_lt_of_cell? wr _ hu
    refine hg.cell (a := p) ?_ hne
    rw [← hu]
    exact World.cell?_of_block (hx.block _ hlt)
  have notOwn : ∀ b, b < w.heap.size + 2 → some b ≠ ov.ownBlock := fun b hb e => by have := h.own b e.symm; omega
  have o2 : w.heap.size + 2 ≤ g := by
    rcases hat with e | e
    · exact h.own g e
    · omega
  refine ⟨fun k' hk' => ?_, fun k' h1 h2 => ?_, fun _ => ?_, fun k' => ?_, fun hc => ?_, fun g' e => ?_, by simp; omega, ?_⟩
  · rw [World.cell?_setCell_other _ _ _ _ (by intro e; simp at e)]
    exact tr _ _ (h.box k' hk') (notOwn _ (by show w.heap.size < _; omega))
  · rw [World.cell?_setCell_other _ _ _ _ (by intro e; simp at e <;> omega)]
    exact tr _ _ (h.rest k' h1 h2) (notOwn _ (by show w.heap.size + 1 < _; omega))
  · exact World.cell?_setCell_same _ _ _ (tr _ _ (h.cur hk) (notOwn _ (by show w.heap.size + 1 < _; omega)))
  · rw [World.frozen?_setCell, hg.frozen_far _ (by show w.heap.size + 1 < _; omega) (notOwn _ (by show w.heap.size + 1 < _; omega)), World.frozen?_of_block (hx.block _ (by show w.heap.size + 1 < _; omega))]
    exact h.fz k'
  · obtain ⟨s, cp', h1, h2⟩ := h.ready hc
    refine ⟨s, cp', ?_, fun j hj => ?_⟩
    · rw [World.cell?_setCell_other _ _ _ _ (by intro e; simp at e <;> omega)]
      exact tr _ _ h1 (notOwn _ (by show w.heap.size + 1 < _; omega))
    · obtain ⟨gc, oc, e1, e2, e3, e4, e5⟩ := h2 j hj
      have hlt := World.block_lt_of_cell? wr _ e2
      have hne : (⟨w.heap.size + 1, k, none⟩ : Addr) ≠ ⟨gc, oc + j * 2, none⟩ := by intro e; simp at e <;> omega
      have hne' : (⟨w.heap.size + 1, k, none⟩ : Addr) ≠ ⟨gc, oc + j * 2 + 1, none⟩ := by intro e; simp at e <;> omega
      refine ⟨gc, oc, e1, ?_, ?_, ?_, e5⟩
      · rw [World.cell?_setCell_other _ _ _ _ hne]
        exact tr _ _ e2 (Ne.symm e4)
      · rw [World.cell?_setCell_other _ _ _ _ hne']
        exact tr _ _ e3 (Ne.symm e4)
      · intro e
        have e' : g = gc := Option.some.inj e
        rcases hat with e6 | e6
        · exact e4 (by rw [e6, e'])
        · have : gc < wr.heap.size := hlt
          omega
  · have e' : g = g' := Option.some.inj e
    omega
  · exact (((h.below.trans (hx.mono (by omega))).grown hg (by omega) (fun b hb => by have := h.own b hb; omega)).setCell (by show _ ≤ w.heap.size + 1; omega) _)

theorem info45 : (Try.prog.info? 45).map (fun i => (i.zero, i.size, i.bytes)) = some (some (.agg #[.string ⟨#[]⟩, .string ⟨#[]⟩]), 2, 32) := by kernel_rfl

/-- What ZZLongest leaves. -/
def ZPost (l : List UInt8) (E : List (ByteArray × ByteArray)) (w : World) (e : Ending) (w' : World) : Prop :=
  ∃ (b : ByteArray × ByteArray) (f : Bool), e = .returned (.tuple #[.string b.1, .string b.2, .bool f]) ∧ Best l E E.length b f ∧ Below w.heap.size w w'

/-- The set's 26 empty buckets. -/
def nils : Array Value := #[.slice none 0 0, .slice none 0 0, .slice none 0 0, .slice none 0 0, .slice none 0 0, .slice none 0 0, .slice none 0 0, .slice none 0 0, .slice none 0 0, .slice none 0 0, .slice none 0 0, .slice none 0 0, .slice none 0 0,
  .slice none 0 0, .slice none 0 0, .slice none 0 0, .slice none 0 0, .slice none 0 0, .slice none 0 0, .slice none 0 0, .slice none 0 0, .slice none 0 0, .slice none 0 0, .slice none 0 0, .slice none 0 0, .slice none 0 0]
theorem nils_get (k : Nat) (hk : k < 26) : nils[k]? = some (.slice none 0 0) := by
  have e : nils = Array.replicate 26 (.slice none 0 0) := rfl
  rw [e]
  simp [hk]

theorem ZFr.start {cs sl cap D} (c0 : Nat) (w : World) (h : Cs cs sl cap D) : ZFr sl cap D c0 0 (.slice none 0 0) w ((w.alloc (.cells cs 26)).alloc (.cells nils 43)) where
  box := fun k hk => by
    rw [World.cell?_alloc_lt _ _ _ (by show w.heap.size < _; simp)]
    exact box_new h 26 k hk
  rest := fun k' h1 _ => by
    rw [cell_of_row _ _ k' nils 43 (0, 0) (by have := heap_alloc_last (w.alloc (.cells cs 26)) (.cells nils 43); simpa using this)]
    exact nils_get k' h1
  cur := fun h1 => by
    rw [cell_of_row _ _ 0 nils 43 (0, 0) (by have := heap_alloc_last (w.alloc (.cells cs 26)) (.cells nils 43); simpa using this)]
    exact nils_get 0 h1
  fz := fun k' => by simp [go_sem]
  ready := fun h => absurd h (by omega)
  own := fun g e => by cases e
  size := by simp
  below := ((Below.refl _ _).alloc (Nat.le_refl _) _).alloc (by simp) _

set_option maxRecDepth 100000 in
set_option maxHeartbeats 2000000 in
theorem zzl11 (g o n c : Nat) (l : List UInt8) (cs : Array Value) (sl : Nat → Option Addr) (cap : Nat → Nat) (D : Nat → List (ByteArray × ByteArray)) (c0 : Nat) (w : World)
    (hl : l.length = n + 1) (hn : n + 1 ≤ 1048576) (hnc : n + 1 ≤ c) (hb : BytesAt w g o l) (hcs : Cs cs sl cap D) (hr : Reads w sl D) (hsm : Small 1048576 D)
    (hlast : (l[n]'(by omega)).toNat = 97 + c0) (hc0 : c0 < 26) (hsz : ∀ j (h : j < (D c0).length), 1 ≤ (D c0)[j].1.size) :
    Calls Try.prog 11 #[.slice (some ⟨g, o, none⟩) (n + 1) c, .agg cs] w (ZPost l (D c0) w) := by
  have HB := Hid.mk hb
  have HR := Hid.mk hr
  have HS := Hid.mk hsm
  have HSZ := Hid.mk hsz
  have HLAST := Hid.mk hlast
  have HF := Hid.mk (ZFr.start c0 w hcs)
  clear hb hr hsm hsz hlast hcs
  go_enter Try.func11, Try.ntmps11
  go_wp2_with fail
  obtain ⟨W1, HW1⟩ : ∃ W1, Hid (((w.alloc (.cells cs 26)).alloc (.cells nils 43)) = W1) := ⟨_, Hid.mk rfl⟩
  have HE : Hid (nils = _) := Hid.mk nils.eq_1
  rw [HW1.out] at HF
  rw [← HE.out, HW1.out]
  clear HE HW1
  obtain ⟨i0, hi0, hz0, hz1, hz2⟩ := info_parts info45
  go_loopw [14] (fun vk wr => ∃ k : Nat, k ≤ 26 ∧ vk = .int .i64 k ∧ ZFr sl cap D c0 k (.slice none 0 0) w wr) (fun vk _ => 26 - (intOf vk).toNat)
  case atStart => exact ⟨0, by omega, rfl, HF.out⟩
  case round =>
    clear HF
    obtain ⟨k, hk, rfl, hF⟩ := hrel
    by_cases hk26 : k < 26
    · have hkd : decide ((k : Int) < 26) = true := decide_eq_true (by omega)
      have hx := hF.box k hk26
      have hsm := (HS.out k hk26).1
      obtain ⟨len, HLEN⟩ : ∃ len : Nat, Hid ((D k).length = len) := ⟨_, Hid.mk rfl⟩
      rw [HLEN.out] at hx hsm
      have HF := Hid.mk hF
      clear hF
      go_wp2_with fail
      go_loopw [21] (fun vj wr => ∃ (j : Nat) (ov : Value), j ≤ len ∧ vj = .int .i64 j ∧ ZFr sl cap D c0 k ov w wr ∧ wr.ownsRow (w.heap.size + 2) 45 2 ov j (rc ((D k).take j)) ∧ (j = 0 → ov = .slice none 0 0)) (fun vj _ => len - (intOf vj).toNat)
      case atStart => exact ⟨0, .slice none 0 0, by omega, rfl, HF.out, World.ownsRow_nil _ _ _ _, fun _ => rfl⟩
      case round =>
        clear HF hx
        obtain ⟨j, ov, hj, rfl, hF, hown, hnil⟩ := hrel
        by_cases hjl : j < len
        · have hjD : j < (D k).length := by rw [HLEN.out]; exact hjl
          obtain ⟨g', o', hsl, hc1, hc2⟩ := (HR.out.old hF.below) k hk26 j hjD
          have HT : Hid (rc ((D k).take (j + 1)) = rc ((D k).take j) ++ [.string (D k)[j].1, .string (D k)[j].2]) := Hid.mk (by rw [List.take_succ_eq_append_getElem hjD, rc_snoc])
          obtain ⟨p1, HP1⟩ : ∃ p : ByteArray, Hid ((D k)[j].1 = p) := ⟨_, Hid.mk rfl⟩
          obtain ⟨p2, HP2⟩ : ∃ p : ByteArray, Hid ((D k)[j].2 = p) := ⟨_, Hid.mk rfl⟩
          rw [HP1.out, HP2.out] at HT
          rw [HP1.out] at hc1
          rw [HP2.out] at hc2
          rw [hsl]
          have hcur := hF.cur hk26
          have hfz := hF.fz k
          have hs := hF.size
          have HF := Hid.mk hF
          have HOWN := Hid.mk hown
          clear hF hown
          go_wp2_with fail
          have HBX : Hid (Below wr.heap.size wr (wr.alloc (.cells #[.string p1, .string p2] 28))) := Hid.mk ((Below.refl _ _).alloc (Nat.le_refl _) _)
          have hXq := cell_old hcur HBX.out
          have hXf : (wr.alloc (.cells #[.string p1, .string p2] 28)).frozen? ⟨w.heap.size + 1, k, none⟩ = false := by
            rw [World.frozen?_of_block (HBX.out.block _ (by show w.heap.size + 1 < _; omega))]
            exact hfz
          have hX0 : (wr.alloc (.cells #[.string p1, .string p2] 28)).cell? ⟨wr.heap.size, 0, none⟩ = some (.string p1) := by simp [go_sem]
          have hX1 : (wr.alloc (.cells #[.string p1, .string p2] 28)).cell? ⟨wr.heap.size, 1, none⟩ = some (.string p2) := by simp [go_sem]
          have hXo := HOWN.out.alloc (.cells #[.string p1, .string p2] 28)
          have hXs : (wr.alloc (.cells #[.string p1, .string p2] 28)).heap.size = wr.heap.size + 1 := by simp
          have hneQ : some (w.heap.size + 1) ≠ ov.ownBlock := fun e => by have := HF.out.own _ e.symm; omega
          have hneT : some wr.heap.size ≠ ov.ownBlock := fun e => by have := (HOWN.out.lt _ e.symm).2; omega
          have hmaxL : j + 1 ≤ maxLen := by unfold maxLen; omega
          have hk0 : (0 : Int) ≤ (k : Int) := Int.natCast_nonneg _
          have hk1 : (k : Int) < 26 := by omega
          obtain ⟨X, HX⟩ : ∃ X, Hid (wr.alloc (.cells #[.string p1, .string p2] 28) = X) := ⟨_, Hid.mk rfl⟩
          obtain ⟨xs, HXS⟩ : ∃ xs, Hid (rc ((D k).take j) = xs) := ⟨_, Hid.mk rfl⟩
          rw [HX.out] at HBX hXq hXf hX0 hX1 hXo hXs ⊢
          rw [HXS.out] at hXo HT
          clear hcur hfz hc1 hc2
          have hXqa : (X.alloc (.cells #[.string p1, .string p2] 45)).cell? ⟨w.heap.size + 1, k, none⟩ = some ov := by
            rw [World.cell?_alloc_lt _ _ _ (by show w.heap.size + 1 < _; omega)]
            exact hXq
          have hnew : (X.alloc (.cells #[.string p1, .string p2] 45)).heap[wr.heap.size + 1]? = some (.cells #[.string p1, .string p2] 45 (0, 0)) := by
            have := heap_alloc_new X (.cells #[.string p1, .string p2] 45)
            rw [hXs] at this
            exact this
          have HNEW := Hid.mk hnew
          clear hnew
          go_region_law
            ((refine step_append_lies _ (by rfl) _ _ _ (by rfl) (w.heap.size + 2) 45 i0 _ 2 32 Try.underlying41 hi0 hz0 hz1 hz2 rfl (by omega) ov j xs (by rfl) (by exact (hXo.alloc _))
                ⟨wr.heap.size + 1, 0, none⟩ 1 1 [.string p1, .string p2] (by rfl) (by rfl) (by exact World.news_of_block (cs := #[.string p1, .string p2]) (t := 45) (fr := (0, 0)) HNEW.out) (by simp [Value.oneCell'])
                (by omega) hmaxL (by omega) (by simp; omega) (wr.heap.size + 1 + 1) (by simp [hXs]) ?_; intro gg cp w1 hown1 hgrow hat hlt; have hfz1 : w1.frozen? ⟨w.heap.size + 1, k, none⟩ = false := (hgrow.frozen_far _ (by simp; omega) hneQ).trans ((World.frozen?_alloc_old X _ _ (by show w.heap.size + 1 ≠ _; omega)).trans hXf); have hcq1 : w1.cell? ⟨w.heap.size + 1, k, none⟩ = some ov := (hgrow.cell_far _ (by simp; omega) hneQ).trans hXqa))
          all_goals
            have hbb := HBX.out.alloc (by omega) (.cells #[.string p1, .string p2] 45)
            have hat2 : ov.ownBlock = some gg ∨ wr.heap.size ≤ gg := by
              rcases hat with e | e
              · exact Or.inl e
              · exact Or.inr (by omega)
            have HZ := Hid.mk (HF.out.step hk26 (by exact ⟨hbb.os, hbb.tape, hbb.output, hbb.size, hbb.block⟩) hgrow gg (j + 1) cp hat2)
            have HO := Hid.mk (own_setCell hown1 (a := ⟨w.heap.size + 1, k, none⟩) (by show w.heap.size + 1 < _; omega) (.slice (some ⟨gg, 0, none⟩) (j + 1) cp))
            clear hbb hgrow hown1 hfz1 hcq1 hat2
            go_wp2_with fail
            refine ⟨⟨j + 1, _, by omega, by go_num, HZ.out, by rw [HT.out]; exact HO.out, fun h => absurd h (by omega)⟩, by simp [intOf] <;> omega⟩
        · have hje : j = len := by omega
          subst hje
          have HN := Hid.mk (hF.onward hk26 (by rw [HLEN.out]; rw [List.take_of_length_le (by rw [HLEN.out]; exact Nat.le_refl _)] at hown; exact hown) (fun h => hnil (by rw [HLEN.out] at h; exact h)))
          clear hF hown hnil
          go_wp2_with fail
          refine ⟨⟨k + 1, by omega, by go_num, HN.out⟩, by simp [intOf] <;> omega⟩
    · have hke : k = 26 := by omega
      subst hke
      obtain ⟨s0, cp0, hq0, hrow⟩ := hF.ready hc0
      have HROW : Hid (RowAt wr s0 (D c0)) := Hid.mk (fun j hj => by
        obtain ⟨g', o', e1, e2, e3, _, _⟩ := hrow j hj
        exact ⟨g', o', e1, e2, e3⟩)
      have HA : Hid (Below wr.heap.size wr (wr.alloc (.cells #[.slice (some ⟨g, o, none⟩) (n + 1) c] 39))) := Hid.mk ((Below.refl _ _).alloc (Nat.le_refl _) _)
      have HBEL := Hid.mk hF.below
      have HL20 := Hid.mk (lon20 wr.heap.size (w.heap.size + 1) g o n c l c0 s0 cp0 (D c0) (D c0).length (wr.alloc (.cells #[.slice (some ⟨g, o, none⟩) (n + 1) c] 39)) hl hn hnc ((HB.out.old hF.below).old HA.out)
        (by simp [go_sem]) HLAST.out hc0 (cell_old hq0 HA.out) rfl (HS.out c0 hc0).1 (HROW.out.old HA.out) (fun j hj => ⟨HSZ.out j hj, ((HS.out c0 hc0).2 j hj).1⟩))
      clear hF hq0 hrow
      go_wp2_with fail
      refine HL20.out.mono ?_
      rintro e w2 ⟨⟨b1, b2⟩, f, rfl, hbest, hb2⟩
      have HBEST := Hid.mk hbest
      have HB2 : Hid (Below w.heap.size w w2) := Hid.mk ((HBEL.out.trans (HA.out.mono HBEL.out.size)).trans (hb2.mono (by have := HBEL.out.size; simp; omega)))
      clear hbest hb2 HL20
      go_wp2_with fail
      have hc0' : (w2.alloc (.cells #[.string b1, .string b2] 45)).cell? ⟨w2.heap.size, 0, none⟩ = some (.string b1) := by simp [go_sem]
      have hc1' : (w2.alloc (.cells #[.string b1, .string b2] 45)).cell? ⟨w2.heap.size, 1, none⟩ = some (.string b2) := by simp [go_sem]
      go_quiet (fail)
      go_wp2_with fail
      go_ret3
      exact ⟨(b1, b2), f, rfl, HBEST.out, below_drew (HB2.out.alloc HB2.out.size _) _⟩
end Go.Proofs.Qxb6617442a
