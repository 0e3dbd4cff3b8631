/-
  The walk of parseChanges (20).
-/
import Derived.Test.Qxb6620878aWc
import Derived.Deep.RegionHeld3
import Derived.Lib.SlBytesConst
namespace Go.Proofs.Qxb6620878a
open Go.RowKit Go.Maps

theorem Bs.alloc {w : World} {a : Option Addr} {l : List UInt8} (h : Bs w a l) (o : Obj) : Bs (w.alloc o) a l := by
  rcases h with rfl | ⟨g, o', rfl, h⟩
  · exact .inl rfl
  · exact .inr ⟨g, o', rfl, World.rangeAt_alloc h _⟩

theorem rangeAt_marked (w : World) (cs : List Value) (t : TypeId) (fr : Nat × Nat) : (w.alloc (.cells cs.toArray t fr)).rangeAt w.heap.size 0 cs := by
  have := World.rangeAt_of_block (heap_alloc_last w (.cells cs.toArray t fr)) 0 cs.length
  simpa using this

/-- '[]byte(changesMagic)', behind the result's box. -/
theorem conv_magic (w : World) (R : Obj) :
    (convert 22 22 (.slice (some ⟨w.heap.size + 1, 0, none⟩) 18 18)).run Try.prog ((w.alloc R).alloc (.cells #[.int .u8 99, .int .u8 111, .int .u8 112, .int .u8 112, .int .u8 105, .int .u8 99, .int .u8 101, .int .u8 32, .int .u8 99, .int .u8 104, .int .u8 97, .int .u8 110, .int .u8 103, .int .u8 101, .int .u8 115, .int .u8 32, .int .u8 49, .int .u8 10] 5)) =
      .ok (.slice (some ⟨w.heap.size + 1, 0, none⟩) 18 18) ((w.alloc R).alloc (.cells (bc Pl.magic).toArray 5 (18, 19))) := by
  have h := Lib.run_convert_bytes_const (P := Try.prog) (w.alloc R) 22 5 (bc Pl.magic).toArray 18 18 Try.underlying22 Try.underlying5
  have e : (w.alloc R).heap.size = w.heap.size + 1 := by simp
  rw [e] at h
  exact h

theorem magic_there (w : World) (R : Obj) : ((w.alloc R).alloc (.cells (bc Pl.magic).toArray 5 (18, 19))).rangeAt (w.heap.size + 1) 0 (bc Pl.magic) := by
  have := rangeAt_marked (w.alloc R) (bc Pl.magic) 5 (18, 19)
  have e : (w.alloc R).heap.size = w.heap.size + 1 := by simp
  rw [e] at this
  exact this

set_option maxRecDepth 100000 in
set_option maxHeartbeats 1000000 in
theorem parse_no_magic (a : Option Addr) (n c : Nat) (l : List UInt8) (w : World) (hl : l.length = n) (hnc : n ≤ c) (h : Bs w a l) (ht : l.take 18 ≠ Pl.magic) :
    Calls Try.prog 20 #[.slice a n c] w fun e w' => e = .returned (.tuple #[.agg #[.int .i64 0, .map none, .map none], .bool false]) ∧ Below w.heap.size w w' := by
  have hcv := conv_magic w
  go_enter Try.func20, Try.ntmps20
  go_wp2_with fail
  refine (cut_no a n c l (w.heap.size + 1) 18 _ hl hnc ((h.alloc _).alloc _) (magic_there _ _) ht).mono ?_
  rintro e w' ⟨rfl, rfl⟩
  go_wp2_with fail
  refine (uvar a n c l _ hl ((h.alloc _).alloc _)).mono ?_
  rintro e w' ⟨rfl, rfl⟩
  go_wp2_with fail
  exact bodyPost_ret (v := .tuple #[.agg #[.int .i64 0, .map none, .map none], .bool false]) (by simp [results, Try.results20, go_sem]) rfl ⟨rfl, ((Below.refl _ _).alloc (Nat.le_refl _) _).alloc (by simp) _⟩

set_option maxRecDepth 100000 in
set_option maxHeartbeats 1000000 in
theorem parse_bad_base (a : Option Addr) (n c : Nat) (l : List UInt8) (w : World) (hl : l.length = n) (hnc : n ≤ c) (h : Bs w a l) (ht : l.take 18 = Pl.magic)
    (hbad : (Lib.uvarintDec (l.drop 18)).2 ≤ 0 ∨ 9223372036854775807 < (Lib.uvarintDec (l.drop 18)).1) :
    Calls Try.prog 20 #[.slice a n c] w fun e w' => e = .returned (.tuple #[.agg #[.int .i64 0, .map none, .map none], .bool false]) ∧ Below w.heap.size w w' := by
  have hcv := conv_magic w
  go_enter Try.func20, Try.ntmps20
  go_wp2_with fail
  refine (cut_yes a n c l (w.heap.size + 1) 18 _ hl hnc ((h.alloc _).alloc _) (magic_there _ _) ht).mono ?_
  rintro e w' ⟨⟨a0, rfl, hr⟩, rfl⟩
  go_wp2_with fail
  refine (uvar a0 (n - 18) (c - 18) (l.drop 18) _ (by rw [List.length_drop, hl]) (hr _ ((h.alloc _).alloc _))).mono ?_
  rintro e w' ⟨rfl, rfl⟩
  generalize (Lib.uvarintDec (l.drop 18)).1 = v at hbad
  generalize (Lib.uvarintDec (l.drop 18)).2 = k at hbad
  have hs : k ≤ 0 ∨ (¬ k ≤ 0 ∧ (9223372036854775807 : Int) < (v : Int)) := by omega
  clear hbad
  rcases hs with hs | ⟨hs, hv⟩
  all_goals
    go_wp2_with fail
    exact bodyPost_ret (v := .tuple #[.agg #[.int .i64 0, .map none, .map none], .bool false]) (by simp [results, Try.results20, go_sem]) rfl ⟨rfl, ((Below.refl _ _).alloc (Nat.le_refl _) _).alloc (by simp) _⟩

/-- The bytes of a slice that lay there when the call began. -/
def BsB (w : World) (a : Option Addr) (l : List UInt8) : Prop := l = [] ∨ ∃ g o, a = some ⟨g, o, none⟩ ∧ g < w.heap.size ∧ w.rangeAt g o (bc l)

theorem BsB.later {w wr : World} {a : Option Addr} {l : List UInt8} (h : BsB w a l) (hb : Below w.heap.size w wr) : Bs wr a l := by
  rcases h with rfl | ⟨g, o, rfl, hg, hr⟩
  · exact .inl rfl
  · exact .inr ⟨g, o, rfl, fun j v hv => (hb.cell (p := ⟨g, o + j, none⟩) hg).trans (hr j v hv)⟩

theorem Bs.toB {w : World} {a : Option Addr} {l : List UInt8} (h : Bs w a l) : BsB w a l := by
  rcases h with rfl | ⟨g, o, rfl, hr⟩
  · exact .inl rfl
  · cases l with
    | nil => exact .inl rfl
    | cons b r => exact .inr ⟨g, o, rfl, World.block_lt_of_cell? w _ (hr 0 (.int .u8 b.toNat) (by simp [bc])), hr⟩

/-- 's[k:]'. -/
theorem slice_from {w : World} {a : Option Addr} {l : List UInt8} (h : BsB w a l) (n c k : Nat) (hl : l.length = n) (hnc : n ≤ c) (hk : k ≤ n) :
    ∃ a', (∀ W, (Instr.slice 22 (.slice a n c) (some (.int .i64 (k : Int))) none none).run Try.prog W = .ok (.slice a' (n - k) (c - k)) W) ∧ BsB w a' (l.drop k) := by
  refine ⟨if c = k then a else a.map (·.add (k * 1)), fun W => ?_, ?_⟩
  · simp [Instr.slice, Instr.sliceBounds, Instr.sliceBound, run_underlying Try.underlying22, Try.sizeOf5, asIntOf]
    intro h
    omega
  · by_cases hc : c = k
    · exact .inl (List.drop_eq_nil_of_le (by omega))
    · rcases h with rfl | ⟨g, o, rfl, hg, hr⟩
      · exact .inl (by simp)
      · refine .inr ⟨g, o + k, ?_, hg, ?_⟩
        · simp [hc, Addr.add_mid]
        · have := range_part hr k (l.length - k)
          rw [List.take_of_length_le (by simp)] at this
          exact this


def after (r0 : List UInt8) : Nat → Option (List UInt8)
  | 0 => some r0
  | i + 1 => (after r0 i).bind fun r => (Pl.one r).map fun p => p.2.drop (32 * p.1)

/-- WHAT STANDS WHILE THE SETS ARE READ: the result's box (not yet written), the variable c's base, the two pointers. -/
structure Fr (v : Nat) (w wr : World) : Prop where
  r0 : wr.cell? ⟨w.heap.size, 0, none⟩ = some (.int .i64 0)
  r1 : wr.cell? ⟨w.heap.size, 1, none⟩ = some (.map none)
  r2 : wr.cell? ⟨w.heap.size, 2, none⟩ = some (.map none)
  rf : ∀ k, wr.frozen? ⟨w.heap.size, k, none⟩ = false
  c0 : wr.cell? ⟨w.heap.size + 1 + 1, 0, none⟩ = some (.int .i64 v)
  cf : ∀ k, wr.frozen? ⟨w.heap.size + 1 + 1, k, none⟩ = false
  s0 : ∀ i : Nat, i < 2 → wr.cell? ⟨w.heap.size + 1 + 1 + 1, i, none⟩ = some (.pointer (some ⟨w.heap.size + 1 + 1, i + 1, none⟩))
  size : w.heap.size + 4 ≤ wr.heap.size
  below : Below w.heap.size w wr

def Sets (r0 : List UInt8) (i : Nat) (w wr : World) : Prop :=
  ∀ j, j < i → ∃ m N q nj rj, after r0 j = some q ∧ Pl.one q = some (nj, rj) ∧ wr.cell? ⟨w.heap.size + 1 + 1, j + 1, none⟩ = some (.map (some m)) ∧ w.heap.size + 4 ≤ m ∧ wr.ownsMap Try.prog 45 unitElem m N (setOf rj nj)

theorem after_one {r0 r : List UInt8} {i : Nat} (h : after r0 i = some r) {n : Nat} {r1 : List UInt8} (h1 : Pl.one r = some (n, r1)) : after r0 (i + 1) = some (r1.drop (32 * n)) := by
  simp [after, h, h1]

theorem after_none {r0 r : List UInt8} {i : Nat} (h : after r0 i = some r) (h1 : Pl.one r = none) (hi : i < 2) : after r0 2 = none := by
  have h2 : after r0 (i + 1) = none := by simp [after, h, h1]
  have : i = 0 ∨ i = 1 := by omega
  rcases this with rfl | rfl
  · show (after r0 1).bind _ = none
    rw [h2]
    rfl
  · exact h2

section
variable {v i : Nat} {w wo wr : World}

/-- A cell that is not the field's own. -/
theorem step_cell (hg : ((wo.setCell ⟨w.heap.size + 1 + 1, i + 1, none⟩ (.map (some wo.heap.size))).alloc (.map #[] 0)).grownBy wr (some wo.heap.size)) {p : Addr} {u : Value} (hu : wo.cell? p = some u) (hne : (⟨w.heap.size + 1 + 1, i + 1, none⟩ : Addr) ≠ p) : wr.cell? p = some u := by
  have hlt := World.block_lt_of_cell? wo _ hu
  refine hg.cell (a := p) ?_ (by simp; omega)
  rw [World.cell?_alloc_lt _ _ _ (by simpa using hlt), World.cell?_setCell_other _ _ _ _ hne]
  exact hu

theorem step_frozen (hg : ((wo.setCell ⟨w.heap.size + 1 + 1, i + 1, none⟩ (.map (some wo.heap.size))).alloc (.map #[] 0)).grownBy wr (some wo.heap.size)) (p : Addr) (hlt : p.block < wo.heap.size) : wr.frozen? p = wo.frozen? p := by
  rw [World.frozen?_of_block (w := ((wo.setCell ⟨w.heap.size + 1 + 1, i + 1, none⟩ (.map (some wo.heap.size))).alloc (.map #[] 0))) (hg.block p.block (by simp; omega) (by simp; omega))]
  rw [World.frozen?_alloc_old _ _ _ (by simp; omega), World.frozen?_setCell]

theorem Fr.step (h : Fr v w wo) (hg : ((wo.setCell ⟨w.heap.size + 1 + 1, i + 1, none⟩ (.map (some wo.heap.size))).alloc (.map #[] 0)).grownBy wr (some wo.heap.size)) : Fr v w wr := by
  have hs := h.size
  have hgs := hg.size
  simp at hgs
  exact ⟨step_cell hg h.r0 (by simp), step_cell hg h.r1 (by simp), step_cell hg h.r2 (by simp), fun k => (step_frozen hg _ (by show w.heap.size < _; omega)).trans (h.rf k),
    step_cell hg h.c0 (by simp), fun k => (step_frozen hg _ (by show w.heap.size + 1 + 1 < _; omega)).trans (h.cf k), fun j hj => step_cell hg (h.s0 j hj) (by simp), by omega,
    ((h.below.setCell (p := ⟨w.heap.size + 1 + 1, i + 1, none⟩) (by show _ ≤ w.heap.size + 1 + 1; omega) _).alloc (by simp; omega) _).grown hg (by simp; omega) (fun k hk => by cases hk; omega)⟩

theorem Sets.step {r0 : List UInt8} (hf : Fr v w wo) (h : Sets r0 i w wo) (hg : ((wo.setCell ⟨w.heap.size + 1 + 1, i + 1, none⟩ (.map (some wo.heap.size))).alloc (.map #[] 0)).grownBy wr (some wo.heap.size))
    (hni : wo.cell? ⟨w.heap.size + 1 + 1, i + 1, none⟩ = some (.map none)) {N n : Nat} {q r : List UInt8} (ha : after r0 i = some q) (h1 : Pl.one q = some (n, r)) (hown : wr.ownsMap Try.prog 45 unitElem wo.heap.size N (setOf r n)) : Sets r0 (i + 1) w wr := by
  have hs := hf.size
  intro j hj
  by_cases e : j = i
  · subst e
    refine ⟨wo.heap.size, N, q, n, r, ha, h1, ?_, hs, hown⟩
    refine hg.cell (a := ⟨w.heap.size + 1 + 1, j + 1, none⟩) ?_ (by simp <;> omega)
    rw [World.cell?_alloc_lt _ _ _ (by show w.heap.size + 1 + 1 < (wo.setCell _ _).heap.size; simp; omega)]
    exact World.cell?_setCell_same _ _ _ hni
  · obtain ⟨m, N', q', nj, rj, e1, e2, e3, e4, e5⟩ := h j (by omega)
    have hml := e5.lt
    refine ⟨m, N', q', nj, rj, e1, e2, step_cell hg e3 (by simp <;> omega), e4, ?_⟩
    exact ((e5.setCell (a := ⟨w.heap.size + 1 + 1, i + 1, none⟩) (by show m ≠ w.heap.size + 1 + 1; omega) _).alloc _).kept hg (by simp; omega)
end

/-- WHAT parseChanges ANSWERS, the magic line and the base read: refused; or the base, the two sets, and whether nothing is left over. -/
def Parsed (r0 : List UInt8) (v : Nat) (w : World) (e : Ending) (w' : World) : Prop :=
  Below w.heap.size w w' ∧ ((after r0 2 = none ∧ e = .returned (.tuple #[.agg #[.int .i64 0, .map none, .map none], .bool false])) ∨
    ∃ r5 m1 m2 N1 N2 q n1 r1 n2 r2, after r0 2 = some r5 ∧ Pl.one r0 = some (n1, r1) ∧ after r0 1 = some q ∧ Pl.one q = some (n2, r2) ∧
      e = .returned (.tuple #[.agg #[.int .i64 v, .map (some m1), .map (some m2)], .bool (decide (r5.length = 0))]) ∧
      w'.ownsMap Try.prog 45 unitElem m1 N1 (setOf r1 n1) ∧ w'.ownsMap Try.prog 45 unitElem m2 N2 (setOf r2 n2))

theorem makeMap_hint (W : World) (x : Int) : (Instr.makeMap 28 (some (.int .u64 x))).run Try.prog W = .ok (.map (some W.heap.size)) (W.alloc (.map #[] 0)) := by
  simp only [Instr.makeMap, Sem.run_bind, run_underlying Try.underlying28, Result.andThen_ok]
  rfl

set_option maxRecDepth 100000 in
set_option maxHeartbeats 1000000 in
theorem parse_main (a : Option Addr) (n c : Nat) (l : List UInt8) (w : World) (hl : l.length = n) (hnc : n ≤ c) (hn : n ≤ 1048576) (h : Bs w a l) (ht : l.take 18 = Pl.magic)
    (k v : Nat) (HK : Hid ((Lib.uvarintDec (l.drop 18)).2 = (k : Int))) (HV : Hid ((Lib.uvarintDec (l.drop 18)).1 = v)) (hk : 0 < k) (hv : v ≤ 9223372036854775807) :
    Calls Try.prog 20 #[.slice a n c] w fun e w' => Parsed ((l.drop 18).drop k) v w e w' := by
  have hcv := conv_magic w
  go_enter Try.func20, Try.ntmps20
  go_wp2_with fail
  refine (cut_yes a n c l (w.heap.size + 1) 18 _ hl hnc ((h.alloc _).alloc _) (magic_there _ _) ht).mono ?_
  rintro e w' ⟨⟨a0, rfl, hr⟩, rfl⟩
  go_wp2_with fail
  refine (uvar a0 (n - 18) (c - 18) (l.drop 18) _ (by rw [List.length_drop, hl]) (hr _ ((h.alloc _).alloc _))).mono ?_
  rintro e w' ⟨rfl, rfl⟩
  have hkl := Pl.dec_le (l.drop 18)
  rw [List.length_drop, hl] at hkl
  rw [HK.out] at hkl ⊢
  rw [HV.out]
  have hv' : (v : Int) ≤ 9223372036854775807 := by omega
  have hk' : ¬ ((k : Int) ≤ 0) := by omega
  have hB : BsB w a0 (l.drop 18) := (hr w h).toB
  obtain ⟨a1, hs1, hB1⟩ := slice_from hB (n - 18) (c - 18) k (by simp; omega) (by omega) (by omega)
  go_wp2_with fail
  go_loopw [4, 10, 46] (fun vr vp vi wr => ∃ (i : Nat) (r : List UInt8) (a' : Option Addr) (n' c' : Nat), i ≤ 2 ∧ vi = .int .i64 i ∧ vr = .slice a' n' c' ∧ r.length = n' ∧ n' ≤ c' ∧ n' ≤ n ∧ BsB w a' r ∧
      Hid (after ((l.drop 18).drop k) i = some r) ∧ Fr v w wr ∧ Sets ((l.drop 18).drop k) i w wr ∧ (∀ j, i ≤ j → j < 2 → wr.cell? ⟨w.heap.size + 1 + 1, j + 1, none⟩ = some (.map none))) (fun _ _ i _ => 2 - (intOf i).toNat)
  case atStart =>
    refine ⟨0, (l.drop 18).drop k, a1, n - 18 - k, c - 18 - k, by omega, rfl, rfl, by simp; omega, by omega, by omega, hB1, Hid.mk rfl, ?_, fun j hj => absurd hj (by omega), ?_⟩
    · refine ⟨by simp [go_sem], by simp [go_sem], by simp [go_sem], fun k => by simp [go_sem], by simp [go_sem], fun k => by simp [go_sem], ?_, by simp, ?_⟩
      · intro j hj
        have : j = 0 ∨ j = 1 := by omega
        rcases this with rfl | rfl <;> simp [go_sem]
      · exact ((((Below.refl _ _).alloc (Nat.le_refl _) _).alloc (by simp) _).alloc (by simp; omega) _).alloc (by simp; omega) _
    · intro j _ hj
      have : j = 0 ∨ j = 1 := by omega
      rcases this with rfl | rfl <;> simp [go_sem]
  case round =>
    rename World => wo
    obtain ⟨i, r, a', n', c', hi2, rfl, rfl, hrl, hnc', hnn', hBr, HA, hfr, hsets, hnil⟩ := hrel
    by_cases hi : i < 2
    · have hs0 := hfr.s0 i hi
      have hni := hnil i (Nat.le_refl _) hi
      have hcf := hfr.cf
      have huv := uvar a' n' c' r wo hrl (hBr.later hfr.below)
      have hkr := Pl.dec_le r
      rw [hrl] at hkr
      go_wp2_with fail
      refine huv.mono ?_
      rintro e w' ⟨rfl, hw⟩
      have hw2 := hw.symm
      subst hw2
      clear huv hw
      by_cases hpos : 0 < (Lib.uvarintDec r).2
      · obtain ⟨k1, HK1⟩ : ∃ k : Nat, Hid ((Lib.uvarintDec r).2 = (k : Int)) := ⟨_, Hid.mk (Int.toNat_of_nonneg (by omega)).symm⟩
        obtain ⟨cnt, HC1⟩ : ∃ v : Nat, Hid ((Lib.uvarintDec r).1 = v) := ⟨_, Hid.mk rfl⟩
        rw [HK1.out] at hkr hpos ⊢
        rw [HC1.out]
        have hpos' : ¬ ((k1 : Int) ≤ 0) := by omega
        by_cases hcnt : cnt ≤ (n' - k1) / 32
        · obtain ⟨a2, hs2, hB2⟩ := slice_from hBr n' c' k1 hrl hnc' (by omega)
          have hcnt' : (cnt : Int) ≤ ((n' : Int) - k1) / 32 := by omega
          have hmk := makeMap_hint
          have hCl : w.heap.size + 1 + 1 < wo.heap.size := by have := hfr.size; omega
          have hni1 : (wo.alloc (.map #[] 0)).cell? ⟨w.heap.size + 1 + 1, i + 1, none⟩ = some (.map none) := by rw [World.cell?_alloc_lt _ _ _ hCl]; exact hni
          have hni2 : (wo.alloc (.map #[] 0)).frozen? ⟨w.heap.size + 1 + 1, i + 1, none⟩ = false := by rw [World.frozen?_alloc_past _ _ _ hCl]; exact hcf _
          have hW2b : Below w.heap.size w ((wo.setCell ⟨w.heap.size + 1 + 1, i + 1, none⟩ (.map (some wo.heap.size))).alloc (.map #[] 0)) :=
            (hfr.below.setCell (p := ⟨w.heap.size + 1 + 1, i + 1, none⟩) (by show _ ≤ w.heap.size + 1 + 1; omega) _).alloc (by simp; omega) _
          have hW2c : ((wo.setCell ⟨w.heap.size + 1 + 1, i + 1, none⟩ (.map (some wo.heap.size))).alloc (.map #[] 0)).cell? ⟨w.heap.size + 1 + 1, i + 1, none⟩ = some (.map (some wo.heap.size)) := by
            rw [World.cell?_alloc_lt _ _ _ (by simpa using hCl)]
            exact World.cell?_setCell_same _ _ _ hni
          have hW2s : ((wo.setCell ⟨w.heap.size + 1 + 1, i + 1, none⟩ (.map (some wo.heap.size))).alloc (.map #[] 0)).heap.size = wo.heap.size + 1 := by simp
          have hW2m : ((wo.setCell ⟨w.heap.size + 1 + 1, i + 1, none⟩ (.map (some wo.heap.size))).alloc (.map #[] 0)).ownsMap Try.prog 45 (unitElem (H := Unit)) wo.heap.size 0 (.map []) := by
            have := World.ownsMap_made (wo.setCell ⟨w.heap.size + 1 + 1, i + 1, none⟩ (.map (some wo.heap.size))) Try.prog 45 (unitElem (H := Unit))
            simpa using this
          have HB := Hid.mk hW2b
          have HC := Hid.mk hW2c
          have HS := Hid.mk hW2s
          have HM := Hid.mk hW2m
          clear hW2b hW2c hW2s hW2m
          have hr1l : (r.drop k1).length = n' - k1 := by simp; omega
          obtain ⟨r1, HR1⟩ : ∃ r1 : List UInt8, Hid (r.drop k1 = r1) := ⟨_, Hid.mk rfl⟩
          rw [HR1.out] at hB2 hr1l
          go_wp2_with fail
          generalize hW2 : ((wo.setCell ⟨w.heap.size + 1 + 1, i + 1, none⟩ (.map (some wo.heap.size))).alloc (.map #[] 0)) = W2 at HB HC HS HM ⊢
          have HW2 := Hid.mk hW2
          clear hW2
          go_loopw [4, 76] (fun vr vj wi => ∃ (j : Nat) (a3 : Option Addr) (n3 c3 : Nat), j ≤ cnt ∧ vj = .int .u64 j ∧ vr = .slice a3 n3 c3 ∧ n3 + 32 * j = n' - k1 ∧ n3 ≤ c3 ∧ Hid (BsB w a3 (r1.drop (32 * j))) ∧
            wi.ownsMap Try.prog 45 unitElem wo.heap.size j (setOf r1 j) ∧ W2.grownBy wi (some wo.heap.size)) (fun _ j _ => cnt - (intOf j).toNat)
          case atStart => exact ⟨0, a2, n' - k1, c' - k1, by omega, rfl, rfl, by omega, by omega, by simpa using Hid.mk hB2, HM.out, ⟨rfl, rfl, rfl, Nat.le_refl _, fun _ _ _ => rfl⟩⟩
          case round =>
            obtain ⟨j, a3, n3, c3, hj, rfl, rfl, hn3, hc3, HB3, hown, hgr⟩ := hrel
            have hbi : Below w.heap.size w wr := HB.out.grown hgr (by have := HS.out; have := hfr.size; omega) (fun k hk => by cases hk; have := hfr.size; omega)
            have hci : wr.cell? ⟨w.heap.size + 1 + 1, i + 1, none⟩ = some (.map (some wo.heap.size)) := hgr.cell HC.out (by simp; omega)
            by_cases hjc : j < cnt
            · obtain ⟨g3, o3, rfl, hg3, hr3⟩ : ∃ g o, a3 = some ⟨g, o, none⟩ ∧ g < w.heap.size ∧ wr.rangeAt g o (bc (dig r1 j)) := by
                have hlen : (r1.drop (32 * j)).length = n3 := by simp; omega
                rcases HB3.out with h0 | ⟨g3, o3, rfl, hg3, hr3⟩
                · rw [h0] at hlen
                  simp at hlen
                  omega
                · refine ⟨g3, o3, rfl, hg3, fun x u hu => (hbi.cell (p := ⟨g3, o3 + x, none⟩) hg3).trans ?_⟩
                  have := range_part hr3 0 32
                  simp only [Nat.add_zero, List.drop_zero] at this
                  exact this x u hu
              have hdl : (dig r1 j).length = 32 := dig_length _ _ (by omega)
              have hkey := key45 _ hdl
              obtain ⟨w1, hrun, hown1, hgrow1⟩ := (show wr.drew.ownsMap Try.prog 45 unitElem wo.heap.size j (setOf r1 j) from hown).update law45 Try.underlying28 (by unfold maxLen; omega) hkey (unitElem_mk (H := Unit))
              obtain ⟨D, HD⟩ : ∃ D : List UInt8, Hid (dig r1 j = D) := ⟨_, Hid.mk rfl⟩
              rw [HD.out] at hdl hrun hown1 hr3
              have hbl : (bc D).length = 32 := by rw [bc_length, hdl]
              have hu := Try.underlying45
              have hi45 : (Try.prog.info? 45).map (·.size) = some (bc D).length := by rw [bc_length, hdl]; exact info45
              have hone := bc_one D
              have harr := fun W a cp => run_arrayAt (P := Try.prog) W 45 5 32 a 32 cp Try.underlying45 (Nat.le_refl _)
              have hn3' : (32 : Int) ≤ (n3 : Int) := by omega
              have hc3' : (32 : Int) ≤ (c3 : Int) := by omega
              obtain ⟨a4, hs4, hB4⟩ := slice_from HB3.out n3 c3 32 (by simp; omega) hc3 (by omega)
              have hs4' : ∀ W, (Instr.slice 22 (.slice (some ⟨g3, o3, none⟩) n3 c3) (some (.int .i64 32)) none none).run Try.prog W = .ok (.slice a4 (n3 - 32) (c3 - 32)) W := hs4
              have hw1c : w1.cell? ⟨w.heap.size + 1 + 1, i + 1, none⟩ = some (.map (some wo.heap.size)) := hgrow1.cell (a := ⟨w.heap.size + 1 + 1, i + 1, none⟩) (by simpa using hci) (by simp; omega)
              have hw1r : w1.rangeAt g3 o3 (bc D) := range_grown (w := wr.drew) (by simpa using hr3) hgrow1 (by simp; omega)
              clear hkey hdl hs4
              go_wp2_with fail
              go_region_held3 (fun w' => w'.cell? ⟨w.heap.size + 1 + 1, i + 1, none⟩ = some (.map (some wo.heap.size)) ∧ w'.rangeAt g3 o3 (bc D)) (go_keep_ranges) (fail)
              go_wp2_with fail
              refine ⟨⟨j + 1, a4, n3 - 32, c3 - 32, by omega, by go_num, rfl, by omega, by omega, ?_, ?_, ?_⟩, by simp [intOf] <;> omega⟩
              · rw [List.drop_drop] at hB4
                exact Hid.mk hB4
              · rw [setOf, HD.out]
                exact hown1
              · exact ⟨hgrow1.os.trans hgr.os, hgrow1.tape.trans hgr.tape, hgrow1.output.trans hgr.output, Nat.le_trans hgr.size hgrow1.size, fun x hx hne => (hgrow1.block x (Nat.lt_of_lt_of_le hx hgr.size) hne).trans (hgr.block x hx hne)⟩
            · have hjc' : j = cnt := by omega
              subst hjc'
              have hone : Pl.one r = some (j, r1) := by
                rw [Pl.one, HK1.out, HC1.out, Int.toNat_natCast, hrl, if_pos ⟨hpos, hcnt⟩, HR1.out]
              have hgr' : ((wo.setCell ⟨w.heap.size + 1 + 1, i + 1, none⟩ (.map (some wo.heap.size))).alloc (.map #[] 0)).grownBy wr (some wo.heap.size) := by rw [HW2.out]; exact hgr
              have F1 := Hid.mk (hfr.step hgr')
              have F2 := Hid.mk (hsets.step hfr hgr' hni HA.out hone hown)
              have F3 : Hid (∀ x, i + 1 ≤ x → x < 2 → wr.cell? ⟨w.heap.size + 1 + 1, x + 1, none⟩ = some (.map none)) := fun x h1 h2 => step_cell hgr' (hnil x (by omega) h2) (by simp <;> omega)
              have F4 := Hid.mk (after_one HA.out hone)
              clear hfr hsets hnil hgr'
              go_wp2_with fail
              exact ⟨⟨i + 1, r1.drop (32 * j), a3, n3, c3, by omega, by go_num, rfl, by simp; omega, hc3, by omega, HB3.out, F4, F1.out, F2.out, F3.out⟩, by simp [intOf] <;> omega⟩
        · have hcnt' : ((n' : Int) - k1) / 32 < (cnt : Int) := by omega
          have q0 := hfr.r0
          have q1 := hfr.r1
          have q2 := hfr.r2
          have qf := hfr.rf
          have hone : Pl.one r = none := by
            rw [Pl.one, HK1.out, HC1.out, Int.toNat_natCast, hrl, if_neg (fun hc => hcnt hc.2)]
          have HN := Hid.mk (after_none HA.out hone hi)
          have HBE := Hid.mk hfr.below
          clear hone hfr hsets
          go_wp2_with fail
          refine bodyPost_ret (v := .tuple #[.agg #[.int .i64 0, .map none, .map none], .bool false]) (by simp [results, Try.results20, go_sem, q0, q1, q2]) rfl ⟨?_, .inl ⟨HN.out, rfl⟩⟩
          exact ((HBE.out.setCell (p := ⟨w.heap.size, 0, none⟩) (Nat.le_refl _) _).setCell (p := ⟨w.heap.size, 1, none⟩) (Nat.le_refl _) _).setCell (p := ⟨w.heap.size, 2, none⟩) (Nat.le_refl _) _
      · have q0 := hfr.r0
        have q1 := hfr.r1
        have q2 := hfr.r2
        have qf := hfr.rf
        have hone : Pl.one r = none := by
          rw [Pl.one, if_neg (fun hc => hpos hc.1)]
        have HN := Hid.mk (after_none HA.out hone hi)
        have HBE := Hid.mk hfr.below
        have hpos' : (Lib.uvarintDec r).2 ≤ 0 := by omega
        clear hone hfr hsets
        go_wp2_with fail
        refine bodyPost_ret (v := .tuple #[.agg #[.int .i64 0, .map none, .map none], .bool false]) (by simp [results, Try.results20, go_sem, q0, q1, q2]) rfl ⟨?_, .inl ⟨HN.out, rfl⟩⟩
        exact ((HBE.out.setCell (p := ⟨w.heap.size, 0, none⟩) (Nat.le_refl _) _).setCell (p := ⟨w.heap.size, 1, none⟩) (Nat.le_refl _) _).setCell (p := ⟨w.heap.size, 2, none⟩) (Nat.le_refl _) _
    · have hi' : i = 2 := by omega
      subst hi'
      have q0 := hfr.r0
      have q1 := hfr.r1
      have q2 := hfr.r2
      have qf := hfr.rf
      have p0 := hfr.c0
      obtain ⟨m1, N1, qa, n1, r1, ea1, eo1, p1, hm1, hown1⟩ := hsets 0 (by omega)
      obtain ⟨m2, N2, qb, n2, r2, ea2, eo2, p2, hm2, hown2⟩ := hsets 1 (by omega)
      simp only [after, Option.some.injEq] at ea1
      subst ea1
      have p1' : wo.cell? ⟨w.heap.size + 1 + 1, 1, none⟩ = some (.map (some m1)) := p1
      have p2' : wo.cell? ⟨w.heap.size + 1 + 1, 2, none⟩ = some (.map (some m2)) := p2
      have HBE := Hid.mk hfr.below
      have HE := Hid.mk (And.intro ea2 (And.intro eo1 eo2))
      clear p1 p2 hfr hsets hnil ea2 eo1 eo2
      go_wp2_with fail
      have hb : decide (r.length = 0) = ((n' : Int) == 0) := by
        rw [hrl, Bool.eq_iff_iff]
        simp
      refine bodyPost_ret (v := .tuple #[.agg #[.int .i64 v, .map (some m1), .map (some m2)], .bool ((n' : Int) == 0)]) (by simp [results, Try.results20, go_sem, q0, q1, q2]) rfl ⟨?_, .inr ⟨r, m1, m2, N1, N2, qb, n1, r1, n2, r2, HA.out, HE.out.2.1, HE.out.1, HE.out.2.2, by rw [hb], ?_, ?_⟩⟩
      · exact ((HBE.out.setCell (p := ⟨w.heap.size, 0, none⟩) (Nat.le_refl _) _).setCell (p := ⟨w.heap.size, 1, none⟩) (Nat.le_refl _) _).setCell (p := ⟨w.heap.size, 2, none⟩) (Nat.le_refl _) _
      · exact ((hown1.setCell (a := ⟨w.heap.size, 0, none⟩) (by show m1 ≠ w.heap.size; omega) _).setCell (a := ⟨w.heap.size, 1, none⟩) (by show m1 ≠ w.heap.size; omega) _).setCell (a := ⟨w.heap.size, 2, none⟩) (by show m1 ≠ w.heap.size; omega) _
      · exact ((hown2.setCell (a := ⟨w.heap.size, 0, none⟩) (by show m2 ≠ w.heap.size; omega) _).setCell (a := ⟨w.heap.size, 1, none⟩) (by show m2 ≠ w.heap.size; omega) _).setCell (a := ⟨w.heap.size, 2, none⟩) (by show m2 ≠ w.heap.size; omega) _
end Go.Proofs.Qxb6620878a
