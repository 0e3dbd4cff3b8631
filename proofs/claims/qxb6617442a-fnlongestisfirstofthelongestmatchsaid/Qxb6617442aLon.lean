/-
  The walk of longest (20).
-/
import Derived.Test.Qxb6617442aByt
namespace Go.Proofs.Qxb6617442a
open Go.RowKit

/-- One bucket's rules in memory. -/
def RowAt (w : World) (sl : Option Addr) (E : List (ByteArray × ByteArray)) : Prop :=
  ∀ j (h : j < E.length), ∃ g o, sl = some ⟨g, o, none⟩ ∧ w.cell? ⟨g, o + j * 2, none⟩ = some (.string E[j].1) ∧ w.cell? ⟨g, o + j * 2 + 1, none⟩ = some (.string E[j].2)

theorem RowAt.old {w w' : World} {sl E} (h : RowAt w sl E) (hb : Below w.heap.size w w') : RowAt w' sl E := by
  intro j hj
  obtain ⟨g, o, h1, h2, h3⟩ := h j hj
  have hg := World.block_lt_of_cell? w _ h2
  refine ⟨g, o, h1, ?_, ?_⟩
  · rw [← h2]; exact World.cell?_of_block (hb.block g hg)
  · rw [← h3]; exact World.cell?_of_block (hb.block g hg)

/-- No rule. -/
def noRule : ByteArray × ByteArray := (⟨#[]⟩, ⟨#[]⟩)

/-- THE BEST RULE OF THE FIRST i: none; or the first among the longest. -/
def Best (l : List UInt8) (E : List (ByteArray × ByteArray)) (i : Nat) (b : ByteArray × ByteArray) (f : Bool) : Prop :=
  (f = false ∧ b = noRule ∧ ∀ j (h : j < E.length), j < i → ¬ Ends l E[j].1) ∨
  (f = true ∧ ∃ j0, ∃ h0 : j0 < E.length, j0 < i ∧ b = E[j0] ∧ Ends l E[j0].1 ∧ (∀ j (h : j < E.length), j < j0 → Ends l E[j].1 → E[j].1.size < E[j0].1.size) ∧ ∀ j (h : j < E.length), j < i → Ends l E[j].1 → E[j].1.size ≤ E[j0].1.size)

theorem Best.no {l E i b f} (h : Best l E i b f) (hn : ∀ hi : i < E.length, Ends l E[i].1 → (f = true ∧ E[i].1.size ≤ b.1.size)) : Best l E (i + 1) b f := by
  rcases h with ⟨rfl, rfl, h⟩ | ⟨rfl, j0, h0, hj, rfl, he, h1, h2⟩
  · refine Or.inl ⟨rfl, rfl, fun j hj hlt he => ?_⟩
    by_cases hc : j < i
    · exact h j hj hc he
    · have e : j = i := by omega
      subst e
      have := (hn hj he).1
      cases this
  · refine Or.inr ⟨rfl, j0, h0, by omega, rfl, he, h1, fun j hj' hlt he' => ?_⟩
    by_cases hc : j < i
    · exact h2 j hj' hc he'
    · have e : j = i := by omega
      subst e
      exact (hn hj' he').2

theorem Best.yes {l E i b f} (h : Best l E i b f) (hi : i < E.length) (he : Ends l E[i].1) (hs : b.1.size < E[i].1.size) : Best l E (i + 1) E[i] true := by
  refine Or.inr ⟨rfl, i, hi, by omega, rfl, he, fun j hj hlt he' => ?_, fun j hj hlt he' => ?_⟩
  · rcases h with ⟨rfl, rfl, h⟩ | ⟨rfl, j0, h0, hj0, rfl, he0, h1, h2⟩
    · exact absurd he' (h j hj hlt)
    · have := h2 j hj hlt he'
      omega
  · by_cases hc : j < i
    · rcases h with ⟨rfl, rfl, h⟩ | ⟨rfl, j0, h0, hj0, rfl, he0, h1, h2⟩
      · exact absurd he' (h j hj hc)
      · have := h2 j hj hc he'
        omega
    · have e : j = i := by omega
      subst e
      exact Nat.le_refl _

/-- What stands in the loop: the result's box (not yet written), best's box. -/
structure LFr (b : ByteArray × ByteArray) (w wr : World) : Prop where
  r0 : wr.cell? ⟨w.heap.size, 0, none⟩ = some (.string ⟨#[]⟩)
  r1 : wr.cell? ⟨w.heap.size, 1, none⟩ = some (.string ⟨#[]⟩)
  rf : ∀ k, wr.frozen? ⟨w.heap.size, k, none⟩ = false
  b0 : wr.cell? ⟨w.heap.size + 1, 0, none⟩ = some (.string b.1)
  b1 : wr.cell? ⟨w.heap.size + 1, 1, none⟩ = some (.string b.2)
  bf : ∀ k, wr.frozen? ⟨w.heap.size + 1, k, none⟩ = false
  size : w.heap.size + 2 ≤ wr.heap.size
  below : Below w.heap.size w wr

/-- What longest leaves. -/
def LonPost (l : List UInt8) (E : List (ByteArray × ByteArray)) (len : Nat) (w : World) (e : Ending) (w' : World) : Prop :=
  ∃ (b : ByteArray × ByteArray) (f : Bool), e = .returned (.tuple #[.agg #[.string b.1, .string b.2], .bool f]) ∧ Best l E len b f ∧ Below w.heap.size w w'

theorem cell_old {w w' : World} {a : Addr} {v : Value} (h : w.cell? a = some v) (hb : Below w.heap.size w w') : w'.cell? a = some v := by
  rw [← h]; exact World.cell?_of_block (hb.block a.block (World.block_lt_of_cell? w _ h))

theorem LFr.drew {b w wr} (h : LFr b w wr) (q : Nat) : LFr b w (wr.drewN q) := ⟨h.r0, h.r1, h.rf, h.b0, h.b1, h.bf, h.size, below_drew h.below q⟩

theorem LFr.alloc {b w wr} (h : LFr b w wr) (o : Obj) : LFr b w (wr.alloc o) := by
  have hs := h.size
  have l0 : ∀ k, (⟨w.heap.size, k, none⟩ : Addr).block < wr.heap.size := fun k => by show w.heap.size < _; omega
  have l1 : ∀ k, (⟨w.heap.size + 1, k, none⟩ : Addr).block < wr.heap.size := fun k => by show w.heap.size + 1 < _; omega
  refine ⟨?_, ?_, fun k => ?_, ?_, ?_, fun k => ?_, by simp; omega, h.below.alloc (by omega) _⟩
  · rw [World.cell?_alloc_lt _ _ _ (l0 _)]; exact h.r0
  · rw [World.cell?_alloc_lt _ _ _ (l0 _)]; exact h.r1
  · rw [World.frozen?_alloc_old _ _ _ (Nat.ne_of_lt (l0 _))]; exact h.rf k
  · rw [World.cell?_alloc_lt _ _ _ (l1 _)]; exact h.b0
  · rw [World.cell?_alloc_lt _ _ _ (l1 _)]; exact h.b1
  · rw [World.frozen?_alloc_old _ _ _ (Nat.ne_of_lt (l1 _))]; exact h.bf k

theorem LFr.store {b w wr} (h : LFr b w wr) (p1 p2 : ByteArray) : LFr (p1, p2) w ((wr.setCell ⟨w.heap.size + 1, 0, none⟩ (.string p1)).setCell ⟨w.heap.size + 1, 1, none⟩ (.string p2)) := by
  have hs := h.size
  have nx : ∀ j k, (⟨w.heap.size + 1, j, none⟩ : Addr) ≠ ⟨w.heap.size, k, none⟩ := fun j k e => by simp at e
  refine ⟨?_, ?_, fun k => ?_, ?_, ?_, fun k => ?_, by simp; omega, (h.below.setCell (by show _ ≤ w.heap.size + 1; omega) _).setCell (by show _ ≤ w.heap.size + 1; omega) _⟩
  · rw [World.cell?_setCell_other _ _ _ _ (nx _ _), World.cell?_setCell_other _ _ _ _ (nx _ _)]; exact h.r0
  · rw [World.cell?_setCell_other _ _ _ _ (nx _ _), World.cell?_setCell_other _ _ _ _ (nx _ _)]; exact h.r1
  · rw [World.frozen?_setCell, World.frozen?_setCell]; exact h.rf k
  · rw [World.cell?_setCell_other _ _ _ _ (by simp)]; exact World.cell?_setCell_same _ _ _ h.b0
  · exact World.cell?_setCell_same _ _ _ (by rw [World.cell?_setCell_other _ _ _ _ (by simp)]; exact h.b1)
  · rw [World.frozen?_setCell, World.frozen?_setCell]; exact h.bf k

theorem LFr.start (w : World) : LFr noRule w ((w.alloc (.cells #[.string ⟨#[]⟩, .string ⟨#[]⟩] 45)).alloc (.cells #[.string ⟨#[]⟩, .string ⟨#[]⟩] 45)) where
  r0 := by simp [go_sem]
  r1 := by simp [go_sem]
  rf := fun k => by simp [go_sem]
  b0 := by simp [go_sem, noRule]
  b1 := by simp [go_sem, noRule]
  bf := fun k => by simp [go_sem]
  size := by simp
  below := ((Below.refl _ _).alloc (Nat.le_refl _) _).alloc (by simp) _

set_option maxRecDepth 100000 in
set_option maxHeartbeats 1000000 in
theorem lon20 (S Q g o n c : Nat) (l : List UInt8) (c0 : Nat) (sl : Option Addr) (cap : Nat) (E : List (ByteArray × ByteArray)) (len : Nat) (w : World)
    (hl : l.length = n + 1) (hn : n + 1 ≤ 1048576) (hnc : n + 1 ≤ c) (hb : BytesAt w g o l) (hS : w.cell? ⟨S, 0, none⟩ = some (.slice (some ⟨g, o, none⟩) (n + 1) c))
    (hlast : (l[n]'(by omega)).toNat = 97 + c0) (hc0 : c0 < 26) (hQ : w.cell? ⟨Q, c0, none⟩ = some (.slice sl len cap)) (hlen : E.length = len) (hlen2 : len ≤ 1048576) (hE : RowAt w sl E)
    (hsz : ∀ j (h : j < E.length), 1 ≤ E[j].1.size ∧ E[j].1.size ≤ 1048576) :
    Calls Try.prog 20 #[.pointer (some ⟨S, 0, none⟩), .pointer (some ⟨Q, 0, none⟩)] w (LonPost l E len w) := by
  have hla := hb n (by omega)
  rw [hlast] at hla
  have hA1 : Below w.heap.size w ((w.alloc (.cells #[.string ⟨#[]⟩, .string ⟨#[]⟩] 45)).alloc (.cells #[.string ⟨#[]⟩, .string ⟨#[]⟩] 45)) := ((Below.refl _ _).alloc (Nat.le_refl _) _).alloc (by simp) _
  have HB := Hid.mk (hb.old hA1)
  have HE := Hid.mk (hE.old hA1)
  have hS1 := cell_old hS hA1
  have hQ1 := cell_old hQ hA1
  have hL1 := cell_old hla hA1
  have HZ := Hid.mk hsz
  have HBW := Hid.mk hb
  have HEW := Hid.mk hE
  have HSW := Hid.mk hS
  have HF : Hid (LFr noRule w _) := Hid.mk (LFr.start w)
  clear hb hE hsz hla hS hQ
  go_enter Try.func20, Try.ntmps20
  go_wp2_with fail
  obtain ⟨W1, HW1⟩ : ∃ W1, Hid (((w.alloc (.cells #[.string ⟨#[]⟩, .string ⟨#[]⟩] 45)).alloc (.cells #[.string ⟨#[]⟩, .string ⟨#[]⟩] 45)) = W1) := ⟨_, Hid.mk rfl⟩
  rw [HW1.out] at hA1 HB HE hS1 hQ1 hL1 HF ⊢
  go_quiet (fail)
  clear hA1 HB HE hS1 hQ1 hL1
  go_wp2_with fail
  rw [show 97 + c0 - 97 = c0 from by omega]
  go_loopw [7, 28] (fun vf vi wr => ∃ (i : Nat) (b : ByteArray × ByteArray) (f : Bool), i ≤ len ∧ vf = .bool f ∧ vi = .int .i64 i ∧ b.1.size ≤ 1048576 ∧ Hid (Best l E i b f) ∧ LFr b w wr) (fun _ vi _ => len - (intOf vi).toNat)
  case atStart => exact ⟨0, noRule, false, by omega, rfl, rfl, by decide, Hid.mk (Or.inl ⟨rfl, rfl, fun j _ hlt => absurd hlt (by omega)⟩), HF.out.drew _⟩
  case round =>
    clear HF HW1
    obtain ⟨i, b, f, hi, rfl, rfl, hbs, HM, hF⟩ := hrel
    by_cases hil : i < len
    · have hiE : i < E.length := by omega
      obtain ⟨g', o', hsl, hc1, hc2⟩ := (HEW.out.old hF.below) i hiE
      obtain ⟨hz1, hz2⟩ := HZ.out i hiE
      have HNO := Hid.mk (fun h => Best.no HM.out h)
      have HYES := Hid.mk (fun h1 h2 => Best.yes HM.out hiE h1 h2)
      obtain ⟨p, HP⟩ : ∃ p : ByteArray × ByteArray, Hid (E[i] = p) := ⟨_, Hid.mk rfl⟩
      rw [HP.out] at hc1 hc2 hz1 hz2 HYES
      have HNO' : Hid ((Ends l p.1 → (f = true ∧ p.1.size ≤ b.1.size)) → Best l E (i + 1) b f) := Hid.mk (fun h => HNO.out (fun _ => by rw [HP.out]; exact h))
      clear HNO
      obtain ⟨p1, p2⟩ := p
      obtain ⟨b1, b2⟩ := b
      have q1 := hF.b0
      have q2 := hF.b1
      have qf := hF.bf
      have hsz := hF.size
      simp only at hc1 hc2 hz1 hz2 q1 q2 hbs
      rw [hsl]
      obtain ⟨m, hm⟩ : ∃ m : Nat, p1.size = m := ⟨_, rfl⟩
      obtain ⟨mb, hmb⟩ : ∃ m : Nat, b1.size = m := ⟨_, rfl⟩
      rw [hm] at hz1 hz2
      rw [hmb] at hbs
      have hFA : LFr (b1, b2) w (wr.alloc (.cells #[.string p1, .string p2] 45)) := hF.alloc _
      have q1a := hFA.b0
      simp only at q1a
      have HS1 := Hid.mk (cell_old HSW.out hFA.below)
      have HB1 := Hid.mk (HBW.out.old hFA.below)
      have HFA := Hid.mk hFA
      clear hFA q1 q2 qf hF
      by_cases hgt : mb < m
      · go_wp2_with fail
        refine (ends24 S g o (n + 1) c l p1 m hm hz2 _ hl hn hnc HB1.out HS1.out hz1).mono ?_
        rintro e w1 ⟨bb, rfl, hbe, q, rfl⟩
        have HBE := Hid.mk hbe
        clear hbe
        cases bb
        · have HN : Hid (Best l E (i + 1) (b1, b2) f) := Hid.mk (HNO'.out fun h => absurd (HBE.out.2 h) (by decide))
          go_wp2_with fail
          go_roundw
          case rel => exact ⟨i + 1, (b1, b2), f, by omega, rfl, by go_num, by simp only [hmb]; exact hbs, HN, HFA.out.drew _⟩
          case measure => simp [intOf] <;> omega
        · have HN : Hid (Best l E (i + 1) (p1, p2) true) := Hid.mk (HYES.out (HBE.out.1 rfl) (by simp only [hm, hmb]; exact hgt))
          have hFD := HFA.out.drew q
          have q1 := hFD.b0
          have q2 := hFD.b1
          have qf := hFD.bf
          have HST := Hid.mk (hFD.store p1 p2)
          clear hFD HFA q1a
          simp only at q1 q2
          go_wp2_with fail
          go_roundw
          case rel => exact ⟨i + 1, (p1, p2), true, by omega, rfl, by go_num, by simp only [hm]; exact hz2, HN, HST.out⟩
          case measure => simp [intOf] <;> omega
      · have HN : Hid (Best l E (i + 1) (b1, b2) f) := Hid.mk (HNO'.out fun h => ⟨by
          rcases HM.out with ⟨_, e, _⟩ | ⟨e, _⟩
          · have : b1.size = 0 := by rw [show b1 = noRule.1 from congrArg Prod.fst e]; rfl
            omega
          · exact e, by simp only [hm, hmb]; omega⟩)
        go_wp2_with fail
        go_roundw
        case rel => exact ⟨i + 1, (b1, b2), f, by omega, rfl, by go_num, by simp only [hmb]; exact hbs, HN, HFA.out⟩
        case measure => simp [intOf] <;> omega
    · have hie : i = len := by omega
      subst hie
      obtain ⟨b1, b2⟩ := b
      have q1 := hF.b0
      have q2 := hF.b1
      have r1 := hF.r0
      have r2 := hF.r1
      have qf := hF.rf
      have hs := hF.size
      have HBE := Hid.mk hF.below
      clear hF
      simp only at q1 q2
      go_wp2_with fail
      refine bodyPost_ret (v := .tuple #[.agg #[.string b1, .string b2], .bool f]) (by simp [results, Try.results20, go_sem, r1, r2]) rfl ⟨(b1, b2), f, rfl, HM.out, ?_⟩
      exact (HBE.out.setCell (p := ⟨w.heap.size, 0, none⟩) (Nat.le_refl _) _).setCell (p := ⟨w.heap.size, 1, none⟩) (Nat.le_refl _) _
end Go.Proofs.Qxb6617442a
