/-
  The walk of (money.Amount).String (6).
-/
import Derived.Test.Qxb6619419aDoorShelf
import Derived.WalkKit
import Derived.WalkSpells
import Derived.WalkLawsBesides
import Derived.Deep.MidRow
import Derived.Deep.WholeRow
import Derived.Laws.BytesArg
import Derived.Lib.LaidTab
import Derived.Lib.ItoaLen
namespace Go.Proofs.Qxb6619419aDoor
open Go.RowKit
theorem Hid.mk {p : Prop} (h : p) : Hid p := h

/-- The cells of some bytes. -/
def bc (l : List UInt8) : List Value := l.map fun b => Value.int .u8 b.toNat
theorem bc_length (l : List UInt8) : (bc l).length = l.length := by simp [bc]
theorem bc_append (a b : List UInt8) : bc (a ++ b) = bc a ++ bc b := by simp [bc]
theorem bc_one (l : List UInt8) : ∀ v ∈ bc l, v.oneCell' = true := by
  intro v hv
  simp only [bc, List.mem_map] at hv
  obtain ⟨b, _, rfl⟩ := hv
  rfl
theorem bc_eq (l : List UInt8) : Lib.byteCells l = bc l := rfl

/-- A decimal digit's sign. -/
def dgt (k : Nat) : UInt8 := UInt8.ofNat (48 + k)
theorem dgt_toNat {k : Nat} (h : k < 10) : (dgt k).toNat = 48 + k := by
  simp [dgt]
  omega

/-- The unsigned text of m minor units. -/
def ustr (m : Nat) : List UInt8 := Lib.decDigits (m / 100) ++ [46, dgt (m / 10 % 10), dgt (m % 10)]
/-- THE TEXT OF AN AMOUNT. -/
def str (a : Int) : List UInt8 := if a < 0 then 45 :: ustr a.natAbs else ustr a.natAbs

theorem info5 : (Tryd.prog.info? 5).map (fun i => (i.zero, i.size, i.bytes)) = some (some (.int .u8 0), 1, 1) := by kernel_rfl

set_option maxRecDepth 100000 in
set_option maxHeartbeats 400000 in
theorem append11 (B n u : Nat) (ui : Int) (hui : ui = (u : Int)) (hu64 : u < 18446744073709551616) (sv : Value) (xs : List Value) (w : World) (hown : w.ownsRow B 5 1 sv n xs) (hBw : B ≤ w.heap.size) (hlim : n + 20 ≤ 140737488355328)
    (htab : Lib.TabIs Tryd.prog w powName .u64 Lib.pow10Tab) :
    Calls Tryd.prog 11 #[sv, .int .u64 ui, .int .i64 10] w fun e w' => ∃ v', e = .returned v' ∧ w'.ownsRow B 5 1 v' (n + (Lib.decDigits u).length) (xs ++ bc (Lib.decDigits u)) ∧ Below B w w' := by
  subst hui
  have hc := appendUint B n u hu64 sv xs w hown hBw hlim htab
  clear htab
  go_enter Tryd.func11, Tryd.ntmps11
  go_wp2_with fail
  refine hc.mono ?_
  rintro e w' ⟨v', rfl, h1, h2⟩
  clear hc
  go_wp2_with fail
  go_ret
  exact ⟨v', rfl, h1, h2⟩

/-- What is owned and not empty: its address and its bytes. -/
theorem own_bs {w : World} {B : Nat} {v : Value} {n : Nat} {L : List UInt8} (h : w.ownsRow B 5 1 v n (bc L)) (h0 : 0 < L.length) :
    ∃ g c, v = .slice (some ⟨g, 0, none⟩) L.length c ∧ w.rangeAt g 0 (bc L) := by
  obtain ⟨hl, h⟩ := h
  rw [bc_length, Nat.mul_one] at hl
  subst hl
  rcases h with ⟨_, h⟩ | ⟨g, cap, cur, hv, hb, hg, hn, hm, hs, ht⟩
  · omega
  · refine ⟨g, cap, hv, ?_⟩
    have := World.rangeAt_of_block hg 0 L.length
    rw [← ht, Nat.mul_one]
    rw [Nat.zero_add] at this
    have e : (cur.extract 0 L.length).toList = cur.toList.take L.length := by simp
    rw [e] at this
    exact this

theorem conv_bytes (w : World) (g o n c : Nat) (l : List UInt8) (hl : l.length = n) (h : w.rangeAt g o (bc l)) :
    (convert 33 9 (.slice (some ⟨g, o, none⟩) n c)).run Tryd.prog w = .ok (.string ⟨l.toArray⟩) w := by
  have := run_convert_bytes_arg (P := Tryd.prog) w 33 5 Tryd.underlying33 Tryd.underlying5 g o n c (l.map fun b => (b.toNat : Int)) (by simpa using hl) (fun i hi => by
    have := h i (.int .u8 ((l[i]'(by omega)).toNat : Int)) (by simp [bc, show i < l.length from by omega])
    rw [this]
    simp [show i < l.length from by omega]) 9 Tryd.underlying9
  rw [this]
  congr 2
  simp only [strOfNums, List.map_map]
  congr 2
  conv => rhs; rw [← List.map_id l]
  apply List.map_congr_left
  intro b _
  simp

/-- The table stands while nothing old turns. -/
theorem tab_later {w w' : World} (h : Lib.TabIs Tryd.prog w powName .u64 Lib.pow10Tab) (hb : Below w.heap.size w w') : Lib.TabIs Tryd.prog w' powName .u64 Lib.pow10Tab := by
  unfold Lib.TabIs World.var? at h ⊢
  obtain ⟨g, hg, hc⟩ := Option.bind_eq_some_iff.1 h
  refine Option.bind_eq_some_iff.2 ⟨g, hg, ?_⟩
  have hlt : g < w.heap.size := by
    cases hx : w.heap[g]? with
    | none =>
      rw [hx] at hc
      cases hc
    | some o => exact (Array.getElem?_eq_some_iff.1 hx).1
  rw [hb.block g hlt]
  exact hc

theorem news_new (w : World) (L : List Value) (t : TypeId) : ∀ j u, L[j]? = some u → (w.alloc (.cells L.toArray t)).cell? ((⟨w.heap.size, 0, none⟩ : Addr).add j) = some u := by
  intro j u hu
  rw [Addr.add_mid, cell_of_row _ _ (0 + j) L.toArray t (0, 0) (heap_alloc_last w _)]
  simpa using hu

/-- The last three signs. -/
def tail3 (m : Nat) : List UInt8 := [46, dgt (m / 10 % 10), dgt (m % 10)]
theorem tail3_bc (a : Int) (m : Nat) (h : a = (m : Int)) : [Value.int .u8 46, .int .u8 (48 + a / 10 % 10), .int .u8 (48 + a % 10)] = bc (tail3 m) := by
  have e1 := dgt_toNat (k := m / 10 % 10) (by omega)
  have e2 := dgt_toNat (k := m % 10) (by omega)
  simp only [bc, tail3, List.map_cons, List.map_nil, e1, e2]
  congr 2
  · congr 1
    omega
  · congr 2
    omega

set_option maxRecDepth 100000 in
set_option maxHeartbeats 1000000 in
theorem str_pos (a : Int) (h0 : 0 ≤ a) (h1 : a ≤ 9223372036854775807) (w : World) (htab : Lib.TabIs Tryd.prog w powName .u64 Lib.pow10Tab) :
    Calls Tryd.prog 6 #[.int .i64 a] w fun e w' => e = .returned (.string ⟨(ustr a.natAbs).toArray⟩) ∧ Below w.heap.size w w' := by
  obtain ⟨i0, hi, hz0, hz1, hz2⟩ := info_parts info5
  have hmk := run_make (P := Tryd.prog) w 33 5 i0 (.int .u8 0) Tryd.underlying33 hi hz0 .i64 .i64 0 24 (by omega) (by omega) (by rw [hz2]; omega) (by omega)
  rw [hz1] at hmk
  have HT := Hid.mk htab
  clear htab
  have hown0 : (w.alloc (.cells (madeCells #[.int .u8 0] 24) 5)).ownsRow w.heap.size 5 1 (.slice (some ⟨w.heap.size, 0, none⟩) 0 24) 0 [] :=
    World.ownsRow_made w _ _ (Nat.le_refl _) (by decide) (by rw [size_madeCells])
  have hB0 : Below w.heap.size w (w.alloc (.cells (madeCells #[.int .u8 0] 24) 5)) := (Below.refl _ _).alloc (Nat.le_refl _) _
  have hlen : (Lib.decDigits (a.natAbs / 100)).length ≤ 20 := by rw [Lib.decDigits_length]; exact Lib.nDigits_le20 _ (by omega)
  go_enter Tryd.func6, Tryd.ntmps6
  go_wp2_with fail
  refine (append11 w.heap.size 0 (a.natAbs / 100) _ (by omega) (by omega) _ [] _ hown0 (by simp) (by decide) (tab_later HT.out hB0)).mono ?_
  rintro e w1 ⟨v1, rfl, hown1, hb1⟩
  rw [List.nil_append, Nat.zero_add] at hown1
  have hbb := hB0.trans hb1
  clear hb1 hown0 hB0 hmk HT
  have hone : ∀ u ∈ [Value.int .u8 46, .int .u8 (48 + a / 10 % 10), .int .u8 (48 + a % 10)], u.oneCell' = true := by
    rw [tail3_bc a a.natAbs (by omega)]
    exact bc_one _
  go_wp2_with (at_builtin; refine wpList_append_own _ rfl _ _ 33 rfl w.heap.size 5 i0 (.int .u8 0) 1 1 Tryd.underlying33 hi hz0 hz1 hz2 rfl (by decide) _ _ _ rfl (hown1.alloc _) ⟨w1.heap.size, 0, none⟩ 3 3 [Value.int .u8 46, .int .u8 (48 + a / 10 % 10), .int .u8 (48 + a % 10)] rfl rfl (news_new w1 _ 5) hone (by unfold maxLen; omega) (by omega) (by have := hbb.size; simp; omega) ?_; intro v2 w2 hown2 hgrow2 hnil2)
  have hbb2 : Below w.heap.size w w2 := (hbb.alloc hbb.size _).grown hgrow2 (by have := hbb.size; simp; omega) (fun k hk => (hown1.lt k hk).1)
  rw [tail3_bc a a.natAbs (by omega), ← bc_append] at hown2
  obtain ⟨L, HL⟩ : ∃ L : List UInt8, Hid (Lib.decDigits (a.natAbs / 100) ++ tail3 a.natAbs = L) := ⟨_, Hid.mk rfl⟩
  have hpos : 0 < (Lib.decDigits (a.natAbs / 100) ++ tail3 a.natAbs).length := by simp [tail3]
  rw [HL.out] at hown2 hpos
  obtain ⟨g, c, rfl, hr⟩ := own_bs hown2 hpos
  have hcv := conv_bytes w2 g 0 L.length c L rfl hr
  clear hown2 hgrow2 hnil2 hown1 hone hbb
  rw [hcv]
  go_wp2_with fail
  go_ret
  exact ⟨by rw [← HL.out]; rfl, hbb2⟩

set_option maxRecDepth 100000 in
set_option maxHeartbeats 1000000 in
theorem str_neg (a : Int) (h0 : a < 0) (h1 : -9223372036854775808 ≤ a) (w : World) (htab : Lib.TabIs Tryd.prog w powName .u64 Lib.pow10Tab) :
    Calls Tryd.prog 6 #[.int .i64 a] w fun e w' => e = .returned (.string ⟨(45 :: ustr a.natAbs).toArray⟩) ∧ Below w.heap.size w w' := by
  obtain ⟨i0, hi, hz0, hz1, hz2⟩ := info_parts info5
  have hmk := run_make (P := Tryd.prog) w 33 5 i0 (.int .u8 0) Tryd.underlying33 hi hz0 .i64 .i64 0 24 (by omega) (by omega) (by rw [hz2]; omega) (by omega)
  rw [hz1] at hmk
  have HT := Hid.mk htab
  clear htab
  have hown0 : (w.alloc (.cells (madeCells #[.int .u8 0] 24) 5)).ownsRow w.heap.size 5 1 (.slice (some ⟨w.heap.size, 0, none⟩) 0 24) 0 [] :=
    World.ownsRow_made w _ _ (Nat.le_refl _) (by decide) (by rw [size_madeCells])
  have hB0 : Below w.heap.size w (w.alloc (.cells (madeCells #[.int .u8 0] 24) 5)) := (Below.refl _ _).alloc (Nat.le_refl _) _
  have hlen : (Lib.decDigits (a.natAbs / 100)).length ≤ 20 := by rw [Lib.decDigits_length]; exact Lib.nDigits_le20 _ (by omega)
  obtain ⟨m, HM⟩ : ∃ m : Int, Hid (m = -a) := ⟨_, Hid.mk rfl⟩
  have hneg : IntKind.u64.wrap (-IntKind.u64.wrap a) = m := by
    rw [HM.out, IntKind.wrap_u64, IntKind.wrap_u64]
    omega
  have hm0 : 0 ≤ m := by have := HM.out; omega
  have hm1 : m ≤ 9300000000000000000 := by have := HM.out; omega
  have hna : Hid (a.natAbs = m.toNat) := by have := HM.out; exact Hid.mk (by omega)
  rw [hna.out] at hlen
  go_enter Tryd.func6, Tryd.ntmps6
  go_wp2_with (at_builtin; refine wpList_append_own _ rfl _ _ 33 rfl w.heap.size 5 i0 (.int .u8 0) 1 1 Tryd.underlying33 hi hz0 hz1 hz2 rfl (by decide) _ _ _ rfl (hown0.alloc _) ⟨w.heap.size + 1, 0, none⟩ 1 1 [Value.int .u8 45] rfl rfl (by have := news_new (w.alloc (.cells (madeCells #[.int .u8 0] 24) 5)) [.int .u8 45] 5; simpa using this) (bc_one [45]) (by decide) (by decide) (by simp; omega) ?_; intro v1 w1 hown1 hgrow1 hnil1)
  have hbb1 : Below w.heap.size w w1 := (hB0.alloc hB0.size _).grown hgrow1 (by simp; omega) (fun k hk => (hown0.lt k hk).1)
  have hown1' : w1.ownsRow w.heap.size 5 1 v1 1 (bc [45]) := hown1
  clear hown0 hB0 hmk hown1 hgrow1 hnil1
  refine (append11 w.heap.size 1 (m.toNat / 100) _ (by omega) (by omega) _ _ _ hown1' hbb1.size (by decide) (tab_later HT.out hbb1)).mono ?_
  rintro e w2 ⟨v2, rfl, hown2, hb2⟩
  have hbb := hbb1.trans hb2
  clear hb2 hown1' HT hbb1
  have hone : ∀ u ∈ [Value.int .u8 46, .int .u8 (48 + m / 10 % 10), .int .u8 (48 + m % 10)], u.oneCell' = true := by
    rw [tail3_bc m m.toNat (by omega)]
    exact bc_one _
  go_wp2_with (at_builtin; refine wpList_append_own _ rfl _ _ 33 rfl w.heap.size 5 i0 (.int .u8 0) 1 1 Tryd.underlying33 hi hz0 hz1 hz2 rfl (by decide) _ _ _ rfl (hown2.alloc _) ⟨w2.heap.size, 0, none⟩ 3 3 [Value.int .u8 46, .int .u8 (48 + m / 10 % 10), .int .u8 (48 + m % 10)] rfl rfl (news_new w2 _ 5) hone (by unfold maxLen; omega) (by omega) (by have := hbb.size; simp; omega) ?_; intro v3 w3 hown3 hgrow3 hnil3)
  have hbb3 : Below w.heap.size w w3 := (hbb.alloc hbb.size _).grown hgrow3 (by have := hbb.size; simp; omega) (fun k hk => (hown2.lt k hk).1)
  rw [tail3_bc m m.toNat (by omega), ← bc_append, ← bc_append] at hown3
  obtain ⟨L, HL⟩ : ∃ L : List UInt8, Hid ([45] ++ Lib.decDigits (m.toNat / 100) ++ tail3 m.toNat = L) := ⟨_, Hid.mk rfl⟩
  have hpos : 0 < ([45] ++ Lib.decDigits (m.toNat / 100) ++ tail3 m.toNat).length := by simp [tail3]
  rw [HL.out] at hown3 hpos
  obtain ⟨g, c, rfl, hr⟩ := own_bs hown3 hpos
  have hcv := conv_bytes w3 g 0 L.length c L rfl hr
  clear hown3 hgrow3 hnil3 hown2 hone hbb
  rw [hcv]
  go_wp2_with fail
  go_ret
  exact ⟨by rw [← HL.out, hna.out]; rfl, hbb3⟩

/-- (money.Amount).String, every amount. -/
theorem str_any (a : Int) (h0 : -9223372036854775808 ≤ a) (h1 : a ≤ 9223372036854775807) (w : World) (htab : Lib.TabIs Tryd.prog w powName .u64 Lib.pow10Tab) :
    Calls Tryd.prog 6 #[.int .i64 a] w fun e w' => e = .returned (.string ⟨(str a).toArray⟩) ∧ Below w.heap.size w w' := by
  by_cases h : a < 0
  · rw [str, if_pos h]
    exact str_neg a h h0 w htab
  · rw [str, if_neg h]
    exact str_pos a (by omega) h1 w htab
end Go.Proofs.Qxb6619419aDoor
