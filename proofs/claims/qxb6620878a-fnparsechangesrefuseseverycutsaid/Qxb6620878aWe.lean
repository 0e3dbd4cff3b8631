/-
  Walks of zzPutUvarint (21) and zzEncodeChanges (17).
-/
import Derived.Test.Qxb6620878aWl
import Derived.Lib.VarintMem
import Derived.Lib.AppendStr
import Derived.Laws.AppendOwnNone
namespace Go.Proofs.Qxb6620878a
open Go.RowKit Go.Maps

theorem bc_append (a b : List UInt8) : bc (a ++ b) = bc a ++ bc b := by simp [bc]
theorem bc_snoc (l : List UInt8) {k : Nat} (h : k < 256) : bc (l ++ [k.toUInt8]) = bc l ++ [.int .u8 (k : Int)] := by
  rw [bc_append]
  congr 1
  simp [bc]
  omega

set_option maxRecDepth 100000 in
set_option maxHeartbeats 1000000 in
theorem put (B n x : Nat) (hx : x < 18446744073709551616) (sv : Value) (xs : List Value) (w : World) (hown : w.ownsRow B 5 1 sv n xs) (hBw : B ≤ w.heap.size) (hlim : n + 10 ≤ 140737488355328) :
    Calls Try.prog 21 #[sv, .int .u64 x] w fun e w' => ∃ v', e = .returned v' ∧ w'.ownsRow B 5 1 v' (n + (Lib.uvarint x).length) (xs ++ bc (Lib.uvarint x)) ∧ Below B w w' := by
  obtain ⟨i0, hi, hz0, hz1, hz2⟩ := info_parts info5
  have hlen := Lib.uvarint_length64 hx
  go_enter Try.func21, Try.ntmps21
  go_wp2
  go_loopw [0, 1] (fun vb vx wr => ∃ (y : Nat) (pre : List UInt8), vx = .int .u64 y ∧ y ≤ x ∧ Hid (Lib.uvarint x = pre ++ Lib.uvarint y) ∧ wr.ownsRow B 5 1 vb (n + pre.length) (xs ++ bc pre) ∧ Below B w wr)
    (fun _ vx _ => (intOf vx).toNat)
  case atStart => exact ⟨x, [], rfl, Nat.le_refl _, Hid.mk rfl, by simpa [bc] using hown, Below.refl _ _⟩
  case round =>
    obtain ⟨y, pre, rfl, hy, hsplit, hown1, hnx⟩ := hrel
    have hpl : pre.length + (Lib.uvarint y).length ≤ 10 := by
      have h2 := congrArg List.length hsplit.out
      rw [List.length_append] at h2
      omega
    have hyp := Lib.uvarint_pos y
    by_cases h128 : 128 ≤ y
    · have hand : bits .and .u64 (y : Int) 127 = (y : Int) % 128 := bits_mask .u64 64 (by decide) wraps_u64 7 (by decide) _ (by omega) (by omega)
      have hor : bits .or .u8 ((y : Int) % 128) 128 = ((y % 128 + 128 : Nat) : Int) := by
        rw [Lib.u8_or128_any _ (by omega) (by omega)]
        omega
      go_wp2_with (at_builtin; refine wpList_append_own _ rfl _ _ 22 rfl B 5 i0 (.int .u8 0) 1 1 Try.underlying22 hi hz0 hz1 hz2 rfl (by decide) _ _ _ rfl (hown1.alloc _) ⟨wr.heap.size, 0, none⟩ 1 1 [Value.int .u8 ((y % 128 + 128 : Nat) : Int)] rfl rfl ?c1 ?c2 ?c3 ?c4 ?c5 ?_)
      case c1 => exact cell_one_new _ _ _
      case c2 => intro u hu; simp at hu; subst hu; rfl
      case c3 => unfold maxLen; omega
      case c4 => omega
      case c5 => have := hnx.size; simp; omega
      intro v' w1 hown' hgrow _
      have hnx1 : Below B w w1 := (hnx.alloc (by have := hnx.size; omega) _).grown hgrow (by have := hnx.size; simp; omega) (fun k hk => (hown1.lt k hk).1)
      go_wp2
      go_roundw
      case rel =>
        refine ⟨y / 128, pre ++ [(y % 128 + 128).toUInt8], by go_num, by omega, Hid.mk (by rw [hsplit.out, Lib.uvarint_big h128]; simp), ?_, hnx1⟩
        have ec : ((y % 128 + 128 : Nat) : Int) = (y : Int) % 128 + 128 := by omega
        rw [bc_snoc pre (by omega), List.length_append, List.length_singleton, ← Nat.add_assoc, ec]
        exact hown'
      case measure => simp [intOf]; omega
    · have hsm : Hid (Lib.uvarint y = [y.toUInt8]) := Hid.mk (Lib.uvarint_small (by omega))
      go_wp2_with (at_builtin; refine wpList_append_own _ rfl _ _ 22 rfl B 5 i0 (.int .u8 0) 1 1 Try.underlying22 hi hz0 hz1 hz2 rfl (by decide) _ _ _ rfl (hown1.alloc _) ⟨wr.heap.size, 0, none⟩ 1 1 [Value.int .u8 (y : Int)] rfl rfl ?c1 ?c2 ?c3 ?c4 ?c5 ?_)
      case c1 => exact cell_one_new _ _ _
      case c2 => intro u hu; simp at hu; subst hu; rfl
      case c3 => unfold maxLen; omega
      case c4 => omega
      case c5 => have := hnx.size; simp; omega
      intro v' w1 hown' hgrow _
      have hnx1 : Below B w w1 := (hnx.alloc (by have := hnx.size; omega) _).grown hgrow (by have := hnx.size; simp; omega) (fun k hk => (hown1.lt k hk).1)
      go_wp2
      go_ret
      refine ⟨v', rfl, ?_, hnx1⟩
      rw [hsplit.out, hsm.out, bc_snoc pre (by omega), List.length_append, List.length_singleton, ← Nat.add_assoc]
      exact hown'

theorem put_int (B n : Nat) (xi : Int) (x : Nat) (hxi : xi = (x : Int)) (hx : x < 18446744073709551616) (sv : Value) (xs : List Value) (w : World) (hown : w.ownsRow B 5 1 sv n xs) (hBw : B ≤ w.heap.size) (hlim : n + 10 ≤ 140737488355328) :
    Calls Try.prog 21 #[sv, .int .u64 xi] w fun e w' => ∃ v', e = .returned v' ∧ w'.ownsRow B 5 1 v' (n + (Lib.uvarint x).length) (xs ++ bc (Lib.uvarint x)) ∧ Below B w w' := by
  subst hxi
  exact put B n x hx sv xs w hown hBw hlim

/-- WHAT A SLICE OF BYTES THAT CAME IN HOLDS: it is nil; or its cells lie behind its address. -/
def Sl (w : World) (a : Option Addr) (n c : Nat) (l : List UInt8) : Prop :=
  l.length = n ∧ n ≤ c ∧ c ≤ 9223372036854775807 ∧ ((a = none ∧ n = 0 ∧ c = 0) ∨ ∃ x, a = some x ∧ ∀ j v, (bc l)[j]? = some v → w.cell? (x.add j) = some v)

theorem Sl.later {w w' : World} {a : Option Addr} {n c : Nat} {l : List UInt8} (h : Sl w a n c l) (hb : Below w.heap.size w w') : Sl w' a n c l := by
  obtain ⟨h1, h2, h3, h4⟩ := h
  refine ⟨h1, h2, h3, ?_⟩
  rcases h4 with h4 | ⟨x, rfl, hc⟩
  · exact .inl h4
  · exact .inr ⟨x, rfl, fun j v hv => cell_later hb (hc j v hv)⟩

theorem Sl.bs {w : World} {a : Option Addr} {n c : Nat} {l : List UInt8} (h : Sl w a n c l) : Bs w a l := by
  obtain ⟨h1, h2, h3, h4⟩ := h
  rcases h4 with ⟨_, h4, _⟩ | ⟨x, rfl, hc⟩
  · subst h4
    exact .inl (List.eq_nil_of_length_eq_zero h1)
  · cases l with
    | nil => exact .inl rfl
    | cons b r =>
      obtain ⟨g, o, sp⟩ := x
      have h0 := hc 0 (.int .u8 b.toNat) (by simp [bc])
      have hsp : sp = none := by simpa [Addr.add] using World.cell?_spot h0
      subst hsp
      exact .inr ⟨g, o, rfl, fun j v hv => by rw [← Addr.add_mid]; exact hc j v hv⟩

/-- 'append(e, xs...)': e a row of the call's own, xs whatever came in. -/
theorem wpList_append_sl {w : World} {ops : Array Oper} {rest : List Oper} {op : Oper} {ac : Act} {Q : Exit → Act → World → Prop} (hgd : op.guard = none) (s x : Operand)
    (ho : op.op = .call { callee := .builtin .append, args := #[s, x], argTypes := #[22, 22] }) (B : Nat) (v : Value) (n : Nat) (xs : List Value) (hs : ac.eval s = v) (hown : w.ownsRow B 5 1 v n xs)
    (a : Option Addr) (m c : Nat) (l : List UInt8) (hx : ac.eval x = .slice a m c) (hsl : Sl w a m c l) (hlim : n + m ≤ 140737488355328) (hB : B ≤ w.heap.size)
    (h : ∀ v' w', w'.ownsRow B 5 1 v' (n + m) (xs ++ bc l) → w.grownBy w' v.ownBlock → wpList Try.prog ops Q rest (ac.put op.dst v') w') : wpList Try.prog ops Q (op :: rest) ac w := by
  obtain ⟨i0, hi, hz0, hz1, hz2⟩ := info_parts info5
  obtain ⟨h1, h2, h3, h4⟩ := hsl
  rcases h4 with ⟨rfl, rfl, rfl⟩ | ⟨ad, rfl, hc⟩
  · have hl : l = [] := List.eq_nil_of_length_eq_zero h1
    subst hl
    refine wpList_append_own_none hgd s x 22 ho B 5 i0 1 Try.underlying22 hi v n xs hs hown hx ?_
    exact h v w (by simpa [bc] using hown) ⟨rfl, rfl, rfl, Nat.le_refl _, fun _ _ _ => rfl⟩
  · exact wpList_append_own w hgd s x 22 ho B 5 i0 (.int .u8 0) 1 1 Try.underlying22 hi hz0 hz1 hz2 rfl (by decide) v n xs hs hown ad m c (bc l) hx (by rw [bc_length, h1, Nat.mul_one]) hc (bc_one l) (by unfold maxLen; omega) (by omega) hB (fun v' w' k1 k2 _ => h v' w' k1 k2)

theorem strCells_bc (l : List UInt8) : Lib.strCells ⟨l.toArray⟩ = bc l := by
  simp [Lib.strCells, bc]

/-- The changes file. -/
def enc (base : Nat) (l1 l2 l3 : List UInt8) : List UInt8 :=
  Pl.magic ++ (Lib.uvarint base ++ (Lib.uvarint (l1.length / 32) ++ (l1 ++ (Lib.uvarint (l2.length / 32) ++ (l2 ++ l3)))))

theorem own_app {w : World} {B : Nat} {v : Value} {L m : List UInt8} (h : w.ownsRow B 5 1 v (L.length + m.length) (bc L ++ bc m)) : w.ownsRow B 5 1 v (L ++ m).length (bc (L ++ m)) := by
  rw [List.length_append, bc_append]
  exact h

theorem info5' : ∃ i0, Try.prog.info? 5 = some i0 ∧ i0.zero = some (.int .u8 0) ∧ i0.size = 1 ∧ i0.bytes = 1 := info_parts info5

set_option maxRecDepth 100000 in
set_option maxHeartbeats 1000000 in
theorem encode (base : Nat) (hbase : base < 18446744073709551616) (a1 a2 a3 : Option Addr) (n1 c1 n2 c2 n3 c3 : Nat) (l1 l2 l3 : List UInt8) (w : World) (h1 : Sl w a1 n1 c1 l1) (h2 : Sl w a2 n2 c2 l2) (h3 : Sl w a3 n3 c3 l3)
    (b1 : n1 ≤ 262144) (b2 : n2 ≤ 262144) (b3 : n3 ≤ 262144) :
    Calls Try.prog 17 #[.int .u64 base, .slice a1 n1 c1, .slice a2 n2 c2, .slice a3 n3 c3] w fun e w' => ∃ v, e = .returned v ∧ w'.ownsRow w.heap.size 5 1 v (enc base l1 l2 l3).length (bc (enc base l1 l2 l3)) ∧ Below w.heap.size w w' := by
  obtain ⟨i0, hi, hz0, hz1, hz2⟩ := info_parts info5
  have hmk := run_make (P := Try.prog) w 22 5 i0 (.int .u8 0) Try.underlying22 hi hz0 .i64 .i64 0 (48 + (n1 : Int) + (n2 : Int) + (n3 : Int)) (by omega) (by omega) (by rw [hz2]; omega) (by omega)
  rw [hz1] at hmk
  have hown0 : (w.alloc (.cells (madeCells #[.int .u8 0] (48 + n1 + n2 + n3)) 5)).ownsRow w.heap.size 5 1 (.slice (some ⟨w.heap.size, 0, none⟩) 0 (48 + n1 + n2 + n3)) 0 [] :=
    World.ownsRow_made w _ _ (Nat.le_refl _) (by unfold maxLen; omega) (by rw [size_madeCells]; omega)
  have hL1 : l1.length = n1 := h1.1
  have hL2 : l2.length = n2 := h2.1
  have hL3 : l3.length = n3 := h3.1
  have hu0 := Lib.uvarint_length64 hbase
  have hu1 := Lib.uvarint_length64 (show l1.length / 32 < 18446744073709551616 from by omega)
  have hu2 := Lib.uvarint_length64 (show l2.length / 32 < 18446744073709551616 from by omega)
  have HL := Hid.mk (And.intro hL1 (And.intro hL2 (And.intro hL3 (And.intro hu0 (And.intro hu1 hu2)))))
  clear hL1 hL2 hL3 hu0 hu1 hu2
  go_enter Try.func17, Try.ntmps17
  go_wp2_with (at_builtin; refine Lib.wpList_append_own_string _ rfl _ _ 22 9 rfl w.heap.size 5 i0 Try.underlying22 Try.underlying9 hi hz0 hz1 hz2 _ 0 [] rfl hown0 ⟨Pl.magic.toArray⟩ rfl (by decide) (by decide) (by simp) ?_; intro v1 w1 hown1 hgrow1 hnil1)
  have hown1' : w1.ownsRow w.heap.size 5 1 v1 Pl.magic.length (bc Pl.magic) := by
    rw [strCells_bc, List.nil_append] at hown1
    exact hown1
  have hb1 : Below w.heap.size w w1 := ((Below.refl w.heap.size w).alloc (Nat.le_refl _) _).grown hgrow1 (by simp) (fun k hk => (hown0.lt k hk).1)
  clear hgrow1 hnil1 hown0 hmk hown1
  refine (put_int w.heap.size _ _ base rfl hbase v1 _ w1 hown1' hb1.size (by decide)).mono ?_
  rintro e w2 ⟨v2, rfl, hown2, hbx⟩
  have hb2 := hb1.trans hbx
  clear hb1 hbx hown1'
  replace hown2 := own_app hown2
  obtain ⟨L2, HL2⟩ : ∃ L : List UInt8, Hid (Pl.magic ++ Lib.uvarint base = L) := ⟨_, Hid.mk rfl⟩
  rw [HL2.out] at hown2
  have hle2 : L2.length ≤ 28 := by
    rw [← HL2.out, List.length_append]
    have := HL.out.2.2.2.1
    have : Pl.magic.length = 18 := rfl
    omega
  go_wp2_with fail
  refine (put_int w.heap.size _ _ (n1 / 32) (by omega) (by omega) v2 _ w2 hown2 hb2.size (by omega)).mono ?_
  rintro e w3 ⟨v3, rfl, hown3, hbx⟩
  have hb3 := hb2.trans hbx
  clear hb2 hbx hown2
  replace hown3 := own_app hown3
  obtain ⟨L3, HL3⟩ : ∃ L : List UInt8, Hid (L2 ++ Lib.uvarint (n1 / 32) = L) := ⟨_, Hid.mk rfl⟩
  rw [HL3.out] at hown3
  have hle3 : L3.length ≤ 38 := by
    rw [← HL3.out, List.length_append]
    have := HL.out.2.2.2.2.1
    rw [HL.out.1] at this
    omega
  have h1' := h1.later hb3
  go_wp2_with (at_builtin; refine wpList_append_sl rfl _ _ rfl w.heap.size v3 _ _ rfl hown3 a1 n1 c1 l1 rfl h1' (by omega) hb3.size ?_; intro v4 w4 hown4 hgrow4)
  have hb4 : Below w.heap.size w w4 := hb3.grown hgrow4 hb3.size (fun k hk => (hown3.lt k hk).1)
  clear h1' hb3 hgrow4 hown3 h1
  rw [← HL.out.1] at hown4
  replace hown4 := own_app hown4
  obtain ⟨L4, HL4⟩ : ∃ L : List UInt8, Hid (L3 ++ l1 = L) := ⟨_, Hid.mk rfl⟩
  rw [HL4.out] at hown4
  have hle4 : L4.length ≤ 262182 := by
    rw [← HL4.out, List.length_append, HL.out.1]
    omega
  refine (put_int w.heap.size _ _ (n2 / 32) (by omega) (by omega) v4 _ w4 hown4 hb4.size (by omega)).mono ?_
  rintro e w5 ⟨v5, rfl, hown5, hbx⟩
  have hb5 := hb4.trans hbx
  clear hb4 hbx hown4
  replace hown5 := own_app hown5
  obtain ⟨L5, HL5⟩ : ∃ L : List UInt8, Hid (L4 ++ Lib.uvarint (n2 / 32) = L) := ⟨_, Hid.mk rfl⟩
  rw [HL5.out] at hown5
  have hle5 : L5.length ≤ 262192 := by
    rw [← HL5.out, List.length_append]
    have := HL.out.2.2.2.2.2
    rw [HL.out.2.1] at this
    omega
  have h2' := h2.later hb5
  go_wp2_with (first
    | (at_builtin; refine wpList_append_sl rfl _ _ rfl w.heap.size v5 _ _ rfl hown5 a2 n2 c2 l2 rfl h2' (by omega) hb5.size ?_; intro v6 w6 hown6 hgrow6)
    | (at_builtin; refine wpList_append_sl rfl _ _ rfl w.heap.size v6 _ _ rfl hown6 a3 n3 c3 l3 rfl (h3.later (hb5.grown hgrow6 hb5.size (fun k hk => (hown5.lt k hk).1))) (by omega) (hb5.grown hgrow6 hb5.size (fun k hk => (hown5.lt k hk).1)).size ?_; intro v7 w7 hown7 hgrow7))
  have hb6 := hb5.grown hgrow6 hb5.size (fun k hk => (hown5.lt k hk).1)
  have hb7 := hb6.grown hgrow7 hb6.size (fun k hk => (hown6.lt k hk).1)
  go_ret
  refine ⟨v7, rfl, ?_, hb7⟩
  rw [← HL.out.2.1, ← HL.out.2.2.1, Nat.add_assoc, ← List.length_append, List.append_assoc, ← bc_append] at hown7
  replace hown7 := own_app hown7
  have e : enc base l1 l2 l3 = L5 ++ (l2 ++ l3) := by
    rw [← HL5.out, ← HL4.out, ← HL3.out, ← HL2.out, enc, HL.out.1, HL.out.2.1]
    simp only [List.append_assoc]
  rw [e]
  exact hown7
end Go.Proofs.Qxb6620878a
