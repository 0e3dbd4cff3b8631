/-
  parseChanges (20) in one contract; the walk of ZZParseChanges (12).
-/
import Derived.Test.Qxb6620878aWp
import Derived.Deep.QuietTactic
import Derived.BigQuiet
namespace Go.Proofs.Qxb6620878a
open Go.RowKit Go.Maps

/-- The bytes are no whole changes file (but for what may be left over behind it). -/
def Bad (l : List UInt8) : Prop := Pl.head l = none ∨ ∃ v r0, Pl.head l = some (v, r0) ∧ (Pl.one r0 = none ∨ ∃ n1 r1, Pl.one r0 = some (n1, r1) ∧ Pl.one (r1.drop (32 * n1)) = none)

/-- What parseChanges makes of l: refused with the zero changes; or the base, the two sets, and whether no byte is left over. -/
def Ans (l : List UInt8) (b : Int) (x y : Option Nat) (ok : Bool) (w' : World) : Prop :=
  (Bad l ∧ b = 0 ∧ x = none ∧ y = none ∧ ok = false) ∨
  ∃ v r0 n1 r1 n2 r2 m1 m2 N1 N2, Pl.head l = some (v, r0) ∧ Pl.one r0 = some (n1, r1) ∧ Pl.one (r1.drop (32 * n1)) = some (n2, r2) ∧ b = (v : Nat) ∧ x = some m1 ∧ y = some m2 ∧ ok = decide ((r2.drop (32 * n2)).length = 0) ∧
    w'.ownsMap Try.prog 45 unitElem m1 N1 (setOf r1 n1) ∧ w'.ownsMap Try.prog 45 unitElem m2 N2 (setOf r2 n2)

theorem Ans.refused {l : List UInt8} (h : Bad l) (w : World) : Ans l 0 none none false w := .inl ⟨h, rfl, rfl, rfl, rfl⟩

theorem head_eq (l : List UInt8) (k v : Nat) (ht : l.take 18 = Pl.magic) (hk : (Lib.uvarintDec (l.drop 18)).2 = (k : Int)) (hv : (Lib.uvarintDec (l.drop 18)).1 = v) (h0 : 0 < k) (h1 : v ≤ 9223372036854775807) : Pl.head l = some (v, (l.drop 18).drop k) := by
  rw [Pl.head, hk, hv, Int.toNat_natCast, if_pos ⟨ht, by omega, h1⟩]

theorem parse20 (a : Option Addr) (n c : Nat) (l : List UInt8) (w : World) (hl : l.length = n) (hnc : n ≤ c) (hn : n ≤ 1048576) (h : Bs w a l) :
    Calls Try.prog 20 #[.slice a n c] w fun e w' => ∃ b x y ok, e = .returned (.tuple #[.agg #[.int .i64 b, .map x, .map y], .bool ok]) ∧ Ans l b x y ok w' ∧ Below w.heap.size w w' := by
  by_cases ht : l.take 18 = Pl.magic
  · by_cases hbad : (Lib.uvarintDec (l.drop 18)).2 ≤ 0 ∨ 9223372036854775807 < (Lib.uvarintDec (l.drop 18)).1
    · refine (parse_bad_base a n c l w hl hnc h ht hbad).mono fun e w' ⟨he, hb⟩ => ⟨0, none, none, false, he, Ans.refused (.inl ?_) w', hb⟩
      rw [Pl.head, if_neg (by omega)]
    · obtain ⟨k, hk⟩ : ∃ k : Nat, (Lib.uvarintDec (l.drop 18)).2 = (k : Int) := ⟨_, (Int.toNat_of_nonneg (by omega)).symm⟩
      obtain ⟨v, hv⟩ : ∃ v : Nat, (Lib.uvarintDec (l.drop 18)).1 = v := ⟨_, rfl⟩
      have hh := head_eq l k v ht hk hv (by omega) (by omega)
      refine (parse_main a n c l w hl hnc hn h ht k v (Hid.mk hk) (Hid.mk hv) (by omega) (by omega)).mono fun e w' ⟨hb, hp⟩ => ?_
      rcases hp with ⟨hno, he⟩ | ⟨r5, m1, m2, N1, N2, q, n1, r1, n2, r2, a2, o1, a1, o2, he, w1, w2⟩
      · refine ⟨0, none, none, false, he, Ans.refused (.inr ⟨v, _, hh, ?_⟩) w', hb⟩
        generalize (l.drop 18).drop k = r0 at hno
        cases h1 : Pl.one r0 with
        | none => exact .inl rfl
        | some p =>
          obtain ⟨n1, r1⟩ := p
          refine .inr ⟨n1, r1, rfl, ?_⟩
          have e1 : after r0 1 = some (r1.drop (32 * n1)) := after_one (i := 0) rfl h1
          have e2 : (after r0 1).bind (fun r => (Pl.one r).map fun p => p.2.drop (32 * p.1)) = none := hno
          rw [e1] at e2
          simpa using e2
      · have e1 := after_one (i := 0) rfl o1
        have hq : r1.drop (32 * n1) = q := by
          have := e1.symm.trans a1
          simpa using this
        have e2 := after_one a1 o2
        have h5 : r2.drop (32 * n2) = r5 := by
          have := e2.symm.trans a2
          simpa using this
        exact ⟨v, some m1, some m2, _, he, .inr ⟨v, _, n1, r1, n2, r2, m1, m2, N1, N2, hh, o1, by rw [hq]; exact o2, rfl, rfl, rfl, by rw [h5], w1, w2⟩, hb⟩
  · refine (parse_no_magic a n c l w hl hnc h ht).mono fun e w' ⟨he, hb⟩ => ⟨0, none, none, false, he, Ans.refused (.inl ?_) w', hb⟩
    rw [Pl.head, if_neg (fun hc => ht hc.1)]

theorem Ans.later {l : List UInt8} {b : Int} {x y : Option Nat} {ok : Bool} {w w' : World} (h : Ans l b x y ok w) (hb : Below w.heap.size w w') : Ans l b x y ok w' := by
  have hg : w.grownBy w' none := ⟨hb.os, hb.tape, hb.output, hb.size, fun k hk _ => hb.block k hk⟩
  rcases h with h | ⟨v, r0, n1, r1, n2, r2, m1, m2, N1, N2, e1, e2, e3, e4, e5, e6, e7, w1, w2⟩
  · exact .inl h
  · exact .inr ⟨v, r0, n1, r1, n2, r2, m1, m2, N1, N2, e1, e2, e3, e4, e5, e6, e7, w1.kept hg (by simp), w2.kept hg (by simp)⟩

theorem below_drewN {B : Nat} {a W : World} (h : Below B a W) (n : Nat) : Below B a (W.drewN n) := ⟨h.os, h.tape, h.output, h.size, h.block⟩

set_option maxRecDepth 100000 in
set_option maxHeartbeats 1000000 in
theorem zzparse (a : Option Addr) (n c : Nat) (l : List UInt8) (w : World) (hl : l.length = n) (hnc : n ≤ c) (hn : n ≤ 1048576) (h : Bs w a l) :
    Calls Try.prog 12 #[.slice a n c] w fun e w' => ∃ b x y ok, e = .returned (.tuple #[.int .i64 b, .map x, .map y, .bool ok]) ∧ Ans l b x y ok w' ∧ Below w.heap.size w w' := by
  have hp := parse20 a n c l w hl hnc hn h
  go_enter Try.func12, Try.ntmps12
  go_wp2_with fail
  refine hp.mono ?_
  clear hp
  rintro e w1 ⟨b, x, y, ok, rfl, hans, hb⟩
  go_wp2_with fail
  go_quiet (fail)
  go_wp2_with fail
  have hd : Below w1.heap.size w1 ((w1.alloc (.cells #[.int .i64 b, .map x, .map y] 41)).drewN nq) := below_drewN ((Below.refl _ _).alloc (Nat.le_refl _) _) nq
  exact bodyPost_ret (v := .tuple #[.int .i64 b, .map x, .map y, .bool ok]) (by simp [results, Try.results12, go_sem]) rfl ⟨b, x, y, ok, rfl, hans.later hd, hb.trans (hd.mono hb.size)⟩
end Go.Proofs.Qxb6620878a
