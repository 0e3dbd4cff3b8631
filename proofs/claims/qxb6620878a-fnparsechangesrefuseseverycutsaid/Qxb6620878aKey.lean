/-
  A [32]byte as a map's key: what it reads as, that two differ as keys if they differ; the set of digests as the datum that a map of the program reads as.
-/
import Derived.Test.Qxb6620878aRows
import Derived.Test.Qxb6620878aPlain
import Derived.WalkKit
import Derived.WalkSpells
import Derived.WalkLawsBesides
import Derived.DeepKeys4
import Derived.Maps.OwnSet
import Derived.Deep.MidRow
import Derived.Deep.WholeRow
namespace Go.Proofs.Qxb6620878a
open Go.RowKit Go.Maps

theorem laidOut : laidOutB Try.prog = true := by kernel_rfl
theorem row45 : 45 < Try.prog.types.size := of_decide_eq_true (by kernel_rfl)
theorem wide45 : (match Try.prog.underlying 45 with | some (.array _ _) | some (.struct _) => true | _ => false) = true := by kernel_rfl
theorem law45 : Keyed Try.prog 45 := Keyed.of_law (deep_law_laid laidOut (m := 2) (by omega) row45 (by kernel_rfl) wide45)
theorem zero46 (w : World) : (zeroValue 46).run Try.prog w = .ok (.agg #[]) w := by kernel_rfl

/-- The cells of some bytes. -/
def bc (l : List UInt8) : List Value := l.map fun b => Value.int .u8 b.toNat

theorem bc_length (l : List UInt8) : (bc l).length = l.length := by simp [bc]
theorem bc_one (l : List UInt8) : ∀ v ∈ bc l, v.oneCell' = true := by
  intro v hv
  simp only [bc, List.mem_map] at hv
  obtain ⟨b, _, rfl⟩ := hv
  rfl

theorem mapM_some {α β : Type} (f : α → Option β) (g : α → β) : ∀ l : List α, (∀ x ∈ l, f x = some (g x)) → l.mapM f = some (l.map g)
  | [], _ => rfl
  | x :: r, h => by
    rw [List.mapM_cons, h x (by simp), mapM_some f g r (fun y hy => h y (by simp [hy]))]
    rfl

theorem flatten_single {α β : Type} (g : α → β) : ∀ l : List α, (l.map fun x => [g x]).flatten = l.map g
  | [] => rfl
  | x :: r => by
    have := flatten_single g r
    simp [this]

theorem keyBytes_u8 : ∀ l : List UInt8, keyBytes (l.map fun b => Lit.int .u8 b.toNat) = l
  | [] => rfl
  | b :: r => by
    have ih := keyBytes_u8 r
    have hb := b.toNat_lt
    have e : Lit.keyBytes (Lit.int .u8 (b.toNat : Int)) = [b] := by
      have e0 : (b.toNat : Int) % (2 : Int) ^ IntKind.u8.bits = (b.toNat : Int) := Int.emod_eq_of_lt (by omega) (by show (b.toNat : Int) < 256; omega)
      show bytesBE 1 ((b.toNat : Int) % (2 : Int) ^ IntKind.u8.bits).toNat = [b]
      rw [e0]
      simp only [bytesBE, bytesLE, Int.toNat_natCast, List.reverse_cons, List.reverse_nil, List.nil_append]
      rw [Nat.mod_eq_of_lt (by omega)]
      simp
    unfold keyBytes at ih ⊢
    rw [List.map_cons, List.flatMap_cons, ih, e]
    rfl

theorem keyLits_array {P : Program} {t e : TypeId} {n : Nat} (hu : P.underlying t = some (.array n e)) (d : Nat) (cs : List Value) :
    P.keyLits (d + 1) t cs = if cs.length = P.cellsOf t then ((List.range n).mapM fun i => P.keyLits d e ((cs.drop (i * P.cellsOf e)).take (P.cellsOf e))).map List.flatten else none := by
  simp only [Program.keyLits, hu]
theorem keyLits_int {P : Program} {t : TypeId} {q : IntKind} (hu : P.underlying t = some (.int q)) (d : Nat) (x : Int) (hw : (Lit.int q x).wf = true) : P.keyLits (d + 1) t [.int q x] = some [.int q x] := by
  simp [Program.keyLits, hu, hw]

theorem cells45 : Try.prog.cellsOf 45 = 32 := by kernel_rfl
theorem cells5 : Try.prog.cellsOf 5 = 1 := by kernel_rfl
theorem keyType45 : Try.prog.keyType 45 = true := by kernel_rfl
theorem size84 : Try.prog.types.size + 1 = 83 + 1 + 1 := by kernel_rfl

/-- WHAT A [32]byte READS AS, AS A KEY: its bytes. -/
theorem key45 (l : List UInt8) (h : l.length = 32) : keyOf Try.prog 45 (.agg (bc l).toArray) = some (.string l) := by
  unfold keyOf
  rw [Try.underlying45]
  have hf : Value.formed Try.prog 45 (.agg (bc l).toArray) = true := by
    simp only [Value.formed, Try.underlying45, cells45]
    simp [bc_length, h]
  simp only [keyType45, hf, Bool.and_self, if_true, Value.cells]
  rw [size84]
  have h5 : ∀ x ∈ List.range 32, Try.prog.keyLits (83 + 1) 5 (((bc l).drop (x * 1)).take 1) = some [Lit.int .u8 ((l.getD x 0).toNat : Int)] := by
    intro x hx
    have hx' : x < l.length := by rw [h]; simpa using hx
    have e : ((bc l).drop (x * 1)).take 1 = [Value.int .u8 ((l.getD x 0).toNat : Int)] := by
      rw [Nat.mul_one, List.drop_eq_getElem_cons (by rw [bc_length]; exact hx')]
      simp [bc, hx']
    have hb := (l.getD x 0).toNat_lt
    have hwf : (Lit.int .u8 ((l.getD x 0).toNat : Int)).wf = true := by
      have e1 : IntKind.u8.min = 0 := by decide
      have e2 : IntKind.u8.max = 255 := by decide
      simp only [Lit.wf, e1, e2, Bool.and_eq_true, decide_eq_true_eq]
      omega
    rw [e]
    exact keyLits_int Try.underlying5 83 _ hwf
  have h45 : Try.prog.keyLits (83 + 1 + 1) 45 (bc l).toArray.toList = some ((List.range 32).map fun x => Lit.int .u8 ((l.getD x 0).toNat : Int)) := by
    rw [keyLits_array Try.underlying45]
    simp only [cells45, cells5, bc_length, h, if_true]
    rw [mapM_some _ _ _ h5]
    simp only [Option.map_some, flatten_single]
  rw [h45]
  simp only [Option.map_some, Option.some.injEq, Lit.string.injEq]
  have e : ((List.range 32).map fun x => Lit.int .u8 ((l.getD x 0).toNat : Int)) = l.map fun b => Lit.int .u8 b.toNat := by
    apply List.ext_getElem
    · simp [h]
    · intro i h1 h2
      have : i < l.length := by simpa using h2
      simp [this]
  rw [e, keyBytes_u8]

/-- The j-th digest. -/
def dig (r : List UInt8) (j : Nat) : List UInt8 := (r.drop (32 * j)).take 32

theorem dig_length (r : List UInt8) (j : Nat) (h : 32 * j + 32 ≤ r.length) : (dig r j).length = 32 := by
  simp [dig]; omega

/-- THE SET OF THE FIRST n DIGESTS, as a map of the program reads. -/
def setOf (r : List UInt8) : Nat → DataW Unit
  | 0 => .map []
  | j + 1 => (setOf r j).put (.string (dig r j)) (.agg [])

theorem isMap_put {D : DataW Unit} (h : IsMap D) (k : Lit) (d : DataW Unit) : IsMap (D.put k d) := by
  obtain ⟨es, rfl⟩ := h
  exact ⟨_, rfl⟩

theorem setOf_isMap (r : List UInt8) : ∀ n, IsMap (setOf r n)
  | 0 => ⟨_, rfl⟩
  | n + 1 => isMap_put (setOf_isMap r n) _ _

theorem has_setOf (r : List UInt8) (j : Nat) : ∀ n, j < n → has (setOf r n) (.string (dig r j)) = true
  | 0, h => absurd h (by omega)
  | n + 1, h => by
    by_cases e : dig r j = dig r n
    · rw [setOf, e]
      exact has_put_same (k := .string (dig r n)) (setOf_isMap r n) (by trivial) _
    · rw [setOf, has_put_other (by simpa using e)]
      exact has_setOf r j n (by
        have : j ≠ n := fun h' => e (by rw [h'])
        omega)

theorem setOf_congr {r r' : List UInt8} : ∀ n, (∀ j, j < n → dig r j = dig r' j) → setOf r n = setOf r' n
  | 0, _ => rfl
  | n + 1, h => by rw [setOf, setOf, setOf_congr n (fun j hj => h j (by omega)), h n (by omega)]

theorem dig_append (a r : List UInt8) (j : Nat) (h : 32 * j + 32 ≤ a.length) : dig (a ++ r) j = dig a j := by
  unfold dig
  rw [List.drop_append_of_le_length (by omega), List.take_append_of_le_length (by simp; omega)]

theorem dig_drop (l : List UInt8) (k j : Nat) : dig (l.drop k) j = (l.drop (k + 32 * j)).take 32 := by
  unfold dig
  rw [List.drop_drop]

end Go.Proofs.Qxb6620878a
