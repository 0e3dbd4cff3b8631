/-
  DERIVED: THE SHELF's CONTRACTS AT THIS DUMP, IN PLAIN WORDS (tools/lay-plain.mjs out of 'Qxb6620878aShelf.lean', which tools/lay-shelf.mjs wrote): THE SAME DECLARATIONS UNDER THE SAME NAMES: 'import', 'namespace', 'open', 'def', 'theorem' AND NOTHING ELSE: no command of the shelf's: FOR A HAND-IN. Each laying: the table of numbers ('.._ren') and one theorem, a field a fact of the dump's own or the kernel's comparison; each contract: ONE APPLICATION.
-/
import Derived.Ground.MnProg
import Derived.Shelf.Bin.Uvarint
import Derived.Shelf.Bin.UvarintEmpty
import Derived.Test.Qxb6620878aProg
namespace Go.Proofs
open Go.Shelf
def Try.laysBin45_ren : Go.Shelf.Ren := ⟨fun | 45 => 24 | n => n, fun | 22 => 22 | 33 => 32 | 3 => 3 | 45 => 23 | 0 => 0 | 5 => 5 | 4 => 4 | n => n, fun | n => n⟩
theorem Try.laysBin45 : Go.Proofs.LaysBin.n45 Try.prog Try.laysBin45_ren := {
  mixed := by kernel_rfl
  f45 := Try.func24.trans (congrArg some (by kernel_rfl))
  t0 := Try.underlying0
  a0 := Try.isAgg0
  z0 := Try.sizeOf0
  v0 := Try.zeroValue0
  i0 := by kernel_rfl
  t3 := Try.underlying3
  a3 := Try.isAgg3
  z3 := Try.sizeOf3
  v3 := Try.zeroValue3
  i3 := by kernel_rfl
  t4 := Try.underlying4
  a4 := Try.isAgg4
  z4 := Try.sizeOf4
  v4 := Try.zeroValue4
  i4 := by kernel_rfl
  t5 := Try.underlying5
  a5 := Try.isAgg5
  z5 := Try.sizeOf5
  v5 := Try.zeroValue5
  i5 := by kernel_rfl
  t22 := Try.underlying22
  a22 := Try.isAgg22
  z22 := Try.sizeOf22
  v22 := Try.zeroValue22
  i22 := by kernel_rfl
  t33 := Try.underlying32
  a33 := Try.isAgg32
  z33 := Try.sizeOf32
  v33 := Try.zeroValue32
  i33 := by kernel_rfl
  t45 := Try.underlying23
  a45 := Try.isAgg23
  z45 := Try.sizeOf23
  v45 := Try.zeroValue23
  i45 := by kernel_rfl }
open Go.RowKit in
/-- binary.Uvarint: "Uvarint decodes a uint64 from buf and returns that value and the number of bytes read (> 0). If an error occurred, the value is 0 and the number of bytes n is <= 0 meaning: n == 0: buf too small; n < 0: value larger than 64 bits (overflow) and -n is the number of bytes read.": 'Lib.uvarintDec' OF buf's BYTES, both results. The world is as it was. (LAID: no walk: one application.) -/
theorem Try.binary_Uvarint (g o n c : Nat) (l : List UInt8) (w : World) (hl : l.length = n) (hcell : ∀ j (hj : j < l.length), w.cell? ⟨g, o + j, none⟩ = some (.int .u8 (l[j]).toNat)) :
    Calls Try.prog 24 #[.slice (some ⟨g, o, none⟩) n c] w fun e w' => e = .returned (.tuple #[.int .u64 (Lib.uvarintDec l).1, .int .i64 (Lib.uvarintDec l).2]) ∧ w' = w := Any.binary_Uvarint Try.laysBin45 g o n c l w hl hcell
open Go.RowKit in
/-- binary.Uvarint AT A SLICE WITHOUT ELEMENTS, nil too: (0, 0): "buf too small": 'Lib.uvarintDec []'. The world is as it was. (LAID: no walk: one application.) -/
theorem Try.binary_Uvarint_empty (ao : Option Addr) (c : Nat) (w : World) :
    Calls Try.prog 24 #[.slice ao 0 c] w fun e w' => e = .returned (.tuple #[.int .u64 (Lib.uvarintDec []).1, .int .i64 (Lib.uvarintDec []).2]) ∧ w' = w := Any.binary_Uvarint_empty Try.laysBin45 ao c w
end Go.Proofs
