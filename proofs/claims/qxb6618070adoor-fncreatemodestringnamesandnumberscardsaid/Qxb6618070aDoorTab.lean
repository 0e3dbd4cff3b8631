/-
  What the rows' listed variables give the walks (the table of powers of ten), and a start that meets the condition (the door's own heap).
-/
import Derived.Test.Qxb6618070aDoorShelf
import Derived.Lib.LaidTab
import Derived.WalkKit
import Derived.ProofKit
import Derived.LaidMore
import Derived.OpenShut
import Derived.Stop.Joined
import Derived.Stop.LaidErr
import Derived.ChangeOld
namespace Go.Proofs.Qxb6618070aDoor
open Go.ChangeShapes Go.WideShapes Go.ChangeAt Go.RowKit

theorem own : ownKnob Tryd.prog.godebug = none := by kernel_rfl
theorem laidOut : laidOutB Tryd.prog = true := by kernel_rfl

/-- What the row lists. -/
def laid3 : List (String × DataW Unit) := Rows.fnCreateModeStringNamesAndNumbersRow.laid

theorem door_met (os : Os) (args : Array Value) : laidMetH Tryd.prog laid3 ((World.doorLaid Tryd.prog 400 os).forCall (fun _ _ => 0) ⟨#[], args, []⟩).memory :=
  laidMetH_of_parts3 (fuel := 8) (laidMet_of_run' 8 (by kernel_rfl) (by kernel_rfl)) (by kernel_rfl) (by kernel_rfl)

theorem tab_data : (Rows.laid_internal_strconv_uint64pow10 : DataW Unit) = Lib.tabData .u64 Lib.pow10Tab := by rfl

theorem of_laid {W : World} (h : laidMetH Tryd.prog laid3 W) : Lib.TabIs Tryd.prog W powName .u64 Lib.pow10Tab := by
  rw [MakeChecks.laidMetH_plain _ _ _ (by kernel_rfl)] at h
  have h2 : laidMet Tryd.prog [(powName, Rows.laid_internal_strconv_uint64pow10)] W := laidMet.tail (laidMet.tail h)
  rw [tab_data] at h2
  exact Lib.tabIs_of_head (g := 0) (t := 40) (e := 30) (n := 20) (by kernel_rfl) (by kernel_rfl) Tryd.underlying40 Tryd.underlying30 (by kernel_rfl) (by kernel_rfl) h2
end Go.Proofs.Qxb6618070aDoor
