/-
  SEAT b6632442aD: what the row's condition on the listed tables gives: the table of powers of ten; and that the door's own heap meets it.
-/
import Derived.Test.Qxb6632442aDoorWalk4
import Derived.Test.Qxb6632442aDoorTie
import Derived.ProofKit
import Derived.LaidMore
import Derived.OpenShut
import Derived.Stop.LaidErr
import Derived.Stop.Joined
import Derived.Lib.LaidTab
namespace Go.Proofs.Qxb6632442aDoor
open Go Go.ChangeShapes Go.WideShapes Go.ChangeAt Go.WideMaps Go.WideElems Go.RowKit

theorem own : ownKnob Tryd.prog.godebug = none := by kernel_rfl
theorem laidOut : laidOutB Tryd.prog = true := by kernel_rfl
/-- The row's list. -/
abbrev laid3 : List (String × DataW Unit) := Rows.fnProblemStringDecodesBackExactlyRow.laid

theorem gTab : Tryd.prog.globalNamed tabName = some 0 := by kernel_rfl
theorem tTab : (Tryd.prog.globals[0]?).map (·.type) = some 43 := by kernel_rfl
theorem cells31 : Tryd.prog.cellsOf 31 = 1 := by kernel_rfl
theorem cells43 : Tryd.prog.cellsOf 43 = 20 := by kernel_rfl
theorem tab_data : (Rows.laid_internal_strconv_uint64pow10 : DataW Unit) = Lib.tabData .u64 Lib.pow10Tab := by kernel_rfl

/-- The door's own heap meets the condition. -/
theorem door_met (os : Os) (args : Array Value) : laidMetH Tryd.prog laid3 ((World.doorLaid Tryd.prog 24 os).forCall (fun _ _ => 0) ⟨#[], args, []⟩).memory :=
  laidMetH_of_parts3 (fuel := 8) (laidMet_of_run' 8 (by kernel_rfl) (by kernel_rfl)) (by kernel_rfl) (by kernel_rfl)

theorem tab_of_laid {W : World} (h : laidMetH Tryd.prog laid3 W) : TabOk W := by
  rw [MakeChecks.laidMetH_plain _ _ _ (by kernel_rfl)] at h
  have h2 : laidMet Tryd.prog [(tabName, Rows.laid_internal_strconv_uint64pow10)] W := h.tail.tail
  rw [tab_data] at h2
  exact Lib.tabIs_of_head gTab tTab Tryd.underlying43 Tryd.underlying31 cells31 cells43 h2

end Go.Proofs.Qxb6632442aDoor
