import Derived.Test.Qxb6000062aDoorRows
import Derived.ProofKit
import Derived.LaidMore
import Derived.OpenShut
import Derived.Stop.Joined
import Derived.Stop.LaidErr
import Derived.Lib.LaidTab
import Derived.Lib.ItoaNum
/-! What the five rows' listed tables give the walks; the witness' world. -/
namespace Go.Proofs.Qxb6000062aDoor.pm
open Go Go.RowKit Go.Lib

/-- the name of the table of powers of ten, as the rows list it -/
abbrev tabName : String := Rows.fnAppendPaddedIsZeroFilledDecimalRow.named.headD ""
abbrev laid3 : List (String × DataW Unit) := Rows.fnAppendPaddedIsZeroFilledDecimalRow.laid

theorem own : ownKnob Tryd.prog.godebug = none := by kernel_rfl
theorem laidOut : laidOutB Tryd.prog = true := by kernel_rfl
theorem gTab : Tryd.prog.globalNamed tabName = some 0 := by kernel_rfl
theorem tTab : (Tryd.prog.globals[0]?).map (·.type) = some 64 := by kernel_rfl
theorem cells35 : Tryd.prog.cellsOf 35 = 1 := by kernel_rfl
theorem cells64 : Tryd.prog.cellsOf 64 = 20 := by kernel_rfl
theorem laid_split : laid3 = [(laid3.getD 0 ("", .nil)), (laid3.getD 1 ("", .nil)), (tabName, tabData .u64 pow10Tab)] := by kernel_rfl

/-- WHAT THE CONDITION GIVES THE WALKS: the table of powers of ten. -/
theorem of_laid {W : World} (h : laidMetH Tryd.prog laid3 W) : TabIs Tryd.prog W tabName .u64 pow10Tab := by
  rw [MakeChecks.laidMetH_plain _ _ _ (by kernel_rfl), laid_split] at h
  exact tabIs_of_head gTab tTab Tryd.underlying64 Tryd.underlying35 cells35 cells64 h.tail.tail

/-- The door's own heap meets the condition. -/
theorem door_met (os : Os) (args : Array Value) : laidMetH Tryd.prog laid3 ((World.doorLaid Tryd.prog 24 os).forCall (fun _ _ => 0) ⟨#[], args, []⟩).memory :=
  laidMetH_of_parts3 (fuel := 8) (laidMet_of_run' 8 (by kernel_rfl) (by kernel_rfl)) (by kernel_rfl) (by kernel_rfl)
end Go.Proofs.Qxb6000062aDoor.pm
