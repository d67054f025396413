/- From the row's condition on the listed tables to what the walks ask; the witness. -/
import Derived.Test.Qxb6602709aDoorShelf
import Derived.Test.Qxb6602709aDoorTie
import Derived.ProofKit
import Derived.LaidMore
import Derived.OpenShut
import Derived.Stop.Joined
import Derived.Stop.LaidErr
import Derived.Lib.LaidTab
import Derived.Lib.ItoaNum
namespace Go.Proofs.Qxb6602709aDoor
open Go.ChangeShapes Go.WideShapes Go.ChangeAt Go.RowKit

theorem own : ownKnob Tryd.prog.godebug = none := by kernel_rfl
theorem laidOut : laidOutB Tryd.prog = true := by kernel_rfl

/-- the row's list -/
def laid3 : List (String × DataW Unit) := Rows.fnAppendLengthWritesDecimalAndColonRow.laid

theorem tab_of_laid {W : World} (h : laidMetH Tryd.prog laid3 W) : Lib.TabIs Tryd.prog W tabName .u64 Lib.pow10Tab := by
  rw [MakeChecks.laidMetH_plain _ _ _ (by kernel_rfl)] at h
  have h2 := laidMet.tail (laidMet.tail h)
  have h3 : laidMet Tryd.prog [(tabName, Lib.tabData .u64 Lib.pow10Tab)] W := h2
  exact Lib.tabIs_of_head (g := 0) (t := 47) (e := 27) (n := 20) (by kernel_rfl) (by kernel_rfl) Tryd.underlying47 Tryd.underlying27 (by kernel_rfl) (by kernel_rfl) h3

theorem door_met (os : Os) (args : Array Value) : laidMetH Tryd.prog laid3 ((World.doorLaid Tryd.prog 24 os).forCall (fun _ _ => 0) ⟨#[], args, []⟩).memory :=
  laidMetH_of_parts3 (fuel := 8) (laidMet_of_run' 8 (by kernel_rfl) (by kernel_rfl)) (by kernel_rfl) (by kernel_rfl)
end Go.Proofs.Qxb6602709aDoor
