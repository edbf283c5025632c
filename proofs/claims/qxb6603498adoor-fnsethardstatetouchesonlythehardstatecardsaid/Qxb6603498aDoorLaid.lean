/-
  What the listed variables ('laid') give the walks; the world that meets the condition (the door's own run).
-/
import Derived.Test.Qxb6603498aDoorRows
import Derived.ProofKit
import Derived.LaidMore
import Derived.OpenShut
import Derived.Stop.Joined
import Derived.Stop.LaidErr
import Derived.WalkSmall
namespace Go.Proofs.Qxb6603498aDoor
open Go.ChangeShapes Go.WideShapes Go.ChangeAt Go.RowKit

theorem own : ownKnob Tryd.prog.godebug = none := by kernel_rfl
theorem laidOut : laidOutB Tryd.prog = true := by kernel_rfl

/-- The two variables' names, off the given row. -/
abbrev nmC : String := Rows.fnFirstIndexAgreesWithTermRow.named.getD 0 ""
abbrev nmU : String := Rows.fnFirstIndexAgreesWithTermRow.named.getD 1 ""
theorem gC : Tryd.prog.globalNamed nmC = some 0 := by kernel_rfl
theorem gU : Tryd.prog.globalNamed nmU = some 1 := by kernel_rfl
theorem tC : (Tryd.prog.globals[0]?).map (·.type) = some 33 := by kernel_rfl
theorem tU : (Tryd.prog.globals[1]?).map (·.type) = some 33 := by kernel_rfl
theorem cells91 : Tryd.prog.cellsOf 91 = 1 := by kernel_rfl
theorem cells9 : Tryd.prog.cellsOf 9 = 1 := by kernel_rfl

/-- The row's list. -/
abbrev laidList : List (String × DataW Unit) := Rows.fnFirstIndexAgreesWithTermRow.laid

/-- The door's own heap meets the condition. -/
theorem door_met (os : Os) (args : Array Value) : laidMetH Tryd.prog laidList ((World.doorLaid Tryd.prog 47 os).forCall (fun _ _ => 0) ⟨#[], args, []⟩).memory :=
  laidMetH_of_parts3 (fuel := 8) (laidMet_of_run' 8 (by kernel_rfl) (by kernel_rfl)) (by kernel_rfl) (by kernel_rfl)

/-- One type alone bears the name of '*errors.errorString'. -/
theorem row72 (u : TypeId) (x : String) (hx : some x = Tryd.prog.typeName? 3 72) (h : Tryd.prog.typeName? 3 u = some x) : u = 72 :=
  typeName_ptr_named (nm := "errors.errorString") (by kernel_rfl) (by kernel_rfl) (by decide) u (by rw [h, hx]; kernel_rfl)

/-- What the condition gives: each variable holds an error that is not nil. -/
theorem of_laid {W : World} (h : laidMetH Tryd.prog laidList W) :
    ∃ a0 a1 : Addr, W.var? Tryd.prog nmC = some #[.iface 72 (.pointer (some a0))] ∧ W.var? Tryd.prog nmU = some #[.iface 72 (.pointer (some a1))] := by
  rw [MakeChecks.laidMetH_plain _ _ _ (by kernel_rfl)] at h
  have hU : laidMet Tryd.prog ((nmU, _) :: _) W := h
  obtain ⟨a1, _, hv1, _⟩ := laid_sentinel hU gU tU Tryd.underlying33 (fun u hu => row72 u _ (by kernel_rfl) hu) Tryd.underlying72 Tryd.underlying91 rfl rfl Tryd.underlying9 cells91 cells9
  have hC : laidMet Tryd.prog ((nmC, _) :: _) W := h.tail
  obtain ⟨a0, _, hv0, _⟩ := laid_sentinel hC gC tC Tryd.underlying33 (fun u hu => row72 u _ (by kernel_rfl) hu) Tryd.underlying72 Tryd.underlying91 rfl rfl Tryd.underlying9 cells91 cells9
  exact ⟨a0, a1, hv0, hv1⟩
end Go.Proofs.Qxb6603498aDoor
