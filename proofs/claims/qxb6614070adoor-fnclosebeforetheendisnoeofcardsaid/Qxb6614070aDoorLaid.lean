/-
  WHAT THE ROWS' CONDITION (io.EOF reads as listed) GIVES THE WALKS, and a world that meets it (the door's own heap).
-/
import Derived.Test.Qxb6614070aDoorRows
import Derived.ProofKit
import Derived.LaidMore
import Derived.OpenShut
import Derived.ShutString
import Derived.Stop.Joined
import Derived.Stop.LaidErr
namespace Go.Proofs.Qxb6614070aDoor
open Go.ChangeShapes Go.WideShapes Go.ChangeAt Go.RowKit

/-- The rows' one list of listed variables, the name on it, its dynamic type's name. -/
def laidL : List (String × DataW Unit) := Rows.fnCloseEndsTheExchangeOnceRow.laid
def eofName : String := Rows.fnCloseEndsTheExchangeOnceRow.named.headD ""
def ptrName : String := match (Rows.laid_io_EOF : DataW Unit) with
  | .iface nm _ => nm
  | _ => ""
theorem laidL_eq : laidL = [(eofName, .iface ptrName (.ptr (.agg [.lit (.string [69, 79, 70])])))] := rfl

theorem own : ownKnob Tryd.prog.godebug = none := by kernel_rfl
theorem laidOut : laidOutB Tryd.prog = true := by kernel_rfl
theorem gEOF : Tryd.prog.globalNamed eofName = some 0 := by kernel_rfl
theorem tEOF : (Tryd.prog.globals[0]?).map (·.type) = some 31 := by kernel_rfl
theorem cells135 : Tryd.prog.cellsOf 135 = 1 := by kernel_rfl
theorem cells9 : Tryd.prog.cellsOf 9 = 1 := by kernel_rfl
theorem row111 (u : TypeId) (h : Tryd.prog.typeName? 3 u = some ptrName) : u = 111 :=
  typeName_ptr_named (nm := "errors.errorString") (by kernel_rfl) (by kernel_rfl) (by decide) u (h.trans (by kernel_rfl))

/-- The door's own heap meets the condition. -/
theorem door_met (os : Os) (args : Array Value) : laidMetH Tryd.prog laidL ((World.doorLaid Tryd.prog 400 os).forCall (fun _ _ => 0) ⟨#[], args, []⟩).memory :=
  laidMetH_of_parts3 (fuel := 8) (laidMet_of_run' 8 (by kernel_rfl) (by kernel_rfl)) (by kernel_rfl) (by kernel_rfl)

theorem of_laid {W : World} (h : laidMetH Tryd.prog laidL W) : ∃ a0 : Addr, W.cell? ⟨0, 0, none⟩ = some (.iface 111 (.pointer (some a0))) := by
  rw [MakeChecks.laidMetH_plain _ _ _ (by kernel_rfl), laidL_eq] at h
  obtain ⟨a0, s0, hv0, _, _, _⟩ := laid_sentinel h gEOF tEOF Tryd.underlying31 row111 Tryd.underlying111 Tryd.underlying135 rfl rfl Tryd.underlying9 cells135 cells9
  exact ⟨a0, by simpa using World.var?_cell gEOF hv0 0⟩
end Go.Proofs.Qxb6614070aDoor
