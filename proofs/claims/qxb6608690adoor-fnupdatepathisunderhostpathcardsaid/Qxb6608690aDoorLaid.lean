/-
  WHAT THE ROWS' CONDITION ('net/url.table' reads as listed) GIVES THE WALKS, and a world that meets it (the door's own heap).
-/
import Derived.Test.Qxb6608690aDoorRows
import Derived.Test.Qxb6608690aDoorMid
import Derived.ProofKit
import Derived.LaidMore
import Derived.OpenShut
import Derived.ShutString
import Derived.Stop.Joined
import Derived.Lib.LaidTab
namespace Go.Proofs.Qxb6608690aDoor
open Go.ChangeShapes Go.WideShapes Go.ChangeAt Go.RowKit

/-- The rows' one list of listed variables, and the name on it (net url.table). -/
def laidL : List (String × DataW Unit) := Rows.fnHostPathTellsHostsApartRow.laid
def tabName : String := Rows.fnHostPathTellsHostsApartRow.named.headD ""

theorem own : ownKnob Tryd.prog.godebug = none := by kernel_rfl
theorem laidOut : laidOutB Tryd.prog = true := by kernel_rfl
theorem gTab : Tryd.prog.globalNamed tabName = some 0 := by kernel_rfl
theorem tTab : (Tryd.prog.globals[0]?).map (·.type) = some 35 := by kernel_rfl
theorem cells30 : Tryd.prog.cellsOf 30 = 1 := by kernel_rfl
theorem cells35 : Tryd.prog.cellsOf 35 = 256 := by kernel_rfl
set_option maxRecDepth 100000 in
theorem laid_eq {H : Type} : (Rows.laid_net_url_table : DataW H) = Lib.tabData .u8 tabL := rfl

theorem laidL_eq : laidL = [(tabName, Lib.tabData .u8 tabL)] := by
  have e : laidL = [(tabName, Rows.laid_net_url_table)] := rfl
  rw [e, laid_eq]
theorem tabL_len : tabL.length = 256 := by kernel_rfl

/-- The door's own heap meets the condition. -/
theorem door_met (os : Os) (args : Array Value) : laidMetH Tryd.prog laidL ((World.doorLaid Tryd.prog 400 os).forCall (fun _ _ => 0) ⟨#[], args, []⟩).memory :=
  laidMetH_of_parts3 (fuel := 8) (laidMet_of_run' 8 (by kernel_rfl) (by kernel_rfl)) (by kernel_rfl) (by kernel_rfl)

theorem of_laid {W : World} (h : laidMetH Tryd.prog laidL W) : Tab W ∧ 0 < W.heap.size := by
  rw [MakeChecks.laidMetH_plain _ _ _ (by kernel_rfl), laidL_eq] at h
  have hT : Lib.TabIs Tryd.prog W tabName .u8 tabL := Lib.tabIs_of_head gTab tTab Tryd.underlying35 Tryd.underlying30 cells30 cells35 h
  have ht : Tab W := fun n hn => hT.cell gTab n (by rw [tabL_len]; exact hn)
  exact ⟨ht, World.block_lt_of_cell? W ⟨0, 0, none⟩ (ht 0 (by decide))⟩
end Go.Proofs.Qxb6608690aDoor
