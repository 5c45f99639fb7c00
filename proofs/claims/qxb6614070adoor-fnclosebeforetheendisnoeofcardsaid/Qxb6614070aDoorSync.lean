/-
  sync.Once's parts at this program, ONE GOROUTINE: the lock, the two deferred calls (after the guide's worked text on sync.Once).
-/
import Derived.Test.Qxb6614070aDoorRows
import Derived.WalkKit
import Derived.WalkSpells
import Derived.WalkLawsBesides
import Derived.Defers
import Derived.RegionTactic
import Derived.RegionCalls
import Derived.Deep.OwnRows
import Derived.Conc.MuLone
namespace Go.Proofs.Qxb6614070aDoor
open Go.RowKit

/-- The numbers under which this program holds sync.Mutex's functions and types, and that it holds them. -/
abbrev muLink : Go.Conc.Locks.MuLink := { lock := 31, unlock := 32, ilock := 34, iunlock := 35, lockSlow := 42, unlockSlow := 45, disable := 38, enable := 40, acquire := 41, relMerge := 43, cas32 := 39, add32 := 44, tMutex := 78, tIMutex := 76, tPMutex := 96, tPIMutex := 99, tPI32 := 101, tUP := 103, tNoCopy := 70, tU32 := 72 }
theorem muLib : Go.Conc.Locks.MuLib Tryd.prog muLink :=
  ⟨Tryd.func31, Tryd.func32, Tryd.func34, Tryd.func35, Tryd.func38, Tryd.func40, Tryd.func41, Tryd.func43, Tryd.func39, Tryd.func44, Tryd.underlying76, Tryd.runUnderlying76, Tryd.sizeOf76, Tryd.isAgg76, Tryd.zeroValue76, Tryd.underlying78, Tryd.runUnderlying78, Tryd.sizeOf78, Tryd.isAgg78, Tryd.zeroValue78, Tryd.underlying96, Tryd.runUnderlying96, Tryd.sizeOf96, Tryd.isAgg96, Tryd.zeroValue96, Tryd.underlying99, Tryd.runUnderlying99, Tryd.sizeOf99, Tryd.isAgg99, Tryd.zeroValue99, Tryd.underlying101, Tryd.runUnderlying101, Tryd.sizeOf101, Tryd.isAgg101, Tryd.zeroValue101, Tryd.underlying103, Tryd.runUnderlying103, Tryd.sizeOf103, Tryd.isAgg103, Tryd.zeroValue103, Tryd.underlying70, Tryd.runUnderlying70, Tryd.sizeOf70, Tryd.isAgg70, Tryd.zeroValue70, Tryd.underlying21, Tryd.runUnderlying21, Tryd.sizeOf21, Tryd.isAgg21, Tryd.zeroValue21, (by kernel_rfl)⟩

/-- '(*sync/atomic.Bool).Store(true)', entered as a deferred call. -/
theorem store_deferred (a : Addr) (x : Value) (u : FrameMode) (w : World) (hc : w.cell? a = some x) (hz : w.frozen? a = false) :
    CallsD Tryd.prog 33 #[.pointer (some a), .bool true] u w fun e u' w' => u' = u ∧ (e = .returned (.tuple #[]) ∧ w' = w.drew.setCell a (.int .u32 1)) := by
  have hc' : w.drew.cell? a = some x := by go_simp
  have hz' : w.drew.frozen? a = false := by go_simp
  have hst := run_call_store (P := Tryd.prog) Tryd.func36 (by kernel_rfl) (by kernel_rfl) (by kernel_rfl) (by kernel_rfl) (k := .u32) (y := 1) hc' hz'
  go_enter_d Tryd.func33, Tryd.ntmps33
  go_wp2
  go_region_calls
  all_goals (go_end0; exact ⟨rfl, rfl⟩)

/-- '(*sync.Mutex).Unlock', entered as a deferred call, the lock held and nobody waiting. -/
theorem unlock_deferred (a : Addr) (u : FrameMode) (w : World) (hc : w.cell? a = some (.int .i32 1)) (hz : w.frozen? a = false) :
    CallsD Tryd.prog 32 #[.pointer (some a)] u w fun e u' w' => u' = u ∧ (e = .returned (.tuple #[]) ∧ w' = w.setCell a (.int .i32 0)) :=
  Go.MuLone.unlock_deferred muLib a u w hc hz

/-- '(*sync.Mutex).Lock', the lock free. -/
theorem lock_free (a : Addr) (w : World) (hc : w.cell? a = some (.int .i32 0)) (hz : w.frozen? a = false) :
    Calls Tryd.prog 31 #[.pointer (some a)] w fun e w' => e = .returned (.tuple #[]) ∧ w' = w.setCell a (.int .i32 1) :=
  Go.MuLone.lock_free muLib a w hc hz
end Go.Proofs.Qxb6614070aDoor
