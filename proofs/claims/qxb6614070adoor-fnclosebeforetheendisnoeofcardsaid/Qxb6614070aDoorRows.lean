/-
  NARROWER THAN 'FOR EVERY INPUT', by the rows' own cells (each row's printed sentence says how): FnFillDeliversTheAnswerAndItsCopy: laid · FnCloseEndsTheExchangeOnce: laid · FnCloseBeforeTheEndIsNoEOF: laid.
  DERIVED. THE GIVEN ROWS OF THIS SEAT. 3 by the template 'for every input the law returns true; each argument reads behind the call as it read before'; 0 by the template 'total and deterministic' (their statements: Qxb6614070aDoorTotals.lean).
  GIVEN WITH THE SEED: the statements are not yours to turn. If you find one false, say at which input.
  Laid BY PROGRAM, IN A SANDBOX (cutbox-rows.mjs): the forced cells as the released guide's own fill.sh prints them over the translation 2bc5059603e34f61… (all of the seat's roots in one cut). By AI agents, Wed Nov 11 2026. No macro, syntax, notation, axiom, sorry.
-/
import Derived.Test.Qxb6614070aDoorChecked
import GoSem.Claim
import GoSem.ClaimJoined
import GoSem.ClaimMapViews
import Derived.JoinedTies
import Derived.KernelRfl
namespace Go.Proofs.Qxb6614070aDoor
/- THE CELL 'sum', in the pinned program and in every row, IS THE sha256 OF THE DUMP (.gsa) THAT Qxb6614070aDoorProg.lean LOADS. Nothing in Lean hashes anything: it is a label: what it is worth is what the hold of that sum in a sandbox is worth. -/
noncomputable def Tryd.pinned : Pinned := { name := "qxb6614070adoor", sum := "2bc5059603e34f61c08eebd22fb3f68bc8811b071942e1db96ee2a169f992445", checked := Tryd.checked }
namespace Rows
def none {H : Type} : Left H := { results := [], args := [] }

/- WHAT THE LISTED PACKAGE-LEVEL VARIABLES READ AS WHEN THE CALL BEGINS. Each datum BY PROGRAM (the guide's laid-datum.mjs) off the statement by which the dump's own 'gosem.cut.vars' lays the variable. In a bare row this is a premise. The card (Qxb6614070aDoorCards.lean) ties it to the program's text. -/
def laid_io_EOF {H : Type} : DataW H := .iface "*errors.errorString" (.ptr (.agg [.lit (.string [69, 79, 70])]))

/-- 'zzlaws_client_b1.FnFillDeliversTheAnswerAndItsCopy': WHATEVER THE INPUT: true; the input reads as it did. -/
def fnFillDeliversTheAnswerAndItsCopySpec : ChangeSpec := { name := "fnFillDeliversTheAnswerAndItsCopy", fn := fun _ => fun
  | [d1, d2, d3, d4, d5] => { results := [.lit (.bool true)], args := [d1, d2, d3, d4, d5] }
  | _ => none }
def fnFillDeliversTheAnswerAndItsCopyRow : OpenClaim := { program := "qxb6614070adoor", sum := "2bc5059603e34f61c08eebd22fb3f68bc8811b071942e1db96ee2a169f992445", func := "example.com/rollcall/rollcall/zzlaws_client_b1.FnFillDeliversTheAnswerAndItsCopy", spec := "fnFillDeliversTheAnswerAndItsCopy", unfollowed := true, recurses := true, named := ["io.EOF"], apart := false, laid := [("io.EOF", laid_io_EOF)] }
def FnFillDeliversTheAnswerAndItsCopySaid : Prop := fnFillDeliversTheAnswerAndItsCopyRow.holds Tryd.pinned (OpenSpec.ofChange fnFillDeliversTheAnswerAndItsCopySpec)

/-- ITS FALSE NEIGHBOUR: 'it returns false'. Refute it at one input. -/
def fnFillDeliversTheAnswerAndItsCopyWrong : ChangeSpec := { name := "fnFillDeliversTheAnswerAndItsCopy", fn := fun _ => fun
  | [d1, d2, d3, d4, d5] => { results := [.lit (.bool false)], args := [d1, d2, d3, d4, d5] }
  | _ => none }
def FnFillDeliversTheAnswerAndItsCopyWrongFalsely : Prop := fnFillDeliversTheAnswerAndItsCopyRow.holds Tryd.pinned (OpenSpec.ofChange fnFillDeliversTheAnswerAndItsCopyWrong)

/-- 'zzlaws_client_b1.FnCloseEndsTheExchangeOnce': WHATEVER THE INPUT: true; the input reads as it did. -/
def fnCloseEndsTheExchangeOnceSpec : ChangeSpec := { name := "fnCloseEndsTheExchangeOnce", fn := fun _ => fun
  | [d1, d2, d3] => { results := [.lit (.bool true)], args := [d1, d2, d3] }
  | _ => none }
def fnCloseEndsTheExchangeOnceRow : OpenClaim := { program := "qxb6614070adoor", sum := "2bc5059603e34f61c08eebd22fb3f68bc8811b071942e1db96ee2a169f992445", func := "example.com/rollcall/rollcall/zzlaws_client_b1.FnCloseEndsTheExchangeOnce", spec := "fnCloseEndsTheExchangeOnce", inPlace := ["sync/atomic.LoadUint32", "(*internal/sync.Mutex).Lock", "internal/race.Disable", "sync/atomic.CompareAndSwapInt32", "internal/race.Enable", "internal/race.Acquire", "(*internal/sync.Mutex).lockSlow", "internal/sync.runtime_canSpin", "internal/sync.runtime_doSpin", "internal/sync.throw", "internal/sync.runtime_nanotime", "internal/sync.runtime_SemacquireMutex", "sync/atomic.AddInt32", "(*internal/sync.Mutex).Unlock", "internal/race.ReleaseMerge", "(*internal/sync.Mutex).unlockSlow", "internal/sync.fatal", "internal/sync.runtime_Semrelease", "sync/atomic.StoreUint32"], unfollowed := true, recurses := true, named := ["io.EOF"], apart := false, laid := [("io.EOF", laid_io_EOF)] }
def FnCloseEndsTheExchangeOnceSaid : Prop := fnCloseEndsTheExchangeOnceRow.holds Tryd.pinned (OpenSpec.ofChange fnCloseEndsTheExchangeOnceSpec)

/-- ITS FALSE NEIGHBOUR: 'it returns false'. Refute it at one input. -/
def fnCloseEndsTheExchangeOnceWrong : ChangeSpec := { name := "fnCloseEndsTheExchangeOnce", fn := fun _ => fun
  | [d1, d2, d3] => { results := [.lit (.bool false)], args := [d1, d2, d3] }
  | _ => none }
def FnCloseEndsTheExchangeOnceWrongFalsely : Prop := fnCloseEndsTheExchangeOnceRow.holds Tryd.pinned (OpenSpec.ofChange fnCloseEndsTheExchangeOnceWrong)

/-- 'zzlaws_client_b1.FnCloseBeforeTheEndIsNoEOF': WHATEVER THE INPUT: true; the input reads as it did. -/
def fnCloseBeforeTheEndIsNoEOFSpec : ChangeSpec := { name := "fnCloseBeforeTheEndIsNoEOF", fn := fun _ => fun
  | [d1, d2, d3] => { results := [.lit (.bool true)], args := [d1, d2, d3] }
  | _ => none }
def fnCloseBeforeTheEndIsNoEOFRow : OpenClaim := { program := "qxb6614070adoor", sum := "2bc5059603e34f61c08eebd22fb3f68bc8811b071942e1db96ee2a169f992445", func := "example.com/rollcall/rollcall/zzlaws_client_b1.FnCloseBeforeTheEndIsNoEOF", spec := "fnCloseBeforeTheEndIsNoEOF", inPlace := ["sync/atomic.LoadUint32", "(*internal/sync.Mutex).Lock", "internal/race.Disable", "sync/atomic.CompareAndSwapInt32", "internal/race.Enable", "internal/race.Acquire", "(*internal/sync.Mutex).lockSlow", "internal/sync.runtime_canSpin", "internal/sync.runtime_doSpin", "internal/sync.throw", "internal/sync.runtime_nanotime", "internal/sync.runtime_SemacquireMutex", "sync/atomic.AddInt32", "(*internal/sync.Mutex).Unlock", "internal/race.ReleaseMerge", "(*internal/sync.Mutex).unlockSlow", "internal/sync.fatal", "internal/sync.runtime_Semrelease", "sync/atomic.StoreUint32"], unfollowed := true, recurses := true, named := ["io.EOF"], apart := false, laid := [("io.EOF", laid_io_EOF)] }
def FnCloseBeforeTheEndIsNoEOFSaid : Prop := fnCloseBeforeTheEndIsNoEOFRow.holds Tryd.pinned (OpenSpec.ofChange fnCloseBeforeTheEndIsNoEOFSpec)

/-- ITS FALSE NEIGHBOUR: 'it returns false'. Refute it at one input. -/
def fnCloseBeforeTheEndIsNoEOFWrong : ChangeSpec := { name := "fnCloseBeforeTheEndIsNoEOF", fn := fun _ => fun
  | [d1, d2, d3] => { results := [.lit (.bool false)], args := [d1, d2, d3] }
  | _ => none }
def FnCloseBeforeTheEndIsNoEOFWrongFalsely : Prop := fnCloseBeforeTheEndIsNoEOFRow.holds Tryd.pinned (OpenSpec.ofChange fnCloseBeforeTheEndIsNoEOFWrong)

end Rows
end Go.Proofs.Qxb6614070aDoor
