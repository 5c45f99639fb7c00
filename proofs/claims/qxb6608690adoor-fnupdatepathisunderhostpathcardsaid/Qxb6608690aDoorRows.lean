/-
  NARROWER THAN 'FOR EVERY INPUT', by the rows' own cells (each row's printed sentence says how): FnHostPathIsCanonicalEscapeOfHost: laid · FnHostPathTellsHostsApart: laid · FnUpdatePathIsUnderHostPath: laid · FnUpdatePathNeverADeletePath: laid.
  DERIVED. THE GIVEN ROWS OF THIS SEAT. 4 by the template 'for every input the law returns true; each argument reads behind the call as it read before'; 0 by the template 'total and deterministic' (their statements: Qxb6608690aDoorTotals.lean).
  GIVEN WITH THE SEED: the statements are not yours to turn. If you find one false, say at which input.
  Laid BY PROGRAM, IN A SANDBOX (cutbox-rows.mjs): the forced cells as the released guide's own fill.sh prints them over the translation 1159f547232d9e62… (all of the seat's roots in one cut). By AI agents, Wed Nov 11 2026. No macro, syntax, notation, axiom, sorry.
-/
import Derived.Test.Qxb6608690aDoorChecked
import GoSem.Claim
import GoSem.ClaimJoined
import GoSem.ClaimMapViews
import Derived.JoinedTies
import Derived.KernelRfl
namespace Go.Proofs.Qxb6608690aDoor
/- THE CELL 'sum', in the pinned program and in every row, IS THE sha256 OF THE DUMP (.gsa) THAT Qxb6608690aDoorProg.lean LOADS. Nothing in Lean hashes anything: it is a label: what it is worth is what the hold of that sum in a sandbox is worth. -/
noncomputable def Tryd.pinned : Pinned := { name := "qxb6608690adoor", sum := "1159f547232d9e62a477ab230b7f665374c3247742f25a87ff0ee01d85ce3dd0", checked := Tryd.checked }
namespace Rows
def none {H : Type} : Left H := { results := [], args := [] }

/- WHAT THE LISTED PACKAGE-LEVEL VARIABLES READ AS WHEN THE CALL BEGINS. Each datum BY PROGRAM (the guide's laid-datum.mjs) off the statement by which the dump's own 'gosem.cut.vars' lays the variable. In a bare row this is a premise. The card (Qxb6608690aDoorCards.lean) ties it to the program's text. -/
def laid_net_url_table {H : Type} : DataW H := .agg [.lit (.int .u8 0), .lit (.int .u8 0), .lit (.int .u8 0), .lit (.int .u8 0), .lit (.int .u8 0), .lit (.int .u8 0), .lit (.int .u8 0), .lit (.int .u8 0), .lit (.int .u8 0), .lit (.int .u8 0), .lit (.int .u8 0), .lit (.int .u8 0), .lit (.int .u8 0), .lit (.int .u8 0), .lit (.int .u8 0), .lit (.int .u8 0), .lit (.int .u8 0), .lit (.int .u8 0), .lit (.int .u8 0), .lit (.int .u8 0), .lit (.int .u8 0), .lit (.int .u8 0), .lit (.int .u8 0), .lit (.int .u8 0), .lit (.int .u8 0), .lit (.int .u8 0), .lit (.int .u8 0), .lit (.int .u8 0), .lit (.int .u8 0), .lit (.int .u8 0), .lit (.int .u8 0), .lit (.int .u8 0), .lit (.int .u8 0), .lit (.int .u8 76), .lit (.int .u8 12), .lit (.int .u8 0), .lit (.int .u8 95), .lit (.int .u8 0), .lit (.int .u8 95), .lit (.int .u8 12), .lit (.int .u8 76), .lit (.int .u8 76), .lit (.int .u8 76), .lit (.int .u8 95), .lit (.int .u8 93), .lit (.int .u8 127), .lit (.int .u8 127), .lit (.int .u8 65), .lit (.int .u8 255), .lit (.int .u8 255), .lit (.int .u8 255), .lit (.int .u8 255), .lit (.int .u8 255), .lit (.int .u8 255), .lit (.int .u8 255), .lit (.int .u8 255), .lit (.int .u8 255), .lit (.int .u8 255), .lit (.int .u8 79), .lit (.int .u8 93), .lit (.int .u8 12), .lit (.int .u8 95), .lit (.int .u8 12), .lit (.int .u8 64), .lit (.int .u8 67), .lit (.int .u8 255), .lit (.int .u8 255), .lit (.int .u8 255), .lit (.int .u8 255), .lit (.int .u8 255), .lit (.int .u8 255), .lit (.int .u8 127), .lit (.int .u8 127), .lit (.int .u8 127), .lit (.int .u8 127), .lit (.int .u8 127), .lit (.int .u8 127), .lit (.int .u8 127), .lit (.int .u8 127), .lit (.int .u8 127), .lit (.int .u8 127), .lit (.int .u8 127), .lit (.int .u8 127), .lit (.int .u8 127), .lit (.int .u8 127), .lit (.int .u8 127), .lit (.int .u8 127), .lit (.int .u8 127), .lit (.int .u8 127), .lit (.int .u8 127), .lit (.int .u8 127), .lit (.int .u8 12), .lit (.int .u8 0), .lit (.int .u8 12), .lit (.int .u8 0), .lit (.int .u8 127), .lit (.int .u8 0), .lit (.int .u8 255), .lit (.int .u8 255), .lit (.int .u8 255), .lit (.int .u8 255), .lit (.int .u8 255), .lit (.int .u8 255), .lit (.int .u8 127), .lit (.int .u8 127), .lit (.int .u8 127), .lit (.int .u8 127), .lit (.int .u8 127), .lit (.int .u8 127), .lit (.int .u8 127), .lit (.int .u8 127), .lit (.int .u8 127), .lit (.int .u8 127), .lit (.int .u8 127), .lit (.int .u8 127), .lit (.int .u8 127), .lit (.int .u8 127), .lit (.int .u8 127), .lit (.int .u8 127), .lit (.int .u8 127), .lit (.int .u8 127), .lit (.int .u8 127), .lit (.int .u8 127), .lit (.int .u8 0), .lit (.int .u8 0), .lit (.int .u8 0), .lit (.int .u8 127), .lit (.int .u8 0), .lit (.int .u8 0), .lit (.int .u8 0), .lit (.int .u8 0), .lit (.int .u8 0), .lit (.int .u8 0), .lit (.int .u8 0), .lit (.int .u8 0), .lit (.int .u8 0), .lit (.int .u8 0), .lit (.int .u8 0), .lit (.int .u8 0), .lit (.int .u8 0), .lit (.int .u8 0), .lit (.int .u8 0), .lit (.int .u8 0), .lit (.int .u8 0), .lit (.int .u8 0), .lit (.int .u8 0), .lit (.int .u8 0), .lit (.int .u8 0), .lit (.int .u8 0), .lit (.int .u8 0), .lit (.int .u8 0), .lit (.int .u8 0), .lit (.int .u8 0), .lit (.int .u8 0), .lit (.int .u8 0), .lit (.int .u8 0), .lit (.int .u8 0), .lit (.int .u8 0), .lit (.int .u8 0), .lit (.int .u8 0), .lit (.int .u8 0), .lit (.int .u8 0), .lit (.int .u8 0), .lit (.int .u8 0), .lit (.int .u8 0), .lit (.int .u8 0), .lit (.int .u8 0), .lit (.int .u8 0), .lit (.int .u8 0), .lit (.int .u8 0), .lit (.int .u8 0), .lit (.int .u8 0), .lit (.int .u8 0), .lit (.int .u8 0), .lit (.int .u8 0), .lit (.int .u8 0), .lit (.int .u8 0), .lit (.int .u8 0), .lit (.int .u8 0), .lit (.int .u8 0), .lit (.int .u8 0), .lit (.int .u8 0), .lit (.int .u8 0), .lit (.int .u8 0), .lit (.int .u8 0), .lit (.int .u8 0), .lit (.int .u8 0), .lit (.int .u8 0), .lit (.int .u8 0), .lit (.int .u8 0), .lit (.int .u8 0), .lit (.int .u8 0), .lit (.int .u8 0), .lit (.int .u8 0), .lit (.int .u8 0), .lit (.int .u8 0), .lit (.int .u8 0), .lit (.int .u8 0), .lit (.int .u8 0), .lit (.int .u8 0), .lit (.int .u8 0), .lit (.int .u8 0), .lit (.int .u8 0), .lit (.int .u8 0), .lit (.int .u8 0), .lit (.int .u8 0), .lit (.int .u8 0), .lit (.int .u8 0), .lit (.int .u8 0), .lit (.int .u8 0), .lit (.int .u8 0), .lit (.int .u8 0), .lit (.int .u8 0), .lit (.int .u8 0), .lit (.int .u8 0), .lit (.int .u8 0), .lit (.int .u8 0), .lit (.int .u8 0), .lit (.int .u8 0), .lit (.int .u8 0), .lit (.int .u8 0), .lit (.int .u8 0), .lit (.int .u8 0), .lit (.int .u8 0), .lit (.int .u8 0), .lit (.int .u8 0), .lit (.int .u8 0), .lit (.int .u8 0), .lit (.int .u8 0), .lit (.int .u8 0), .lit (.int .u8 0), .lit (.int .u8 0), .lit (.int .u8 0), .lit (.int .u8 0), .lit (.int .u8 0), .lit (.int .u8 0), .lit (.int .u8 0), .lit (.int .u8 0), .lit (.int .u8 0), .lit (.int .u8 0), .lit (.int .u8 0), .lit (.int .u8 0), .lit (.int .u8 0), .lit (.int .u8 0), .lit (.int .u8 0), .lit (.int .u8 0), .lit (.int .u8 0), .lit (.int .u8 0), .lit (.int .u8 0), .lit (.int .u8 0), .lit (.int .u8 0), .lit (.int .u8 0), .lit (.int .u8 0), .lit (.int .u8 0), .lit (.int .u8 0), .lit (.int .u8 0)]

/-- 'zzlaws_api_b1.FnHostPathIsCanonicalEscapeOfHost': WHATEVER THE INPUT: true; the input reads as it did. -/
def fnHostPathIsCanonicalEscapeOfHostSpec : ChangeSpec := { name := "fnHostPathIsCanonicalEscapeOfHost", fn := fun _ => fun
  | [d] => { results := [.lit (.bool true)], args := [d] }
  | _ => none }
def fnHostPathIsCanonicalEscapeOfHostRow : OpenClaim := { program := "qxb6608690adoor", sum := "1159f547232d9e62a477ab230b7f665374c3247742f25a87ff0ee01d85ce3dd0", func := "example.com/ecdys/ecdys/zzlaws_api_b1.FnHostPathIsCanonicalEscapeOfHost", spec := "fnHostPathIsCanonicalEscapeOfHost", named := ["net/url.table"], apart := false, laid := [("net/url.table", laid_net_url_table)] }
def FnHostPathIsCanonicalEscapeOfHostSaid : Prop := fnHostPathIsCanonicalEscapeOfHostRow.holds Tryd.pinned (OpenSpec.ofChange fnHostPathIsCanonicalEscapeOfHostSpec)

/-- ITS FALSE NEIGHBOUR: 'it returns false'. Refute it at one input. -/
def fnHostPathIsCanonicalEscapeOfHostWrong : ChangeSpec := { name := "fnHostPathIsCanonicalEscapeOfHost", fn := fun _ => fun
  | [d] => { results := [.lit (.bool false)], args := [d] }
  | _ => none }
def FnHostPathIsCanonicalEscapeOfHostWrongFalsely : Prop := fnHostPathIsCanonicalEscapeOfHostRow.holds Tryd.pinned (OpenSpec.ofChange fnHostPathIsCanonicalEscapeOfHostWrong)

/-- 'zzlaws_api_b1.FnHostPathTellsHostsApart': WHATEVER THE INPUT: true; the input reads as it did. -/
def fnHostPathTellsHostsApartSpec : ChangeSpec := { name := "fnHostPathTellsHostsApart", fn := fun _ => fun
  | [d1, d2] => { results := [.lit (.bool true)], args := [d1, d2] }
  | _ => none }
def fnHostPathTellsHostsApartRow : OpenClaim := { program := "qxb6608690adoor", sum := "1159f547232d9e62a477ab230b7f665374c3247742f25a87ff0ee01d85ce3dd0", func := "example.com/ecdys/ecdys/zzlaws_api_b1.FnHostPathTellsHostsApart", spec := "fnHostPathTellsHostsApart", named := ["net/url.table"], apart := false, laid := [("net/url.table", laid_net_url_table)] }
def FnHostPathTellsHostsApartSaid : Prop := fnHostPathTellsHostsApartRow.holds Tryd.pinned (OpenSpec.ofChange fnHostPathTellsHostsApartSpec)

/-- ITS FALSE NEIGHBOUR: 'it returns false'. Refute it at one input. -/
def fnHostPathTellsHostsApartWrong : ChangeSpec := { name := "fnHostPathTellsHostsApart", fn := fun _ => fun
  | [d1, d2] => { results := [.lit (.bool false)], args := [d1, d2] }
  | _ => none }
def FnHostPathTellsHostsApartWrongFalsely : Prop := fnHostPathTellsHostsApartRow.holds Tryd.pinned (OpenSpec.ofChange fnHostPathTellsHostsApartWrong)

/-- 'zzlaws_api_b1.FnUpdatePathIsUnderHostPath': WHATEVER THE INPUT: true; the input reads as it did. -/
def fnUpdatePathIsUnderHostPathSpec : ChangeSpec := { name := "fnUpdatePathIsUnderHostPath", fn := fun _ => fun
  | [d] => { results := [.lit (.bool true)], args := [d] }
  | _ => none }
def fnUpdatePathIsUnderHostPathRow : OpenClaim := { program := "qxb6608690adoor", sum := "1159f547232d9e62a477ab230b7f665374c3247742f25a87ff0ee01d85ce3dd0", func := "example.com/ecdys/ecdys/zzlaws_api_b1.FnUpdatePathIsUnderHostPath", spec := "fnUpdatePathIsUnderHostPath", named := ["net/url.table"], apart := false, laid := [("net/url.table", laid_net_url_table)] }
def FnUpdatePathIsUnderHostPathSaid : Prop := fnUpdatePathIsUnderHostPathRow.holds Tryd.pinned (OpenSpec.ofChange fnUpdatePathIsUnderHostPathSpec)

/-- ITS FALSE NEIGHBOUR: 'it returns false'. Refute it at one input. -/
def fnUpdatePathIsUnderHostPathWrong : ChangeSpec := { name := "fnUpdatePathIsUnderHostPath", fn := fun _ => fun
  | [d] => { results := [.lit (.bool false)], args := [d] }
  | _ => none }
def FnUpdatePathIsUnderHostPathWrongFalsely : Prop := fnUpdatePathIsUnderHostPathRow.holds Tryd.pinned (OpenSpec.ofChange fnUpdatePathIsUnderHostPathWrong)

/-- 'zzlaws_api_b1.FnUpdatePathNeverADeletePath': WHATEVER THE INPUT: true; the input reads as it did. -/
def fnUpdatePathNeverADeletePathSpec : ChangeSpec := { name := "fnUpdatePathNeverADeletePath", fn := fun _ => fun
  | [d1, d2] => { results := [.lit (.bool true)], args := [d1, d2] }
  | _ => none }
def fnUpdatePathNeverADeletePathRow : OpenClaim := { program := "qxb6608690adoor", sum := "1159f547232d9e62a477ab230b7f665374c3247742f25a87ff0ee01d85ce3dd0", func := "example.com/ecdys/ecdys/zzlaws_api_b1.FnUpdatePathNeverADeletePath", spec := "fnUpdatePathNeverADeletePath", named := ["net/url.table"], apart := false, laid := [("net/url.table", laid_net_url_table)] }
def FnUpdatePathNeverADeletePathSaid : Prop := fnUpdatePathNeverADeletePathRow.holds Tryd.pinned (OpenSpec.ofChange fnUpdatePathNeverADeletePathSpec)

/-- ITS FALSE NEIGHBOUR: 'it returns false'. Refute it at one input. -/
def fnUpdatePathNeverADeletePathWrong : ChangeSpec := { name := "fnUpdatePathNeverADeletePath", fn := fun _ => fun
  | [d1, d2] => { results := [.lit (.bool false)], args := [d1, d2] }
  | _ => none }
def FnUpdatePathNeverADeletePathWrongFalsely : Prop := fnUpdatePathNeverADeletePathRow.holds Tryd.pinned (OpenSpec.ofChange fnUpdatePathNeverADeletePathWrong)

end Rows
end Go.Proofs.Qxb6608690aDoor
