/-
  DERIVED. GIVEN WITH THE SEED: THE CARDS: each row of Qxb6608690aDoorRows.lean that lists a variable, with what it lists TIED to the program's text (the seventh form; the later family's looks); each row that meets fmt, with fmt's text TOLD by the authors' own Lean function (tested against real Go, not proved from fmt's source: count such statements apart). THE CARD IS WHAT COUNTS. Prove the row's statement (the work); the ties are given (Qxb6608690aDoorTie.lean); close each card by the builder's one call (the guide's Derived/Test/ToyasCard.lean, 'card_holds'). Laid BY PROGRAM, IN A SANDBOX (cutbox-door.mjs). By AI agents, Wed Nov 11 2026. No macro, syntax, notation, axiom, sorry.
-/
import Derived.Test.Qxb6608690aDoorRows
import GoSem.ClaimSeven
namespace Go.Proofs.Qxb6608690aDoor
namespace Rows

/-- THE TIED CARD OF 'zzlaws_api_b1.FnHostPathIsCanonicalEscapeOfHost'. -/
def fnHostPathIsCanonicalEscapeOfHostCard : Claim7 := { stood := { row := fnHostPathIsCanonicalEscapeOfHostRow, standIns := [], harness := (true, "d112afd45cdf7813d3660773326a08d00970a2741514cfe08a9c80048180c430"), looks := false }, kinds := [], alts := [], laidByText := true, laidKinds := [.data], laidTests := true, laidLooks := .later }
def FnHostPathIsCanonicalEscapeOfHostCardSaid : Prop := Claim7.holds Tryd.pinned (.plain (OpenSpec.ofChange fnHostPathIsCanonicalEscapeOfHostSpec)) fnHostPathIsCanonicalEscapeOfHostCard

/-- THE TIED CARD OF 'zzlaws_api_b1.FnHostPathTellsHostsApart'. -/
def fnHostPathTellsHostsApartCard : Claim7 := { stood := { row := fnHostPathTellsHostsApartRow, standIns := [], harness := (true, "d112afd45cdf7813d3660773326a08d00970a2741514cfe08a9c80048180c430"), looks := false }, kinds := [], alts := [], laidByText := true, laidKinds := [.data], laidTests := true, laidLooks := .later }
def FnHostPathTellsHostsApartCardSaid : Prop := Claim7.holds Tryd.pinned (.plain (OpenSpec.ofChange fnHostPathTellsHostsApartSpec)) fnHostPathTellsHostsApartCard

/-- THE TIED CARD OF 'zzlaws_api_b1.FnUpdatePathIsUnderHostPath'. -/
def fnUpdatePathIsUnderHostPathCard : Claim7 := { stood := { row := fnUpdatePathIsUnderHostPathRow, standIns := [], harness := (true, "d112afd45cdf7813d3660773326a08d00970a2741514cfe08a9c80048180c430"), looks := false }, kinds := [], alts := [], laidByText := true, laidKinds := [.data], laidTests := true, laidLooks := .later }
def FnUpdatePathIsUnderHostPathCardSaid : Prop := Claim7.holds Tryd.pinned (.plain (OpenSpec.ofChange fnUpdatePathIsUnderHostPathSpec)) fnUpdatePathIsUnderHostPathCard

/-- THE TIED CARD OF 'zzlaws_api_b1.FnUpdatePathNeverADeletePath'. -/
def fnUpdatePathNeverADeletePathCard : Claim7 := { stood := { row := fnUpdatePathNeverADeletePathRow, standIns := [], harness := (true, "d112afd45cdf7813d3660773326a08d00970a2741514cfe08a9c80048180c430"), looks := false }, kinds := [], alts := [], laidByText := true, laidKinds := [.data], laidTests := true, laidLooks := .later }
def FnUpdatePathNeverADeletePathCardSaid : Prop := Claim7.holds Tryd.pinned (.plain (OpenSpec.ofChange fnUpdatePathNeverADeletePathSpec)) fnUpdatePathNeverADeletePathCard
end Rows
end Go.Proofs.Qxb6608690aDoor
