/-
  DERIVED. GIVEN WITH THE SEED: THE CARDS: each row of Qxb6614070aDoorRows.lean that lists a variable, with what it lists TIED to the program's text (the seventh form; the later family's looks); each row that meets fmt, with fmt's text TOLD by the authors' own Lean function (tested against real Go, not proved from fmt's source: count such statements apart). THE CARD IS WHAT COUNTS. Prove the row's statement (the work); the ties are given (Qxb6614070aDoorTie.lean); close each card by the builder's one call (the guide's Derived/Test/ToyasCard.lean, 'card_holds'). Laid BY PROGRAM, IN A SANDBOX (cutbox-door.mjs). By AI agents, Wed Nov 11 2026. No macro, syntax, notation, axiom, sorry.
-/
import Derived.Test.Qxb6614070aDoorRows
import GoSem.ClaimSeven
namespace Go.Proofs.Qxb6614070aDoor
namespace Rows

/-- THE TIED CARD OF 'zzlaws_client_b1.FnFillDeliversTheAnswerAndItsCopy'. -/
def fnFillDeliversTheAnswerAndItsCopyCard : Claim7 := { stood := { row := fnFillDeliversTheAnswerAndItsCopyRow, standIns := [], harness := (true, "dd33ee07a96868e5c8182b6c8b734a19a0e6bc531e71aa2a2d70a26969b98ef2"), looks := true }, kinds := [], alts := [], laidByText := true, laidKinds := [.sentinel], laidTests := true, laidLooks := .later }
def FnFillDeliversTheAnswerAndItsCopyCardSaid : Prop := Claim7.holds Tryd.pinned (.plain (OpenSpec.ofChange fnFillDeliversTheAnswerAndItsCopySpec)) fnFillDeliversTheAnswerAndItsCopyCard

/-- THE TIED CARD OF 'zzlaws_client_b1.FnCloseEndsTheExchangeOnce'. -/
def fnCloseEndsTheExchangeOnceCard : Claim7 := { stood := { row := fnCloseEndsTheExchangeOnceRow, standIns := [], harness := (true, "dd33ee07a96868e5c8182b6c8b734a19a0e6bc531e71aa2a2d70a26969b98ef2"), looks := true }, kinds := [], alts := [], laidByText := true, laidKinds := [.sentinel], laidTests := true, laidLooks := .later }
def FnCloseEndsTheExchangeOnceCardSaid : Prop := Claim7.holds Tryd.pinned (.plain (OpenSpec.ofChange fnCloseEndsTheExchangeOnceSpec)) fnCloseEndsTheExchangeOnceCard

/-- THE TIED CARD OF 'zzlaws_client_b1.FnCloseBeforeTheEndIsNoEOF'. -/
def fnCloseBeforeTheEndIsNoEOFCard : Claim7 := { stood := { row := fnCloseBeforeTheEndIsNoEOFRow, standIns := [], harness := (true, "dd33ee07a96868e5c8182b6c8b734a19a0e6bc531e71aa2a2d70a26969b98ef2"), looks := true }, kinds := [], alts := [], laidByText := true, laidKinds := [.sentinel], laidTests := true, laidLooks := .later }
def FnCloseBeforeTheEndIsNoEOFCardSaid : Prop := Claim7.holds Tryd.pinned (.plain (OpenSpec.ofChange fnCloseBeforeTheEndIsNoEOFSpec)) fnCloseBeforeTheEndIsNoEOFCard
end Rows
end Go.Proofs.Qxb6614070aDoor
