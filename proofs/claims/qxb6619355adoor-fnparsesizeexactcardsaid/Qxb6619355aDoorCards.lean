/-
  DERIVED. GIVEN WITH THE SEED: THE CARDS: each row of Qxb6619355aDoorRows.lean that lists a variable, with what it lists TIED to the program's text (the seventh form; the later family's looks); each row that meets fmt, with fmt's text TOLD by the authors' own Lean function (tested against real Go, not proved from fmt's source: count such statements apart). THE CARD IS WHAT COUNTS. Prove the row's statement (the work); the ties are given (Qxb6619355aDoorTie.lean); close each card by the builder's one call (the guide's Derived/Test/ToyasCard.lean, 'card_holds'). Laid BY PROGRAM, IN A SANDBOX (cutbox-door.mjs). By AI agents, Wed Nov 11 2026. No macro, syntax, notation, axiom, sorry.
-/
import Derived.Test.Qxb6619355aDoorRows
import GoSem.ClaimSeven
namespace Go.Proofs.Qxb6619355aDoor
namespace Rows

/-- THE TIED CARD OF 'zzlaws_pkg_checkpoint_b1.FnParseSizeExact'. -/
def fnParseSizeExactCard : Claim7 := { stood := { row := fnParseSizeExactRow, standIns := [], harness := (true, "0eea9c4a79cf548e3cca05c4c90d69bca1108a158599549efbeddc0b4767df75"), looks := true }, kinds := [], alts := [], laidByText := true, laidKinds := [.data, .data, .data, .sentinel, .sentinel], laidTests := true, laidLooks := .later }
def FnParseSizeExactCardSaid : Prop := Claim7.holds Tryd.pinned (.plain (OpenSpec.ofChange fnParseSizeExactSpec)) fnParseSizeExactCard

/-- THE TIED CARD OF 'zzlaws_pkg_checkpoint_b1.FnParseSizeOrderAndInjective'. -/
def fnParseSizeOrderAndInjectiveCard : Claim7 := { stood := { row := fnParseSizeOrderAndInjectiveRow, standIns := [], harness := (true, "0eea9c4a79cf548e3cca05c4c90d69bca1108a158599549efbeddc0b4767df75"), looks := true }, kinds := [], alts := [], laidByText := true, laidKinds := [.data, .data, .data, .sentinel, .sentinel], laidTests := true, laidLooks := .later }
def FnParseSizeOrderAndInjectiveCardSaid : Prop := Claim7.holds Tryd.pinned (.plain (OpenSpec.ofChange fnParseSizeOrderAndInjectiveSpec)) fnParseSizeOrderAndInjectiveCard
end Rows
end Go.Proofs.Qxb6619355aDoor
