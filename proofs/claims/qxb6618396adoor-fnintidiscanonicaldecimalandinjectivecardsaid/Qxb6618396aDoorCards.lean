/-
  DERIVED. GIVEN WITH THE SEED: THE CARDS: each row of Qxb6618396aDoorRows.lean that lists a variable, with what it lists TIED to the program's text (the seventh form; the later family's looks); each row that meets fmt, with fmt's text TOLD by the authors' own Lean function (tested against real Go, not proved from fmt's source: count such statements apart). THE CARD IS WHAT COUNTS. Prove the row's statement (the work); the ties are given (Qxb6618396aDoorTie.lean); close each card by the builder's one call (the guide's Derived/Test/ToyasCard.lean, 'card_holds'). Laid BY PROGRAM, IN A SANDBOX (cutbox-door.mjs). By AI agents, Wed Nov 11 2026. No macro, syntax, notation, axiom, sorry.
-/
import Derived.Test.Qxb6618396aDoorRows
import GoSem.ClaimSeven
namespace Go.Proofs.Qxb6618396aDoor
namespace Rows

/-- THE TIED CARD OF 'zzlaws_jsonrpc_b1.FnIntIDIsCanonicalDecimalAndInjective'. -/
def fnIntIDIsCanonicalDecimalAndInjectiveCard : Claim7 := { stood := { row := fnIntIDIsCanonicalDecimalAndInjectiveRow, standIns := [], harness := (true, "56d03aaba4bada5b4b7c94ff1e9bb4e2a14de89d7dc4ceb627765a7993715135"), looks := false }, kinds := [], alts := [], laidByText := true, laidKinds := [.data, .data, .data], laidTests := true, laidLooks := .later }
def FnIntIDIsCanonicalDecimalAndInjectiveCardSaid : Prop := Claim7.holds Tryd.pinned (.plain (OpenSpec.ofChange fnIntIDIsCanonicalDecimalAndInjectiveSpec)) fnIntIDIsCanonicalDecimalAndInjectiveCard

/-- THE TIED CARD OF 'zzlaws_jsonrpc_b1.FnIntIDNegationAddsMinusSign'. -/
def fnIntIDNegationAddsMinusSignCard : Claim7 := { stood := { row := fnIntIDNegationAddsMinusSignRow, standIns := [], harness := (true, "56d03aaba4bada5b4b7c94ff1e9bb4e2a14de89d7dc4ceb627765a7993715135"), looks := false }, kinds := [], alts := [], laidByText := true, laidKinds := [.data, .data, .data], laidTests := true, laidLooks := .later }
def FnIntIDNegationAddsMinusSignCardSaid : Prop := Claim7.holds Tryd.pinned (.plain (OpenSpec.ofChange fnIntIDNegationAddsMinusSignSpec)) fnIntIDNegationAddsMinusSignCard
end Rows
end Go.Proofs.Qxb6618396aDoor
