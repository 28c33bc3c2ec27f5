/-
  DERIVED. GIVEN WITH THE SEED: THE CARDS: each row of Qxb6632655aDoorRows.lean that lists a variable, with what it lists TIED to the program's text (the seventh form; the later family's looks); each row that meets fmt, with fmt's text TOLD by the authors' own Lean function (tested against real Go, not proved from fmt's source: count such statements apart). THE CARD IS WHAT COUNTS. Prove the row's statement (the work); the ties are given (Qxb6632655aDoorTie.lean); close each card by the builder's one call (the guide's Derived/Test/ToyasCard.lean, 'card_holds'). Laid BY PROGRAM, IN A SANDBOX (cutbox-door.mjs). By AI agents, Wed Nov 11 2026. No macro, syntax, notation, axiom, sorry.
-/
import Derived.Test.Qxb6632655aDoorRows
import GoSem.ClaimSeven
namespace Go.Proofs.Qxb6632655aDoor
namespace Rows

/-- THE TIED CARD OF 'zzlaws_internal_redisnode_b1.FnPreludeIsAuthThenSelectInDecimal'. -/
def fnPreludeIsAuthThenSelectInDecimalCard : Claim7 := { stood := { row := fnPreludeIsAuthThenSelectInDecimalRow, standIns := [], harness := (true, "d95a85746f4b0b24aea0ffb11b21683c30e9d361a909927ee782b04ae88ab04b"), looks := false }, kinds := [], alts := [], laidByText := true, laidKinds := [.data, .data, .data], laidTests := true, laidLooks := .later }
def FnPreludeIsAuthThenSelectInDecimalCardSaid : Prop := Claim7.holds Tryd.pinned (.plain (OpenSpec.ofChange fnPreludeIsAuthThenSelectInDecimalSpec)) fnPreludeIsAuthThenSelectInDecimalCard

/-- THE TIED CARD OF 'zzlaws_internal_redisnode_b1.FnPreludeDecodesBackToCredentialsAndDB'. -/
def fnPreludeDecodesBackToCredentialsAndDBCard : Claim7 := { stood := { row := fnPreludeDecodesBackToCredentialsAndDBRow, standIns := [], harness := (true, "d95a85746f4b0b24aea0ffb11b21683c30e9d361a909927ee782b04ae88ab04b"), looks := false }, kinds := [], alts := [], laidByText := true, laidKinds := [.data, .data, .data], laidTests := true, laidLooks := .later }
def FnPreludeDecodesBackToCredentialsAndDBCardSaid : Prop := Claim7.holds Tryd.pinned (.plain (OpenSpec.ofChange fnPreludeDecodesBackToCredentialsAndDBSpec)) fnPreludeDecodesBackToCredentialsAndDBCard
end Rows
end Go.Proofs.Qxb6632655aDoor
