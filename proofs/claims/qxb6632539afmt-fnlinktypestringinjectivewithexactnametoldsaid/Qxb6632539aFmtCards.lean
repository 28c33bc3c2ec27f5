/-
  DERIVED. GIVEN WITH THE SEED: THE CARDS: each row of Qxb6632539aFmtRows.lean that lists a variable, with what it lists TIED to the program's text (the seventh form; the later family's looks); each row that meets fmt, with fmt's text TOLD by the authors' own Lean function (tested against real Go, not proved from fmt's source: count such statements apart). THE CARD IS WHAT COUNTS. Prove the row's statement (the work); the ties are given (Qxb6632539aFmtTie.lean); close each card by the builder's one call (the guide's Derived/Test/ToyasCard.lean, 'card_holds'). Laid BY PROGRAM, IN A SANDBOX (cutbox-door.mjs). By AI agents, Wed Nov 11 2026. No macro, syntax, notation, axiom, sorry.
-/
import Derived.Test.Qxb6632539aFmtRows
import GoSem.ClaimSeven
namespace Go.Proofs.Qxb6632539aFmt
namespace Rows

/-- THE TOLD CARD OF 'zzlaws_internal_pcap_b1.FnLinkTypeStringInjectiveWithExactName'. -/
def fnLinkTypeStringInjectiveWithExactNameCard : Claim7 := { stood := { row := fnLinkTypeStringInjectiveWithExactNameRow, standIns := [], harness := (true, "85b11a759347ef108c2a3350ce4081e28110af2798efb52a7136f09e492c0d85"), looks := false }, told := true, goes := false }
def FnLinkTypeStringInjectiveWithExactNameToldSaid : Prop := Claim7.holds Tryf.pinned (.plain (OpenSpec.ofChange fnLinkTypeStringInjectiveWithExactNameSpec)) fnLinkTypeStringInjectiveWithExactNameCard
/-- ITS FALSE NEIGHBOUR. Refute it at one input. -/
def FnLinkTypeStringInjectiveWithExactNameToldWrongFalsely : Prop := Claim7.holds Tryf.pinned (.plain (OpenSpec.ofChange fnLinkTypeStringInjectiveWithExactNameWrong)) fnLinkTypeStringInjectiveWithExactNameCard

/-- THE TOLD CARD OF 'zzlaws_internal_pcap_b1.FnLinkTypeStringRoundTrips'. -/
def fnLinkTypeStringRoundTripsCard : Claim7 := { stood := { row := fnLinkTypeStringRoundTripsRow, standIns := [], harness := (true, "85b11a759347ef108c2a3350ce4081e28110af2798efb52a7136f09e492c0d85"), looks := false }, told := true, goes := false }
def FnLinkTypeStringRoundTripsToldSaid : Prop := Claim7.holds Tryf.pinned (.plain (OpenSpec.ofChange fnLinkTypeStringRoundTripsSpec)) fnLinkTypeStringRoundTripsCard
/-- ITS FALSE NEIGHBOUR. Refute it at one input. -/
def FnLinkTypeStringRoundTripsToldWrongFalsely : Prop := Claim7.holds Tryf.pinned (.plain (OpenSpec.ofChange fnLinkTypeStringRoundTripsWrong)) fnLinkTypeStringRoundTripsCard
end Rows
end Go.Proofs.Qxb6632539aFmt
