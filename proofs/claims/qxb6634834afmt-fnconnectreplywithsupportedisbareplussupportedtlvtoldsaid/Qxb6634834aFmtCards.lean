/-
  DERIVED. GIVEN WITH THE SEED: THE CARDS: each row of Qxb6634834aFmtRows.lean that lists a variable, with what it lists TIED to the program's text (the seventh form; the later family's looks); each row that meets fmt, with fmt's text TOLD by the authors' own Lean function (tested against real Go, not proved from fmt's source: count such statements apart). THE CARD IS WHAT COUNTS. Prove the row's statement (the work); the ties are given (Qxb6634834aFmtTie.lean); close each card by the builder's one call (the guide's Derived/Test/ToyasCard.lean, 'card_holds'). Laid BY PROGRAM, IN A SANDBOX (cutbox-door.mjs). By AI agents, Wed Nov 11 2026. No macro, syntax, notation, axiom, sorry.
-/
import Derived.Test.Qxb6634834aFmtRows
import GoSem.ClaimSeven
namespace Go.Proofs.Qxb6634834aFmt
namespace Rows

/-- THE TOLD CARD OF 'zzlaws_convert_b1.FnConnectReplyWithSupportedIsBarePlusSupportedTLV'. -/
def fnConnectReplyWithSupportedIsBarePlusSupportedTLVCard : Claim7 := { stood := { row := fnConnectReplyWithSupportedIsBarePlusSupportedTLVRow, standIns := [], harness := (true, "66b4c4d55088d99806648b030f6317f9efe91f0cbdc6723ca520bb268eb3fc9a"), looks := false }, told := true, goes := false }
def FnConnectReplyWithSupportedIsBarePlusSupportedTLVToldSaid : Prop := Claim7.holds Tryf.pinned (.plain (OpenSpec.ofChange fnConnectReplyWithSupportedIsBarePlusSupportedTLVSpec)) fnConnectReplyWithSupportedIsBarePlusSupportedTLVCard
/-- ITS FALSE NEIGHBOUR. Refute it at one input. -/
def FnConnectReplyWithSupportedIsBarePlusSupportedTLVToldWrongFalsely : Prop := Claim7.holds Tryf.pinned (.plain (OpenSpec.ofChange fnConnectReplyWithSupportedIsBarePlusSupportedTLVWrong)) fnConnectReplyWithSupportedIsBarePlusSupportedTLVCard

/-- THE TOLD CARD OF 'zzlaws_convert_b1.FnConnectReplySupportedAndOptionsMirror'. -/
def fnConnectReplySupportedAndOptionsMirrorCard : Claim7 := { stood := { row := fnConnectReplySupportedAndOptionsMirrorRow, standIns := [], harness := (true, "66b4c4d55088d99806648b030f6317f9efe91f0cbdc6723ca520bb268eb3fc9a"), looks := false }, told := true, goes := false }
def FnConnectReplySupportedAndOptionsMirrorToldSaid : Prop := Claim7.holds Tryf.pinned (.plain (OpenSpec.ofChange fnConnectReplySupportedAndOptionsMirrorSpec)) fnConnectReplySupportedAndOptionsMirrorCard
/-- ITS FALSE NEIGHBOUR. Refute it at one input. -/
def FnConnectReplySupportedAndOptionsMirrorToldWrongFalsely : Prop := Claim7.holds Tryf.pinned (.plain (OpenSpec.ofChange fnConnectReplySupportedAndOptionsMirrorWrong)) fnConnectReplySupportedAndOptionsMirrorCard
end Rows
end Go.Proofs.Qxb6634834aFmt
