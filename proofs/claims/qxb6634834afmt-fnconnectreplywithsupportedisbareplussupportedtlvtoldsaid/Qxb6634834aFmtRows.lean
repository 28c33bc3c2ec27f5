/-
  No cell of these rows narrows 'for every input' (looked for: loops, veiled, ifaces, maps, wideKeys, modest, calm, conditions, laid).
  DERIVED. THE GIVEN ROWS OF THIS SEAT. 2 by the template 'for every input the law returns true; each argument reads behind the call as it read before'; 0 by the template 'total and deterministic' (their statements: Qxb6634834aFmtTotals.lean).
  GIVEN WITH THE SEED: the statements are not yours to turn. If you find one false, say at which input.
  Laid BY PROGRAM, IN A SANDBOX (cutbox-rows.mjs): the forced cells as the released guide's own fill.sh prints them over the translation 6df8febb4747c2e1… (all of the seat's roots in one cut). By AI agents, Wed Nov 11 2026. No macro, syntax, notation, axiom, sorry.
-/
import Derived.Test.Qxb6634834aFmtChecked
import GoSem.Claim
import GoSem.ClaimJoined
import GoSem.ClaimMapViews
import Derived.JoinedTies
import Derived.KernelRfl
namespace Go.Proofs.Qxb6634834aFmt
/- THE CELL 'sum', in the pinned program and in every row, IS THE sha256 OF THE DUMP (.gsa) THAT Qxb6634834aFmtProg.lean LOADS. Nothing in Lean hashes anything: it is a label: what it is worth is what the hold of that sum in a sandbox is worth. -/
noncomputable def Tryf.pinned : Pinned := { name := "qxb6634834afmt", sum := "6df8febb4747c2e15dea57df6132aa807308b59fc77c9a710aacd9b9b67054fe", checked := Tryf.checked }
namespace Rows
def none {H : Type} : Left H := { results := [], args := [] }

/-- 'zzlaws_convert_b1.FnConnectReplyWithSupportedIsBarePlusSupportedTLV': WHATEVER THE INPUT: true; the input reads as it did. -/
def fnConnectReplyWithSupportedIsBarePlusSupportedTLVSpec : ChangeSpec := { name := "fnConnectReplyWithSupportedIsBarePlusSupportedTLV", fn := fun _ => fun
  | [d1, d2] => { results := [.lit (.bool true)], args := [d1, d2] }
  | _ => none }
def fnConnectReplyWithSupportedIsBarePlusSupportedTLVRow : OpenClaim := { program := "qxb6634834afmt", sum := "6df8febb4747c2e15dea57df6132aa807308b59fc77c9a710aacd9b9b67054fe", func := "example.com/throughline/throughline/zzlaws_convert_b1.FnConnectReplyWithSupportedIsBarePlusSupportedTLV", spec := "fnConnectReplyWithSupportedIsBarePlusSupportedTLV", stops := ["fmt.Sprintf"], inPlace := ["fmt.Sprintf"], apart := false }
/-- NO THEOREM (fmt's text is open here; it may be false): for the released tool's asking of the row's closed facts alone. THE STATEMENT IS 'FnConnectReplyWithSupportedIsBarePlusSupportedTLVToldSaid' (Qxb6634834aFmtCards.lean). -/
def FnConnectReplyWithSupportedIsBarePlusSupportedTLVFormAsk : Prop := fnConnectReplyWithSupportedIsBarePlusSupportedTLVRow.holds Tryf.pinned (OpenSpec.ofChange fnConnectReplyWithSupportedIsBarePlusSupportedTLVSpec)

/-- ITS FALSE NEIGHBOUR: 'it returns false'. Refute it at one input. -/
def fnConnectReplyWithSupportedIsBarePlusSupportedTLVWrong : ChangeSpec := { name := "fnConnectReplyWithSupportedIsBarePlusSupportedTLV", fn := fun _ => fun
  | [d1, d2] => { results := [.lit (.bool false)], args := [d1, d2] }
  | _ => none }
def FnConnectReplyWithSupportedIsBarePlusSupportedTLVWrongFormAsk : Prop := fnConnectReplyWithSupportedIsBarePlusSupportedTLVRow.holds Tryf.pinned (OpenSpec.ofChange fnConnectReplyWithSupportedIsBarePlusSupportedTLVWrong)

/-- 'zzlaws_convert_b1.FnConnectReplySupportedAndOptionsMirror': WHATEVER THE INPUT: true; the input reads as it did. -/
def fnConnectReplySupportedAndOptionsMirrorSpec : ChangeSpec := { name := "fnConnectReplySupportedAndOptionsMirror", fn := fun _ => fun
  | [d] => { results := [.lit (.bool true)], args := [d] }
  | _ => none }
def fnConnectReplySupportedAndOptionsMirrorRow : OpenClaim := { program := "qxb6634834afmt", sum := "6df8febb4747c2e15dea57df6132aa807308b59fc77c9a710aacd9b9b67054fe", func := "example.com/throughline/throughline/zzlaws_convert_b1.FnConnectReplySupportedAndOptionsMirror", spec := "fnConnectReplySupportedAndOptionsMirror", stops := ["fmt.Sprintf"], inPlace := ["fmt.Sprintf"], apart := false }
/-- NO THEOREM (fmt's text is open here; it may be false): for the released tool's asking of the row's closed facts alone. THE STATEMENT IS 'FnConnectReplySupportedAndOptionsMirrorToldSaid' (Qxb6634834aFmtCards.lean). -/
def FnConnectReplySupportedAndOptionsMirrorFormAsk : Prop := fnConnectReplySupportedAndOptionsMirrorRow.holds Tryf.pinned (OpenSpec.ofChange fnConnectReplySupportedAndOptionsMirrorSpec)

/-- ITS FALSE NEIGHBOUR: 'it returns false'. Refute it at one input. -/
def fnConnectReplySupportedAndOptionsMirrorWrong : ChangeSpec := { name := "fnConnectReplySupportedAndOptionsMirror", fn := fun _ => fun
  | [d] => { results := [.lit (.bool false)], args := [d] }
  | _ => none }
def FnConnectReplySupportedAndOptionsMirrorWrongFormAsk : Prop := fnConnectReplySupportedAndOptionsMirrorRow.holds Tryf.pinned (OpenSpec.ofChange fnConnectReplySupportedAndOptionsMirrorWrong)

end Rows
end Go.Proofs.Qxb6634834aFmt
