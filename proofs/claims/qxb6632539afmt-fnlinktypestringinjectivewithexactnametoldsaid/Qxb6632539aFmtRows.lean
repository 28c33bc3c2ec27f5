/-
  No cell of these rows narrows 'for every input' (looked for: loops, veiled, ifaces, maps, wideKeys, modest, calm, conditions, laid).
  DERIVED. THE GIVEN ROWS OF THIS SEAT. 2 by the template 'for every input the law returns true; each argument reads behind the call as it read before'; 0 by the template 'total and deterministic' (their statements: Qxb6632539aFmtTotals.lean).
  GIVEN WITH THE SEED: the statements are not yours to turn. If you find one false, say at which input.
  Laid BY PROGRAM, IN A SANDBOX (cutbox-rows.mjs): the forced cells as the released guide's own fill.sh prints them over the translation ff5ed168e9a382e9… (all of the seat's roots in one cut). By AI agents, Wed Nov 11 2026. No macro, syntax, notation, axiom, sorry.
-/
import Derived.Test.Qxb6632539aFmtChecked
import GoSem.Claim
import GoSem.ClaimJoined
import GoSem.ClaimMapViews
import Derived.JoinedTies
import Derived.KernelRfl
namespace Go.Proofs.Qxb6632539aFmt
/- THE CELL 'sum', in the pinned program and in every row, IS THE sha256 OF THE DUMP (.gsa) THAT Qxb6632539aFmtProg.lean LOADS. Nothing in Lean hashes anything: it is a label: what it is worth is what the hold of that sum in a sandbox is worth. -/
noncomputable def Tryf.pinned : Pinned := { name := "qxb6632539afmt", sum := "ff5ed168e9a382e9965b5e5fe47e47a7391118f1a4e153c91f0f2f369247f5a5", checked := Tryf.checked }
namespace Rows
def none {H : Type} : Left H := { results := [], args := [] }

/-- 'zzlaws_internal_pcap_b1.FnLinkTypeStringInjectiveWithExactName': WHATEVER THE INPUT: true; the input reads as it did. -/
def fnLinkTypeStringInjectiveWithExactNameSpec : ChangeSpec := { name := "fnLinkTypeStringInjectiveWithExactName", fn := fun _ => fun
  | [d1, d2] => { results := [.lit (.bool true)], args := [d1, d2] }
  | _ => none }
def fnLinkTypeStringInjectiveWithExactNameRow : OpenClaim := { program := "qxb6632539afmt", sum := "ff5ed168e9a382e9965b5e5fe47e47a7391118f1a4e153c91f0f2f369247f5a5", func := "example.com/portcullis/portcullis/zzlaws_internal_pcap_b1.FnLinkTypeStringInjectiveWithExactName", spec := "fnLinkTypeStringInjectiveWithExactName", stops := ["fmt.Sprintf"], inPlace := ["fmt.Sprintf"], apart := false }
/-- NO THEOREM (fmt's text is open here; it may be false): for the released tool's asking of the row's closed facts alone. THE STATEMENT IS 'FnLinkTypeStringInjectiveWithExactNameToldSaid' (Qxb6632539aFmtCards.lean). -/
def FnLinkTypeStringInjectiveWithExactNameFormAsk : Prop := fnLinkTypeStringInjectiveWithExactNameRow.holds Tryf.pinned (OpenSpec.ofChange fnLinkTypeStringInjectiveWithExactNameSpec)

/-- ITS FALSE NEIGHBOUR: 'it returns false'. Refute it at one input. -/
def fnLinkTypeStringInjectiveWithExactNameWrong : ChangeSpec := { name := "fnLinkTypeStringInjectiveWithExactName", fn := fun _ => fun
  | [d1, d2] => { results := [.lit (.bool false)], args := [d1, d2] }
  | _ => none }
def FnLinkTypeStringInjectiveWithExactNameWrongFormAsk : Prop := fnLinkTypeStringInjectiveWithExactNameRow.holds Tryf.pinned (OpenSpec.ofChange fnLinkTypeStringInjectiveWithExactNameWrong)

/-- 'zzlaws_internal_pcap_b1.FnLinkTypeStringRoundTrips': WHATEVER THE INPUT: true; the input reads as it did. -/
def fnLinkTypeStringRoundTripsSpec : ChangeSpec := { name := "fnLinkTypeStringRoundTrips", fn := fun _ => fun
  | [d] => { results := [.lit (.bool true)], args := [d] }
  | _ => none }
def fnLinkTypeStringRoundTripsRow : OpenClaim := { program := "qxb6632539afmt", sum := "ff5ed168e9a382e9965b5e5fe47e47a7391118f1a4e153c91f0f2f369247f5a5", func := "example.com/portcullis/portcullis/zzlaws_internal_pcap_b1.FnLinkTypeStringRoundTrips", spec := "fnLinkTypeStringRoundTrips", stops := ["fmt.Sprintf"], inPlace := ["fmt.Sprintf"], apart := false }
/-- NO THEOREM (fmt's text is open here; it may be false): for the released tool's asking of the row's closed facts alone. THE STATEMENT IS 'FnLinkTypeStringRoundTripsToldSaid' (Qxb6632539aFmtCards.lean). -/
def FnLinkTypeStringRoundTripsFormAsk : Prop := fnLinkTypeStringRoundTripsRow.holds Tryf.pinned (OpenSpec.ofChange fnLinkTypeStringRoundTripsSpec)

/-- ITS FALSE NEIGHBOUR: 'it returns false'. Refute it at one input. -/
def fnLinkTypeStringRoundTripsWrong : ChangeSpec := { name := "fnLinkTypeStringRoundTrips", fn := fun _ => fun
  | [d] => { results := [.lit (.bool false)], args := [d] }
  | _ => none }
def FnLinkTypeStringRoundTripsWrongFormAsk : Prop := fnLinkTypeStringRoundTripsRow.holds Tryf.pinned (OpenSpec.ofChange fnLinkTypeStringRoundTripsWrong)

end Rows
end Go.Proofs.Qxb6632539aFmt
