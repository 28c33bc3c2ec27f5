/-
  No cell of these rows narrows 'for every input' (looked for: loops, veiled, ifaces, maps, wideKeys, modest, calm, conditions, laid).
  DERIVED. THE GIVEN ROWS OF THIS SEAT. 2 by the template 'for every input the law returns true; each argument reads behind the call as it read before'; 0 by the template 'total and deterministic' (their statements: Qxb6634908aTotals.lean).
  GIVEN WITH THE SEED: the statements are not yours to turn. If you find one false, say at which input.
  Laid BY PROGRAM, IN A SANDBOX (cutbox-rows.mjs): the forced cells as the released guide's own fill.sh prints them over the translation 7f863cb906762fad… (all of the seat's roots in one cut). By AI agents, Wed Nov 11 2026. No macro, syntax, notation, axiom, sorry.
-/
import Derived.Test.Qxb6634908aChecked
import GoSem.Claim
import GoSem.ClaimJoined
import GoSem.ClaimMapViews
import Derived.JoinedTies
import Derived.KernelRfl
namespace Go.Proofs.Qxb6634908a
/- THE CELL 'sum', in the pinned program and in every row, IS THE sha256 OF THE DUMP (.gsa) THAT Qxb6634908aProg.lean LOADS. Nothing in Lean hashes anything: it is a label: what it is worth is what the hold of that sum in a sandbox is worth. -/
noncomputable def Try.pinned : Pinned := { name := "qxb6634908a", sum := "7f863cb906762fad1c208c6d5b12f652769195fd1e3eadb45afa3ed470c9c624", checked := Try.checked }
namespace Rows
def none {H : Type} : Left H := { results := [], args := [] }

/-- 'zzlaws_internal_social_b1.FnUsersIsFirstOccurrences': WHATEVER THE INPUT: true; the input reads as it did. -/
def fnUsersIsFirstOccurrencesSpec : ChangeSpec := { name := "fnUsersIsFirstOccurrences", fn := fun _ => fun
  | [d] => { results := [.lit (.bool true)], args := [d] }
  | _ => none }
def fnUsersIsFirstOccurrencesRow : OpenClaim := { program := "qxb6634908a", sum := "7f863cb906762fad1c208c6d5b12f652769195fd1e3eadb45afa3ed470c9c624", func := "example.com/longitude/longitude/zzlaws_internal_social_b1.FnUsersIsFirstOccurrences", spec := "fnUsersIsFirstOccurrences", apart := false }
def FnUsersIsFirstOccurrencesSaid : Prop := fnUsersIsFirstOccurrencesRow.holds Try.pinned (OpenSpec.ofChange fnUsersIsFirstOccurrencesSpec)

/-- ITS FALSE NEIGHBOUR: 'it returns false'. Refute it at one input. -/
def fnUsersIsFirstOccurrencesWrong : ChangeSpec := { name := "fnUsersIsFirstOccurrences", fn := fun _ => fun
  | [d] => { results := [.lit (.bool false)], args := [d] }
  | _ => none }
def FnUsersIsFirstOccurrencesWrongFalsely : Prop := fnUsersIsFirstOccurrencesRow.holds Try.pinned (OpenSpec.ofChange fnUsersIsFirstOccurrencesWrong)

/-- 'zzlaws_internal_social_b1.FnUsersGrowsOnlyAtTheEnd': WHATEVER THE INPUT: true; the input reads as it did. -/
def fnUsersGrowsOnlyAtTheEndSpec : ChangeSpec := { name := "fnUsersGrowsOnlyAtTheEnd", fn := fun _ => fun
  | [d1, d2] => { results := [.lit (.bool true)], args := [d1, d2] }
  | _ => none }
def fnUsersGrowsOnlyAtTheEndRow : OpenClaim := { program := "qxb6634908a", sum := "7f863cb906762fad1c208c6d5b12f652769195fd1e3eadb45afa3ed470c9c624", func := "example.com/longitude/longitude/zzlaws_internal_social_b1.FnUsersGrowsOnlyAtTheEnd", spec := "fnUsersGrowsOnlyAtTheEnd", apart := false }
def FnUsersGrowsOnlyAtTheEndSaid : Prop := fnUsersGrowsOnlyAtTheEndRow.holds Try.pinned (OpenSpec.ofChange fnUsersGrowsOnlyAtTheEndSpec)

/-- ITS FALSE NEIGHBOUR: 'it returns false'. Refute it at one input. -/
def fnUsersGrowsOnlyAtTheEndWrong : ChangeSpec := { name := "fnUsersGrowsOnlyAtTheEnd", fn := fun _ => fun
  | [d1, d2] => { results := [.lit (.bool false)], args := [d1, d2] }
  | _ => none }
def FnUsersGrowsOnlyAtTheEndWrongFalsely : Prop := fnUsersGrowsOnlyAtTheEndRow.holds Try.pinned (OpenSpec.ofChange fnUsersGrowsOnlyAtTheEndWrong)

end Rows
end Go.Proofs.Qxb6634908a
