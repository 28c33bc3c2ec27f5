/-
  THE WALK over (LinkType).String: for every F.
-/
import Derived.Test.Qxb6632539aFmtFacts
import Derived.WalkKit
import Derived.WalkSpells
import Derived.WalkLawsBesides
namespace Go.Proofs.Qxb6632539aFmt
open Go.RowKit Go.Extern.Stop Go.Stop Go.Extern
attribute [local go_sem] call8 guard fmt0 fmt0r op22_100

def ethBytes : ByteArray := ⟨#[69, 116, 104, 101, 114, 110, 101, 116]⟩

set_option maxHeartbeats 400000 in
theorem string_one (w : World) :
    Calls Tryf.prog 5 #[.int .u16 1] w fun e w' => e = .returned (.string ethBytes) ∧ w' = w := by
  go_enter Tryf.func5, Tryf.ntmps5
  go_wp2
  go_ret
  exact ⟨rfl, rfl⟩

set_option maxHeartbeats 400000 in
theorem string_other (F : Interp) (t : Int) (w : World) (hF : F.answers w.tape) (ht : (t == 1) = false) :
    Calls Tryf.prog 5 #[.int .u16 t] w fun e w' => e = .returned (.string (FmtStop.textOf (F "fmt.Sprintf" (reading t) 0))) ∧
      w' = (w.alloc (.cells #[.iface 22 (.int .u16 t)] 20)).drew := by
  have hF' := answers_open hF
  go_enter Tryf.func5, Tryf.ntmps5
  go_wp2
  go_ret
  exact ⟨rfl, rfl⟩

end Go.Proofs.Qxb6632539aFmt
