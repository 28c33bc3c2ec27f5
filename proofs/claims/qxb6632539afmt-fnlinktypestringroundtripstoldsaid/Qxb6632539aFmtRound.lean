/-
  THE LAW FnLinkTypeStringRoundTrips: the walk over the contracts of String and parseLinkTypeName.
-/
import Derived.Test.Qxb6632539aFmtParse
namespace Go.Proofs.Qxb6632539aFmt
open Go.RowKit Go.Extern.Stop Go.Stop Go.Extern

set_option maxHeartbeats 400000 in
theorem round_one (w : World) :
    Calls Tryf.prog 4 #[.int .u16 1] w fun e w' => e = .returned (.bool true) ∧ w' = w := by
  go_enter Tryf.func4, Tryf.ntmps4
  go_wp2_with fail
  refine (string_one _).mono ?_
  rintro e w' ⟨rfl, rfl⟩
  go_wp2_with fail
  refine (parse_one _).mono ?_
  rintro e w' ⟨rfl, rfl⟩
  go_wp2
  go_ret
  exact ⟨rfl, rfl⟩

set_option maxHeartbeats 400000 in
theorem round_other (F : Interp) (u : Nat) (w : World) (hF : F.answers w.tape) (hu : u ≤ 65535) (ht : ((u : Int) == 1) = false)
    (htxt : (FmtStop.textOf (F "fmt.Sprintf" (reading u) 0)).data.toList = pre ++ Lib.decDigits u) :
    Calls Tryf.prog 4 #[.int .u16 (u : Int)] w fun e w' => e = .returned (.bool true) ∧ w' = (w.alloc (.cells #[.iface 22 (.int .u16 (u : Int))] 20)).drew := by
  have HT := hide htxt
  clear htxt
  go_enter Tryf.func4, Tryf.ntmps4
  go_wp2_with fail
  refine (string_other F _ _ hF ht).mono ?_
  rintro e w' ⟨rfl, rfl⟩
  generalize FmtStop.textOf (F "fmt.Sprintf" (reading u) 0) = s at *
  go_wp2_with fail
  refine (parse_text s u _ hu (unhide HT)).mono ?_
  rintro e w' ⟨rfl, rfl⟩
  go_wp2
  go_ret
  exact ⟨by simp, rfl⟩

end Go.Proofs.Qxb6632539aFmt
