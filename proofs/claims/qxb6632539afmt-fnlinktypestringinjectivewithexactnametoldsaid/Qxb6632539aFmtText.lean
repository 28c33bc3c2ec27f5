/-
  fmt's TEXT at this program's one format, told by FmtText (the authors' own function).
-/
import Derived.Test.Qxb6632539aFmtParse
import Derived.Stop.Texts
import Derived.Stop.Told
import Derived.Stop.FmtTextKit
namespace Go.Proofs.Qxb6632539aFmt
open Go.Extern.Stop Go.Stop Go.Extern Go.Kit

theorem t_parse : (FmtText.parse [108, 105, 110, 107, 32, 116, 121, 112, 101, 32, 37, 100]).map FmtText.glue = some [.lit [108, 105, 110, 107, 32, 116, 121, 112, 101, 32], .verb {} 100] := by rfl

theorem t_text (t : Int) (hw : (Lit.int .u16 t).wf = true) : FmtText.text "fmt.Sprintf" (reading t) = some (pre ++ Lib.itoa t) := by
  have hi := FmtText.operand_int_at (sh := shape22) (k := .u16) rfl rfl t hw
  rw [reading, FmtText.text_sprintf_glued t_parse (FmtText.operands_cons hi FmtText.operands_nil)]
  simp [FmtText.render, FmtText.printArg_d _ _ hw, pre]

theorem told_text (F : Interp) (u : Nat) (hw : (Lit.int .u16 (u : Int)).wf = true) :
    (FmtStop.textOf (F.told "fmt.Sprintf" (reading u) 0)).data.toList = pre ++ Lib.decDigits u := by
  have hl := FmtText.itoa_length_le hw
  have ht := told_string F (t_text u hw) (by simp [pre]; omega)
  rw [textOf_list, ht]
  have e : Lib.itoa (u : Int) = Lib.decDigits u := by
    rw [Lib.itoa, if_neg (by omega)]; simp
  rw [e]

end Go.Proofs.Qxb6632539aFmt
