/-
  THE LAW FnLinkTypeStringInjectiveWithExactName: the walk over the contracts of String and linkTypeNameModel.
-/
import Derived.Test.Qxb6632539aFmtDecimal
import Derived.Test.Qxb6632539aFmtText
namespace Go.Proofs.Qxb6632539aFmt
open Go.RowKit Go.Extern.Stop Go.Stop Go.Extern

theorem model_any (N : Nat) (w : World) (h1 : N ≤ 65535) :
    Calls Tryf.prog 6 #[.int .u16 (N : Int)] w fun e w' => e = .returned (.string (nameOf N)) ∧ w.Extends w' := by
  by_cases h : N = 1
  · subst h
    exact model_one w
  · rw [nameOf_other h]
    exact model_other N w h1 (by rw [beq_eq_false_iff_ne]; omega)

theorem string_any (F : Interp) (N : Nat) (w : World) (hF : F.told.answers w.tape) (h1 : N ≤ 65535) :
    Calls Tryf.prog 5 #[.int .u16 (N : Int)] w fun e w' => e = .returned (.string (nameOf N)) ∧ w.Extends w' ∧ F.told.answers w'.tape := by
  by_cases h : N = 1
  · subst h
    refine (string_one w).mono fun e w' ⟨he, hw⟩ => ?_
    subst he; subst hw
    exact ⟨rfl, World.Extends.refl _, hF⟩
  · refine (string_other F.told N w hF (by rw [beq_eq_false_iff_ne]; omega)).mono fun e w' ⟨he, hw⟩ => ?_
    subst he; subst hw
    refine ⟨?_, ((World.Extends.refl w).alloc _).drew, hF⟩
    have ht := told_text F N (by simp [Lit.wf, IntKind.min, IntKind.max, IntKind.signed, IntKind.bits]; omega)
    have e : FmtStop.textOf (F.told "fmt.Sprintf" (reading N) 0) = nameOf N := by
      rw [nameOf_other h]
      apply ByteArray.ext
      apply Array.ext'
      rw [ht]
    rw [e]

theorem names_eq (a b : Nat) : ((nameOf a).toList == (nameOf b).toList) = ((a : Int) == (b : Int)) := by
  by_cases h : a = b
  · subst h; simp
  · have h1 : ((a : Int) == (b : Int)) = false := by rw [beq_eq_false_iff_ne]; omega
    rw [h1, beq_eq_false_iff_ne]
    intro hx
    apply h
    apply nameOf_inj
    rw [Lib.toList_data, Lib.toList_data] at hx
    apply ByteArray.ext
    exact Array.ext' hx

set_option maxHeartbeats 400000 in
theorem inj_any (F : Interp) (a b : Nat) (w : World) (hF : F.told.answers w.tape) (ha : a ≤ 65535) (hb : b ≤ 65535) :
    Calls Tryf.prog 3 #[.int .u16 (a : Int), .int .u16 (b : Int)] w fun e w' => e = .returned (.bool true) ∧ w.Extends w' := by
  have hnm := names_eq a b
  have HA := hide ha
  have HB := hide hb
  have HF := hide hF
  clear ha hb hF
  generalize hna : nameOf a = sa at *
  generalize hnb : nameOf b = sb at *
  have HNA := hide hna
  have HNB := hide hnb
  clear hna hnb
  go_enter Tryf.func3, Tryf.ntmps3
  go_wp2_with fail
  refine (string_any F a _ (unhide HF) (unhide HA)).mono ?_
  rintro e w1 ⟨rfl, hx1, hF1⟩
  have HF1 := hide hF1
  have HX1 := hide hx1
  clear hF1 hx1
  rw [unhide HNA]
  go_wp2_with fail
  refine (string_any F b _ (unhide HF1) (unhide HB)).mono ?_
  rintro e w2 ⟨rfl, hx2, hF2⟩
  have HX2 := hide hx2
  clear hF2 hx2
  rw [unhide HNB]
  go_wp2_with fail
  refine (model_any a _ (unhide HA)).mono ?_
  rintro e w3 ⟨rfl, hx3⟩
  have HX3 := hide hx3
  clear hx3
  rw [unhide HNA]
  go_wp2_with fail
  refine (model_any b _ (unhide HB)).mono ?_
  rintro e w4 ⟨rfl, hx4⟩
  have HX4 := hide hx4
  clear hx4
  rw [unhide HNB]
  go_wp2
  go_ret
  exact ⟨rfl, (((unhide HX1).trans (unhide HX2)).trans (unhide HX3)).trans (unhide HX4)⟩

end Go.Proofs.Qxb6632539aFmt
