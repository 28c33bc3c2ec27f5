/-
  THE TOLD CARD OF FnLinkTypeStringRoundTrips, PROVED.
-/
import Derived.Test.Qxb6632539aFmtCards
import Derived.Test.Qxb6632539aFmtRound
import Derived.Test.Qxb6632539aFmtText
import Derived.ProofKit
import Derived.Stop.JoinedAt
import Derived.Stop.JoinedTold
import Derived.SizedLaws
import Derived.SevenToldRow
namespace Go.Proofs.Qxb6632539aFmt
open Go.ChangeShapes Go.WideShapes Go.ChangeAt Go.RowKit Go.Kit
open Go.Extern.Stop Go.Stop Go.Extern

theorem Tryf.own : ownKnob Tryf.prog.godebug = none := by kernel_rfl
theorem Tryf.laidOut : laidOutB Tryf.pinned.checked.prog = true := by kernel_rfl
theorem Tryf.stops : Tryf.pinned.checked.prog.stops = ["fmt.Sprintf"] := by kernel_rfl
theorem Tryf.stopKnobs : Tryf.pinned.checked.prog.stopKnobs = [] := by kernel_rfl
theorem Tryf.quiet (os : Os) : Stop.quiet Tryf.pinned.checked.prog os := by
  intro k hk
  rw [Tryf.stopKnobs] at hk
  cases hk

/-- ONE WALK: whatever the number. -/
theorem round_any (F : Interp) (t : Int) (w : World) (hF : F.told.answers w.tape) (hw : (Lit.int .u16 t).wf = true) :
    Calls Tryf.prog 4 #[.int .u16 t] w fun e w' => e = .returned (.bool true) ∧ w.Extends w' := by
  obtain ⟨b0, b1⟩ := FmtText.int_bounds hw
  simp [IntKind.min, IntKind.max, IntKind.signed, IntKind.bits] at b0 b1
  obtain ⟨u, rfl⟩ := Int.eq_ofNat_of_zero_le b0
  by_cases h1 : u = 1
  · subst h1
    refine (round_one w).mono fun e w' ⟨he, hw'⟩ => ⟨he, ?_⟩
    subst hw'
    exact World.Extends.refl _
  · refine (round_other F.told u w hF (by omega) (by rw [beq_eq_false_iff_ne]; omega) (told_text F u hw)).mono fun e w' ⟨he, hw'⟩ => ⟨he, ?_⟩
    subst hw'
    exact ((World.Extends.refl w).alloc _).drew

set_option maxRecDepth 100000 in
theorem round_lifted (os : Os) (started : os.Started) (H : Type) (enc : TypeId × Value → H) :
    ReturnsInTold none {} Tryf.checked os 4 .any Input.okWide ((OpenSpec.ofChange Rows.fnLinkTypeStringRoundTripsSpec).preRow enc Tryf.prog Tryf.f4 [] false []) (fun F => ((OpenSpec.ofChange Rows.fnLinkTypeStringRoundTripsSpec).at F).post enc Tryf.prog Tryf.f4 false true false false) (aloneAtReturn Tryf.prog) nothingAlways := by
  refine returnsInTold_of_row (C := Tryf.checked) (s := OpenSpec.ofChange Rows.fnLinkTypeStringRoundTripsSpec) (by kernel_rfl) Tryf.own started (by kernel_rfl) Tryf.func4
    (OpenSpec.witness_stopped (enc := enc) (C := Tryf.checked) false ⟨#[], #[.int .u16 1], []⟩ 8 (by kernel_rfl) (by kernel_rfl) (by kernel_rfl) (by kernel_rfl)) ?_
  intro F W base args ds gs before _ hF hval0 hW _ _ hsz _ _
  have hval : ∀ (j : Nat) t v, Tryf.f4.params[j]? = some t → args[j]? = some v → Value.okWide Tryf.prog W .any base t v := hval0
  have hW' := hW
  obtain ⟨p, q, hA0, hV, rfl, hfz, hnd⟩ := hW
  have hA : DataW.TrodAll enc Tryf.prog W 0 (fun _ => true) true Tryf.f4.params.toList args.toList ds p := hA0
  rw [Tryf.params4] at hA hval
  obtain ⟨v0, d0, rfl, rfl, h0⟩ := trodAll_one hA
  obtain ⟨rfl, rfl⟩ := trodVars_none hV
  obtain ⟨t, rfl, rfl, rfl, wt⟩ := open_int Tryf.underlying22 (hval 0 22 v0 rfl rfl) h0
  clear hA0 hval0
  refine (round_any F t W hF wt).mono fun e W' ⟨he, hx⟩ => ?_
  subst he
  refine ⟨_, rfl, _, _, _, [], [], [], hW', ?_, ?_, rfl, ?_, fun h => by cases h⟩
  · exact trodAll_mk1 (shut_bool Tryf.underlying4 true)
  · exact trodAll_mk1 (shut_int Tryf.underlying22 wt)
  · exact World.keptBut_mono (fun _ h => h.elim) (World.keptBut_none_iff.2 ⟨hx.os, hx.output, hx.block⟩)

theorem linkTypeStringRoundTrips : Rows.FnLinkTypeStringRoundTripsToldSaid :=
  Claim7.holds_of_told_any 4 Tryf.f4 "fmt.Sprintf" [] [] _ _ _ (by kernel_rfl) rfl rfl rfl Tryf.laidOut (by kernel_rfl) rfl ⟨rfl, rfl, rfl, rfl, rfl, rfl, rfl⟩ rfl rfl (by kernel_rfl) (by kernel_rfl) Tryf.func4 (by kernel_rfl)
    (of_decide_eq_true (by kernel_rfl)) (of_decide_eq_true (by kernel_rfl)) Tryf.stops.symm rfl Tryf.stopKnobs.symm (by kernel_rfl)
    (by kernel_rfl) (by kernel_rfl) (by kernel_rfl) (by kernel_rfl) (by kernel_rfl) (by kernel_rfl) (by kernel_rfl) (by kernel_rfl) (by kernel_rfl) rfl (by kernel_rfl) rfl rfl
    rfl rfl
    rfl (by kernel_rfl) (by kernel_rfl) (by kernel_rfl) (by decide) (by kernel_rfl)
    (OpenClaim.moreEntering_of (by kernel_rfl) (by kernel_rfl) (by kernel_rfl) (by kernel_rfl) (by kernel_rfl) (by kernel_rfl) (by kernel_rfl) (by kernel_rfl) (by kernel_rfl) (by kernel_rfl))
    ⟨_, WideRow.started_initial, Tryf.quiet _⟩
    (fun os started _ H enc _ => round_lifted os started H enc)

end Go.Proofs.Qxb6632539aFmt
