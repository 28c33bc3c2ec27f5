/-
  THE WALK over zzTLV.
-/
import Derived.Test.Qxb6634834aFmtPlain
namespace Go.Proofs.Qxb6634834aFmt
open Go.RowKit

set_option maxHeartbeats 800000 in
theorem zz_some (typ : Int) (X : List Int) (b cap n q p : Nat) (w : World) (HN : Hid (n = X.length)) (hn : (n : Int) ≤ 2000) (HQ : Hid (q = tw (0 :: 0 :: X))) (hp : (p : Int) ≤ 3) (hpq : 4 + (n : Int) + (p : Int) = 4 * (q : Int)) (hq : (q : Int) ≤ 255) (HX : Hid (BAt w b 0 X)) :
    Calls Tryf.prog 7 #[.int .u8 typ, .slice (some ⟨b, 0, none⟩) n cap] w fun e w' => ∃ g c, e = .returned (.slice (some ⟨g, 0, none⟩) (4 * q) c) ∧ BAt w' g 0 (tlvL typ (0 :: 0 :: X)) ∧ Below w.heap.size w w' := by
  obtain ⟨i0, hi, hz0, hz1, hz2⟩ := info_parts info5
  go_enter Tryf.func7, Tryf.ntmps7
  go_wp2_with fail
  go_loopw [5, 6] (fun v i wr => ∃ k : Nat, k ≤ n ∧ i = .int .i64 (k : Int) ∧ Hid (wr.ownsRow w.heap.size 5 1 v (4 + k) ((typ :: 0 :: 0 :: 0 :: X.take k).map (Value.int .u8))) ∧ Hid (Below w.heap.size w wr)) (fun _ i _ => n - (intOf i).toNat)
  case atStart => exact ⟨0, Nat.zero_le _, rfl, World.ownsRow_lit w _ 4 (Nat.le_refl _) (by decide) rfl, (Below.refl _ w).alloc (Nat.le_refl _) _⟩
  case round =>
    obtain ⟨k, hk, rfl, HO, HBr⟩ := hrel
    have hws : w.heap.size ≤ wr.heap.size := (unhide HBr).size
    by_cases hlt : k < n
    · have hxl : k < X.length := by rw [← unhide HN]; exact hlt
      obtain ⟨x, hx⟩ : ∃ x, X[k]? = some x := ⟨X[k], List.getElem?_eq_getElem hxl⟩
      have c1 : wr.cell? ⟨b, k, none⟩ = some (.int .u8 x) := by simpa using cell_stays (unhide HBr) (unhide HX k x hx)
      have hbl : b < wr.heap.size := World.block_lt_of_cell? wr _ c1
      have hki : (k : Int) < (n : Int) := by omega
      have HT := hide (show X.take (k + 1) = X.take k ++ [x] by rw [List.take_add_one, hx]; rfl)
      clear hx
      go_wp2_with (first | (at_builtin; go_must (refine wpList_append_own _ rfl (.tmp 17) (.tmp 22) 22 rfl w.heap.size 5 i0 (.int .u8 0) 1 1 Tryf.underlying22 hi hz0 hz1 hz2 rfl (by decide) _ _ _ rfl ((unhide HO).alloc _) ⟨wr.heap.size, 0, none⟩ 1 1 [.int .u8 x] rfl rfl (cell_one_new _ _ _) (by simp [Value.oneCell']) (by unfold maxLen; omega) (by omega) (by simp; omega) ?_; intro v1 w1 hown hgrow hnl; have HO1 := hide hown; have HB1 := hide (((unhide HBr).alloc hws _).grown hgrow (by simp; omega) (fun k hk => ((unhide HO).lt k hk).1)); clear hown hgrow hnl)) | (go_at_call 99; fail))
      go_roundw
      case rel => exact ⟨k + 1, by omega, by go_num, (by have h := unhide HO1; show World.ownsRow _ _ _ _ _ _ _; rw [unhide HT]; simpa [Nat.add_assoc] using h), HB1⟩
      case measure => simp [intOf]; omega
    · have hkn : k = n := by omega
      subst hkn
      have hX : X.take k = X := List.take_of_length_le (Nat.le_of_eq (unhide HN).symm)
      rw [hX] at HO
      obtain ⟨g, c, hv, hgb, hgs, hgc⟩ := own_shape (unhide HO) (by omega)
      have HO2 := HO
      rw [hv] at HO2
      rw [hv]
      obtain ⟨r, hr⟩ : ∃ r : Nat, (r : Int) = (k : Int) % 4 := ⟨k % 4, by omega⟩
      have hr1 : (4 + (k : Int)) % 4 = (r : Int) := by omega
      have hr2 : (k : Int) % 4 = (r : Int) := by omega
      have hp1 : (4 - (r : Int)) % 4 = (p : Int) := by omega
      have hp2 : (-(r : Int)) % 4 = (p : Int) := by omega
      clear hr
      clear hv HO hX hgc
      go_wp2_with fail
      simp only [hr1, hp1]
      clear hr1 hr2 hp1 hp2
      go_loopw [5, 8] (fun v i wr => ∃ j : Nat, j ≤ p ∧ i = .int .i64 (j : Int) ∧ Hid (wr.ownsRow w.heap.size 5 1 v (4 + k + j) ((typ :: 0 :: 0 :: 0 :: (X ++ List.replicate j 0)).map (Value.int .u8))) ∧ Hid (Below w.heap.size w wr)) (fun _ i _ => p - (intOf i).toNat)
      case atStart => exact ⟨0, Nat.zero_le _, rfl, (by simpa using HO2), HBr⟩
      case round =>
        clear HO2 HBr hws hgb hgs
        obtain ⟨j, hj, rfl, HO, HBr⟩ := hrel
        have hws : w.heap.size ≤ wr.heap.size := (unhide HBr).size
        by_cases hjl : j < p
        · go_wp2_with (first | (at_builtin; go_must (refine wpList_append_own _ rfl (.tmp 34) (.tmp 35) 22 rfl w.heap.size 5 i0 (.int .u8 0) 1 1 Tryf.underlying22 hi hz0 hz1 hz2 rfl (by decide) _ _ _ rfl ((unhide HO).alloc _) ⟨wr.heap.size, 0, none⟩ 1 1 [.int .u8 0] rfl rfl (cell_one_new _ _ _) (by simp [Value.oneCell']) (by unfold maxLen; omega) (by omega) (by simp; omega) ?_; intro v1 w1 hown hgrow hnl; have HO1 := hide hown; have HB1 := hide (((unhide HBr).alloc hws _).grown hgrow (by simp; omega) (fun k hk => ((unhide HO).lt k hk).1)); clear hown hgrow hnl)) | (go_at_call 99; fail))
          go_roundw
          case rel => exact ⟨j + 1, by omega, by go_num, (by have h := unhide HO1; show World.ownsRow _ _ _ _ _ _ _; rw [List.replicate_succ']; simpa [Nat.add_assoc] using h), HB1⟩
          case measure => simp [intOf]; omega
        · have hjp : j = p := by omega
          subst hjp
          obtain ⟨g, c, hv, hgb, hgs, hgc⟩ := own_shape (unhide HO) (by omega)
          have ho := unhide HO
          rw [hv] at ho
          rw [hv]
          clear hv HO
          have hc1 : wr.cell? ⟨g, 1, none⟩ = some (.int .u8 0) := by rw [ho.cellAt 1 (by omega)]; rfl
          have hf1 := ho.frozenAt 1
          have hst := ho.stored 1 (.int .u8 (q : Int))
          have HOS := hide hst.1
          have HBF := hide ((unhide HBr).setCell (p := ⟨g, 1, none⟩) hgb (.int .u8 (q : Int)))
          clear ho hst HBr
          have hdv : (4 + (k : Int) + (j : Int)) / 4 = (q : Int) := by omega
          go_wp2
          go_ret
          refine ⟨g, c, by rw [show 4 * q = 4 + k + j by omega]; rfl, ?_, unhide HBF⟩
          refine own_bat' (unhide HOS) ?_
          rw [tlvL_two, padded, ← unhide HQ, show 4 * q - 4 - X.length = j by rw [← unhide HN]; omega]
          simp

set_option maxHeartbeats 800000 in
theorem zz_nil (typ : Int) (w : World) :
    Calls Tryf.prog 7 #[.int .u8 typ, .slice none 0 0] w fun e w' => ∃ g c, e = .returned (.slice (some ⟨g, 0, none⟩) 4 c) ∧ BAt w' g 0 (tlvL typ (0 :: 0 :: [])) ∧ Below w.heap.size w w' := by
  go_enter Tryf.func7, Tryf.ntmps7
  go_wp2_with fail
  refine wp_loop_rounds 1 ?_
  rw [rounds_succ]
  go_wp2_with fail
  refine wp_loop_rounds 1 ?_
  rw [rounds_succ]
  go_wp2
  go_ret
  refine ⟨w.heap.size, 4, rfl, ?_, (Below.refl _ w).alloc (Nat.le_refl _) _⟩
  exact own_bat' (World.ownsRow_lit (base := w.heap.size) (e := 5) (size := 1) w _ 4 (Nat.le_refl _) (by decide) rfl) rfl

theorem zz_any (typ : Int) (X : List Int) (b cap : Nat) (w : World) (hq : tw (0 :: 0 :: X) ≤ 255) (hX : BAt w b 0 X) :
    Calls Tryf.prog 7 #[.int .u8 typ, .slice (some ⟨b, 0, none⟩) X.length cap] w fun e w' => ∃ g c, e = .returned (.slice (some ⟨g, 0, none⟩) (4 * tw (0 :: 0 :: X)) c) ∧ BAt w' g 0 (tlvL typ (0 :: 0 :: X)) ∧ Below w.heap.size w w' := by
  have ht := tw2 X
  exact zz_some typ X b cap X.length (tw (0 :: 0 :: X)) (4 * tw (0 :: 0 :: X) - 4 - X.length) w rfl (by omega) rfl (by omega) (by omega) (by omega) hX

end Go.Proofs.Qxb6634834aFmt
