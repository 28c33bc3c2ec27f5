/-
  THE WALK over newMessage, at one TLV and at two; the capacity told.
-/
import Derived.Test.Qxb6634834aFmtBase
namespace Go.Proofs.Qxb6634834aFmt
open Go.RowKit

set_option maxHeartbeats 400000 in
theorem msgc1_core (l1 : List Int) (t b1 c1 q1 : Nat) (w : World) (HN1 : Hid (4 * q1 = l1.length)) (hq : (q1 : Int) ≤ 254) (ht1 : w.cell? ⟨t, 0, none⟩ = some (.slice (some ⟨b1, 0, none⟩) (4 * q1) c1)) (HB1 : Hid (BAt w b1 0 l1)) :
    Calls Tryf.prog 11 #[.slice (some ⟨t, 0, none⟩) 1 1] w fun e w' => ∃ g cap, e = .returned (.slice (some ⟨g, 0, none⟩) (4 + 4 * q1) cap) ∧ 4 + 4 * q1 ≤ cap ∧ BAt w' g 0 (1 :: (1 + (q1 : Int) : Int) :: 34 :: 99 :: (l1)) ∧ Below w.heap.size w w' := by
  obtain ⟨i0, hi, hz0, hz1, hz2⟩ := info_parts info5
  have hlt : t < w.heap.size := World.block_lt_of_cell? w _ ht1
  go_enter Tryf.func11, Tryf.ntmps11
  go_wp2_with fail
  refine wp_loop_rounds 2 ?_
  rw [rounds_succ]
  go_wp2_with (first | (at_builtin; go_must (refine wpList_append_own _ rfl (.tmp 14) (.tmp 15) 22 rfl w.heap.size 5 i0 (.int .u8 0) 1 1 Tryf.underlying22 hi hz0 hz1 hz2 rfl (by decide) _ _ _ rfl (World.ownsRow_lit w _ 4 (Nat.le_refl _) (by decide) rfl) ⟨b1, 0, none⟩ (4 * q1) c1 (l1.map (Value.int .u8)) rfl (by rw [List.length_map, ← unhide HN1]; omega) (fun j u hj => by rw [List.getElem?_map, Option.map_eq_some_iff] at hj; obtain ⟨x, hx, rfl⟩ := hj; rw [add_off]; exact cell_stays ((Below.refl _ w).alloc (Nat.le_refl _) _) (unhide HB1 j x hx)) (ints_oneCell .u8 l1) (by unfold maxLen; omega) (by omega) (by simp) ?_; intro v1 w1 hown hgrow hnil; have HO1 := hide hown; have HG1 := hide hgrow; clear hown hgrow hnil)) | (go_at_call 99; fail))
  have hb1 : Below w.heap.size w w1 := ((Below.refl _ w).alloc (Nat.le_refl _) _).grown (unhide HG1) (by simp) (fun k hk => by cases hk; exact Nat.le_refl _)
  clear HG1
  obtain ⟨g, cap, hv, hgb, hgs, hgc⟩ := own_shape (unhide HO1) (by omega)
  have ho := unhide HO1
  rw [hv] at ho
  rw [hv]
  clear hv HO1
  have hc1 : w1.cell? ⟨g, 1, none⟩ = some (.int .u8 0) := by rw [ho.cellAt 1 (by omega)]; rfl
  have hf1 := ho.frozenAt 1
  have hst := ho.stored 1 (.int .u8 (1 + (q1 : Int)))
  have HOS := hide hst.1
  have HBF := hide (hb1.setCell (p := ⟨g, 1, none⟩) hgb (.int .u8 (1 + (q1 : Int))))
  clear ho hst hb1
  have hdv : (4 + 4 * (q1 : Int)) / 4 = 1 + (q1 : Int) := by omega
  rw [rounds_succ]
  go_wp2
  go_ret
  exact ⟨g, cap, rfl, hgc, own_bat' (unhide HOS) (by simp), unhide HBF⟩

set_option maxHeartbeats 400000 in
theorem msgc2_core (l1 l2 : List Int) (t b1 c1 q1 b2 c2 q2 : Nat) (w : World) (HN1 : Hid (4 * q1 = l1.length)) (HN2 : Hid (4 * q2 = l2.length)) (hq : (q1 : Int) + (q2 : Int) ≤ 254) (ht1 : w.cell? ⟨t, 0, none⟩ = some (.slice (some ⟨b1, 0, none⟩) (4 * q1) c1)) (HB1 : Hid (BAt w b1 0 l1)) (ht2 : w.cell? ⟨t, 1, none⟩ = some (.slice (some ⟨b2, 0, none⟩) (4 * q2) c2)) (HB2 : Hid (BAt w b2 0 l2)) :
    Calls Tryf.prog 11 #[.slice (some ⟨t, 0, none⟩) 2 2] w fun e w' => ∃ g cap, e = .returned (.slice (some ⟨g, 0, none⟩) (4 + 4 * q1 + 4 * q2) cap) ∧ 4 + 4 * q1 + 4 * q2 ≤ cap ∧ BAt w' g 0 (1 :: (1 + (q1 : Int) + (q2 : Int) : Int) :: 34 :: 99 :: (l1 ++ l2)) ∧ Below w.heap.size w w' := by
  obtain ⟨i0, hi, hz0, hz1, hz2⟩ := info_parts info5
  have hlt : t < w.heap.size := World.block_lt_of_cell? w _ ht1
  go_enter Tryf.func11, Tryf.ntmps11
  go_wp2_with fail
  refine wp_loop_rounds 3 ?_
  rw [rounds_succ]
  go_wp2_with (first | (at_builtin; go_must (refine wpList_append_own _ rfl (.tmp 14) (.tmp 15) 22 rfl w.heap.size 5 i0 (.int .u8 0) 1 1 Tryf.underlying22 hi hz0 hz1 hz2 rfl (by decide) _ _ _ rfl (World.ownsRow_lit w _ 4 (Nat.le_refl _) (by decide) rfl) ⟨b1, 0, none⟩ (4 * q1) c1 (l1.map (Value.int .u8)) rfl (by rw [List.length_map, ← unhide HN1]; omega) (fun j u hj => by rw [List.getElem?_map, Option.map_eq_some_iff] at hj; obtain ⟨x, hx, rfl⟩ := hj; rw [add_off]; exact cell_stays ((Below.refl _ w).alloc (Nat.le_refl _) _) (unhide HB1 j x hx)) (ints_oneCell .u8 l1) (by unfold maxLen; omega) (by omega) (by simp) ?_; intro v1 w1 hown hgrow hnil; have HO1 := hide hown; have HG1 := hide hgrow; clear hown hgrow hnil)) | (go_at_call 99; fail))
  have hb1 : Below w.heap.size w w1 := ((Below.refl _ w).alloc (Nat.le_refl _) _).grown (unhide HG1) (by simp) (fun k hk => by cases hk; exact Nat.le_refl _)
  have ht2' := cell_stays hb1 ht2
  have HBB1 := hide hb1
  have hsz1 : w.heap.size ≤ w1.heap.size := hb1.size
  clear hb1 HG1
  rw [rounds_succ]
  go_wp2_with (first | (at_builtin; go_must (refine wpList_append_own _ rfl (.tmp 14) (.tmp 15) 22 rfl w.heap.size 5 i0 (.int .u8 0) 1 1 Tryf.underlying22 hi hz0 hz1 hz2 rfl (by decide) _ _ _ rfl (unhide HO1) ⟨b2, 0, none⟩ (4 * q2) c2 (l2.map (Value.int .u8)) rfl (by rw [List.length_map, ← unhide HN2]; omega) (fun j u hj => by rw [List.getElem?_map, Option.map_eq_some_iff] at hj; obtain ⟨x, hx, rfl⟩ := hj; rw [add_off]; exact cell_stays (unhide HBB1) (unhide HB2 j x hx)) (ints_oneCell .u8 l2) (by unfold maxLen; omega) (by omega) hsz1 ?_; intro v2 w2 hown hgrow hnil; have HO2 := hide hown; have HG2 := hide hgrow; clear hown hgrow hnil)) | (go_at_call 99; fail))
  have hb2 : Below w.heap.size w w2 := (unhide HBB1).grown (unhide HG2) hsz1 (fun k hk => ((unhide HO1).lt k hk).1)
  clear HBB1 HG2 hsz1 ht2'
  obtain ⟨g, cap, hv, hgb, hgs, hgc⟩ := own_shape (unhide HO2) (by omega)
  have ho := unhide HO2
  rw [hv] at ho
  rw [hv]
  clear hv HO2
  have hc1 : w2.cell? ⟨g, 1, none⟩ = some (.int .u8 0) := by rw [ho.cellAt 1 (by omega)]; rfl
  have hf1 := ho.frozenAt 1
  have hst := ho.stored 1 (.int .u8 (1 + (q1 : Int) + (q2 : Int)))
  have HOS := hide hst.1
  have HBF := hide (hb2.setCell (p := ⟨g, 1, none⟩) hgb (.int .u8 (1 + (q1 : Int) + (q2 : Int))))
  clear ho hst hb2
  have hdv : (4 + 4 * (q1 : Int) + 4 * (q2 : Int)) / 4 = 1 + (q1 : Int) + (q2 : Int) := by omega
  rw [rounds_succ]
  go_wp2
  go_ret
  exact ⟨g, cap, rfl, hgc, own_bat' (unhide HOS) (by simp), unhide HBF⟩

end Go.Proofs.Qxb6634834aFmt
