/-
  THE WALK over ConnectReply, the capacity told.
-/
import Derived.Test.Qxb6634834aFmtReply
import Derived.Test.Qxb6634834aFmtMsgC
namespace Go.Proofs.Qxb6634834aFmt
open Go.RowKit

set_option maxHeartbeats 400000 in
theorem replyc_nn (w : World) (HT : Hid (tw (0 :: 0 :: ([] : List Int)) ≤ 254)) :
    Calls Tryf.prog 6 #[.slice none 0 0, .slice none 0 0] w fun e w' => ∃ g cap, e = .returned (.slice (some ⟨g, 0, none⟩) (4 + 4 * tw (0 :: 0 :: ([] : List Int))) cap) ∧ 4 + 4 * tw (0 :: 0 :: ([] : List Int)) ≤ cap ∧ BAt w' g 0 (bareL ([] : List Int)) ∧ Below w.heap.size w w' := by
  obtain ⟨i0, hi, hz0, hz1, hz2⟩ := info_parts info5
  have hnil := fun (wx : World) (a : Option Addr) (p c : Nat) => eql_nil wx a p c
  go_enter Tryf.func6, Tryf.ntmps6
  go_wp2_with (first | (at_builtin; go_must (refine wpList_append_own_none rfl (.tmp 6) (.tmp 7) 22 rfl w.heap.size 5 i0 1 Tryf.underlying22 hi _ _ _ rfl (World.ownsRow_lit w _ 2 (Nat.le_refl _) (by decide) rfl) rfl ?_)) | (go_at_call 99; fail))
  have hb1 : Below w.heap.size w (w.alloc (.cells #[.int .u8 0, .int .u8 0] 5)) := (Below.refl _ w).alloc (Nat.le_refl _) _
  have HBA : Hid (BAt (w.alloc (.cells #[.int .u8 0, .int .u8 0] 5)) w.heap.size 0 (0 :: 0 :: [])) := own_bat' (World.ownsRow_lit (base := w.heap.size) (e := 5) (size := 1) w _ 2 (Nat.le_refl _) (by decide) rfl) rfl
  have HB1 := hide hb1
  clear hb1
  refine (tlv_any 20 (0 :: 0 :: []) w.heap.size 2 _ (by have := unhide HT; omega) (unhide HBA)).mono ?_
  rintro e w2 ⟨gh, rfl, hbat, hb2⟩
  have HBT := hide hbat
  have HB2 := hide ((unhide HB1).trans (hb2.mono (unhide HB1).size))
  clear hbat hb2 HB1 HBA
  obtain ⟨qo, hqo⟩ : ∃ qo, qo = tw (0 :: 0 :: ([] : List Int)) := ⟨_, rfl⟩
  rw [← hqo]
  have HQO := hide hqo
  clear hqo
  go_wp2_with fail
  have hbx : Below w2.heap.size w2 (w2.alloc (.cells #[.slice (some ⟨gh, 0, none⟩) (4 * qo) (4 * qo)] 22)) := (Below.refl _ w2).alloc (Nat.le_refl _) _
  have hqb : qo ≤ 254 := by have := unhide HT; rw [← unhide HQO] at this; omega
  refine (msgc1_core (tlvL 20 (0 :: 0 :: ([] : List Int))) w2.heap.size gh (4 * qo) qo _ (by show 4 * qo = _; rw [tlvL_length, unhide HQO]) (by omega) (by simp [go_sem]) ((unhide HBT).stays hbx)).mono ?_
  rintro e w3 ⟨g, cap, rfl, hcap, hbat, hb3⟩
  have HBF := hide hbat
  have HB3 := hide (((unhide HB2).trans (hbx.mono (unhide HB2).size)).trans (hb3.mono (Nat.le_trans (unhide HB2).size hbx.size)))
  clear hbat hb3 hbx HB2 HBT hqb
  go_wp2
  go_ret
  rw [unhide HQO] at hcap
  rw [unhide HQO]
  refine ⟨g, cap, rfl, hcap, ?_, unhide HB3⟩
  have h := unhide HBF
  rw [unhide HQO] at h
  exact h

set_option maxHeartbeats 400000 in
theorem replyc_no (O : List Int) (bo co n : Nat) (HN : Hid (n = O.length)) (hn : (n : Int) ≤ 2000) (w : World) (HB : Hid (BAt w bo 0 O)) (HT : Hid (tw (0 :: 0 :: O) ≤ 254)) :
    Calls Tryf.prog 6 #[.slice none 0 0, .slice (some ⟨bo, 0, none⟩) n co] w fun e w' => ∃ g cap, e = .returned (.slice (some ⟨g, 0, none⟩) (4 + 4 * tw (0 :: 0 :: O)) cap) ∧ 4 + 4 * tw (0 :: 0 :: O) ≤ cap ∧ BAt w' g 0 (bareL O) ∧ Below w.heap.size w w' := by
  obtain ⟨i0, hi, hz0, hz1, hz2⟩ := info_parts info5
  have hnil := fun (wx : World) (a : Option Addr) (p c : Nat) => eql_nil wx a p c
  go_enter Tryf.func6, Tryf.ntmps6
  go_wp2_with (first | (at_builtin; go_must (refine wpList_append_own _ rfl (.tmp 6) (.tmp 7) 22 rfl w.heap.size 5 i0 (.int .u8 0) 1 1 Tryf.underlying22 hi hz0 hz1 hz2 rfl (by decide) _ _ _ rfl (World.ownsRow_lit w _ 2 (Nat.le_refl _) (by decide) rfl) ⟨bo, 0, none⟩ n co (O.map (Value.int .u8)) rfl (by rw [List.length_map, ← unhide HN]; omega) (fun j u hj => by rw [List.getElem?_map, Option.map_eq_some_iff] at hj; obtain ⟨x, hx, rfl⟩ := hj; rw [add_off]; exact cell_stays ((Below.refl _ w).alloc (Nat.le_refl _) _) (unhide HB j x hx)) (ints_oneCell .u8 O) (by unfold maxLen; omega) (by omega) (by simp) ?_; intro v1 w1 hown hgrow hnl; have HO1 := hide hown; have HG1 := hide hgrow; clear hown hgrow hnl)) | (go_at_call 99; fail))
  have hb1 : Below w.heap.size w w1 := ((Below.refl _ w).alloc (Nat.le_refl _) _).grown (unhide HG1) (by simp) (fun k hk => by cases hk; exact Nat.le_refl _)
  obtain ⟨g1, cp1, hv, hgb, hgs, hgc⟩ := own_shape (unhide HO1) (by omega)
  have ho := unhide HO1
  rw [hv] at ho
  have HBA : Hid (BAt w1 g1 0 (0 :: 0 :: O)) := own_bat' ho (by simp)
  have hlen : 2 + n = (0 :: 0 :: O : List Int).length := by rw [unhide HN]; simp; omega
  rw [hv, hlen]
  have HB1 := hide hb1
  clear hv ho hgb hgc hgs HO1 HG1 hb1 hlen
  refine (tlv_any 20 (0 :: 0 :: O) g1 cp1 w1 (by have := unhide HT; omega) (unhide HBA)).mono ?_
  rintro e w2 ⟨gh, rfl, hbat, hb2⟩
  have HBT := hide hbat
  have HB2 := hide ((unhide HB1).trans (hb2.mono (unhide HB1).size))
  clear hbat hb2 HB1 HBA
  obtain ⟨qo, hqo⟩ : ∃ qo, qo = tw (0 :: 0 :: O) := ⟨_, rfl⟩
  rw [← hqo]
  have HQO := hide hqo
  clear hqo
  go_wp2_with fail
  have hbx : Below w2.heap.size w2 (w2.alloc (.cells #[.slice (some ⟨gh, 0, none⟩) (4 * qo) (4 * qo)] 22)) := (Below.refl _ w2).alloc (Nat.le_refl _) _
  have hqb : qo ≤ 254 := by have := unhide HT; rw [← unhide HQO] at this; omega
  refine (msgc1_core (tlvL 20 (0 :: 0 :: O)) w2.heap.size gh (4 * qo) qo _ (by show 4 * qo = _; rw [tlvL_length, unhide HQO]) (by omega) (by simp [go_sem]) ((unhide HBT).stays hbx)).mono ?_
  rintro e w3 ⟨g, cap, rfl, hcap, hbat, hb3⟩
  have HBF := hide hbat
  have HB3 := hide (((unhide HB2).trans (hbx.mono (unhide HB2).size)).trans (hb3.mono (Nat.le_trans (unhide HB2).size hbx.size)))
  clear hbat hb3 hbx HB2 HBT hqb
  go_wp2
  go_ret
  rw [unhide HQO] at hcap
  rw [unhide HQO]
  refine ⟨g, cap, rfl, hcap, ?_, unhide HB3⟩
  have h := unhide HBF
  rw [unhide HQO] at h
  exact h

set_option maxHeartbeats 400000 in
theorem replyc_sn (S : List Int) (bs cs m : Nat) (HM : Hid (m = S.length)) (hm : (m : Int) ≤ 2000) (w : World) (HBS : Hid (BAt w bs 0 S)) (HT : Hid (tw (0 :: 0 :: S) + tw (0 :: 0 :: ([] : List Int)) ≤ 254)) :
    Calls Tryf.prog 6 #[.slice (some ⟨bs, 0, none⟩) m cs, .slice none 0 0] w fun e w' => ∃ g cap, e = .returned (.slice (some ⟨g, 0, none⟩) (4 + 4 * tw (0 :: 0 :: S) + 4 * tw (0 :: 0 :: ([] : List Int))) cap) ∧ 4 + 4 * tw (0 :: 0 :: S) + 4 * tw (0 :: 0 :: ([] : List Int)) ≤ cap ∧ BAt w' g 0 (fullL S ([] : List Int)) ∧ Below w.heap.size w w' := by
  obtain ⟨i0, hi, hz0, hz1, hz2⟩ := info_parts info5
  have hnil := fun (wx : World) (a : Option Addr) (p c : Nat) => eql_nil wx a p c
  go_enter Tryf.func6, Tryf.ntmps6
  go_wp2_with (first | (at_builtin; go_must (refine wpList_append_own_none rfl (.tmp 6) (.tmp 7) 22 rfl w.heap.size 5 i0 1 Tryf.underlying22 hi _ _ _ rfl (World.ownsRow_lit w _ 2 (Nat.le_refl _) (by decide) rfl) rfl ?_)) | (go_at_call 99; fail))
  have hb1 : Below w.heap.size w (w.alloc (.cells #[.int .u8 0, .int .u8 0] 5)) := (Below.refl _ w).alloc (Nat.le_refl _) _
  have HBA : Hid (BAt (w.alloc (.cells #[.int .u8 0, .int .u8 0] 5)) w.heap.size 0 (0 :: 0 :: [])) := own_bat' (World.ownsRow_lit (base := w.heap.size) (e := 5) (size := 1) w _ 2 (Nat.le_refl _) (by decide) rfl) rfl
  have HB1 := hide hb1
  clear hb1
  refine (tlv_any 20 (0 :: 0 :: []) w.heap.size 2 _ (by have := unhide HT; omega) (unhide HBA)).mono ?_
  rintro e w2 ⟨gh, rfl, hbat, hb2⟩
  have HBT := hide hbat
  have HB2 := hide ((unhide HB1).trans (hb2.mono (unhide HB1).size))
  clear hbat hb2 HB1 HBA
  obtain ⟨qo, hqo⟩ : ∃ qo, qo = tw (0 :: 0 :: ([] : List Int)) := ⟨_, rfl⟩
  rw [← hqo]
  have HQO := hide hqo
  clear hqo
  go_wp2_with fail
  refine (sup_core S bs cs m w2 HM hm (by show tw (0 :: 0 :: S) ≤ 255; have := unhide HT; omega) ((unhide HBS).stays (unhide HB2))).mono ?_
  rintro e w3 ⟨gs, rfl, hbs, hb3⟩
  have HBS3 := hide hbs
  have HBT3 := hide ((unhide HBT).stays hb3)
  have HB3 := hide ((unhide HB2).trans (hb3.mono (unhide HB2).size))
  clear hbs hb3 HB2 HBT
  obtain ⟨qs, hqs⟩ : ∃ qs, qs = tw (0 :: 0 :: S) := ⟨_, rfl⟩
  rw [← hqs]
  have HQS := hide hqs
  clear hqs
  go_wp2_with fail
  have hbx : Below w3.heap.size w3 (w3.alloc (.cells #[.slice (some ⟨gs, 0, none⟩) (4 * qs) (4 * qs), .slice (some ⟨gh, 0, none⟩) (4 * qo) (4 * qo)] 22)) := (Below.refl _ w3).alloc (Nat.le_refl _) _
  have hqb : qs + qo ≤ 254 := by have := unhide HT; rw [← unhide HQO, ← unhide HQS] at this; omega
  refine (msgc2_core (tlvL 21 (0 :: 0 :: S)) (tlvL 20 (0 :: 0 :: ([] : List Int))) w3.heap.size gs (4 * qs) qs gh (4 * qo) qo _ (by show 4 * qs = _; rw [tlvL_length, unhide HQS]) (by show 4 * qo = _; rw [tlvL_length, unhide HQO]) (by omega) (by simp [go_sem]) ((unhide HBS3).stays hbx) (by simp [go_sem]) ((unhide HBT3).stays hbx)).mono ?_
  rintro e w4 ⟨g, cap, rfl, hcap, hbat, hb4⟩
  have HBF := hide hbat
  have HB4 := hide (((unhide HB3).trans (hbx.mono (unhide HB3).size)).trans (hb4.mono (Nat.le_trans (unhide HB3).size hbx.size)))
  clear hbat hb4 hbx HB3 HBS3 HBT3 hqb
  go_wp2
  go_ret
  rw [unhide HQO, unhide HQS] at hcap
  rw [unhide HQO, unhide HQS]
  refine ⟨g, cap, rfl, hcap, ?_, unhide HB4⟩
  have h := unhide HBF
  rw [unhide HQO, unhide HQS] at h
  exact h

set_option maxHeartbeats 400000 in
theorem replyc_so (S : List Int) (bs cs m : Nat) (HM : Hid (m = S.length)) (hm : (m : Int) ≤ 2000) (O : List Int) (bo co n : Nat) (HN : Hid (n = O.length)) (hn : (n : Int) ≤ 2000) (w : World) (HBS : Hid (BAt w bs 0 S)) (HB : Hid (BAt w bo 0 O)) (HT : Hid (tw (0 :: 0 :: S) + tw (0 :: 0 :: O) ≤ 254)) :
    Calls Tryf.prog 6 #[.slice (some ⟨bs, 0, none⟩) m cs, .slice (some ⟨bo, 0, none⟩) n co] w fun e w' => ∃ g cap, e = .returned (.slice (some ⟨g, 0, none⟩) (4 + 4 * tw (0 :: 0 :: S) + 4 * tw (0 :: 0 :: O)) cap) ∧ 4 + 4 * tw (0 :: 0 :: S) + 4 * tw (0 :: 0 :: O) ≤ cap ∧ BAt w' g 0 (fullL S O) ∧ Below w.heap.size w w' := by
  obtain ⟨i0, hi, hz0, hz1, hz2⟩ := info_parts info5
  have hnil := fun (wx : World) (a : Option Addr) (p c : Nat) => eql_nil wx a p c
  go_enter Tryf.func6, Tryf.ntmps6
  go_wp2_with (first | (at_builtin; go_must (refine wpList_append_own _ rfl (.tmp 6) (.tmp 7) 22 rfl w.heap.size 5 i0 (.int .u8 0) 1 1 Tryf.underlying22 hi hz0 hz1 hz2 rfl (by decide) _ _ _ rfl (World.ownsRow_lit w _ 2 (Nat.le_refl _) (by decide) rfl) ⟨bo, 0, none⟩ n co (O.map (Value.int .u8)) rfl (by rw [List.length_map, ← unhide HN]; omega) (fun j u hj => by rw [List.getElem?_map, Option.map_eq_some_iff] at hj; obtain ⟨x, hx, rfl⟩ := hj; rw [add_off]; exact cell_stays ((Below.refl _ w).alloc (Nat.le_refl _) _) (unhide HB j x hx)) (ints_oneCell .u8 O) (by unfold maxLen; omega) (by omega) (by simp) ?_; intro v1 w1 hown hgrow hnl; have HO1 := hide hown; have HG1 := hide hgrow; clear hown hgrow hnl)) | (go_at_call 99; fail))
  have hb1 : Below w.heap.size w w1 := ((Below.refl _ w).alloc (Nat.le_refl _) _).grown (unhide HG1) (by simp) (fun k hk => by cases hk; exact Nat.le_refl _)
  obtain ⟨g1, cp1, hv, hgb, hgs, hgc⟩ := own_shape (unhide HO1) (by omega)
  have ho := unhide HO1
  rw [hv] at ho
  have HBA : Hid (BAt w1 g1 0 (0 :: 0 :: O)) := own_bat' ho (by simp)
  have hlen : 2 + n = (0 :: 0 :: O : List Int).length := by rw [unhide HN]; simp; omega
  rw [hv, hlen]
  have HB1 := hide hb1
  clear hv ho hgb hgc hgs HO1 HG1 hb1 hlen
  refine (tlv_any 20 (0 :: 0 :: O) g1 cp1 w1 (by have := unhide HT; omega) (unhide HBA)).mono ?_
  rintro e w2 ⟨gh, rfl, hbat, hb2⟩
  have HBT := hide hbat
  have HB2 := hide ((unhide HB1).trans (hb2.mono (unhide HB1).size))
  clear hbat hb2 HB1 HBA
  obtain ⟨qo, hqo⟩ : ∃ qo, qo = tw (0 :: 0 :: O) := ⟨_, rfl⟩
  rw [← hqo]
  have HQO := hide hqo
  clear hqo
  go_wp2_with fail
  refine (sup_core S bs cs m w2 HM hm (by show tw (0 :: 0 :: S) ≤ 255; have := unhide HT; omega) ((unhide HBS).stays (unhide HB2))).mono ?_
  rintro e w3 ⟨gs, rfl, hbs, hb3⟩
  have HBS3 := hide hbs
  have HBT3 := hide ((unhide HBT).stays hb3)
  have HB3 := hide ((unhide HB2).trans (hb3.mono (unhide HB2).size))
  clear hbs hb3 HB2 HBT
  obtain ⟨qs, hqs⟩ : ∃ qs, qs = tw (0 :: 0 :: S) := ⟨_, rfl⟩
  rw [← hqs]
  have HQS := hide hqs
  clear hqs
  go_wp2_with fail
  have hbx : Below w3.heap.size w3 (w3.alloc (.cells #[.slice (some ⟨gs, 0, none⟩) (4 * qs) (4 * qs), .slice (some ⟨gh, 0, none⟩) (4 * qo) (4 * qo)] 22)) := (Below.refl _ w3).alloc (Nat.le_refl _) _
  have hqb : qs + qo ≤ 254 := by have := unhide HT; rw [← unhide HQO, ← unhide HQS] at this; omega
  refine (msgc2_core (tlvL 21 (0 :: 0 :: S)) (tlvL 20 (0 :: 0 :: O)) w3.heap.size gs (4 * qs) qs gh (4 * qo) qo _ (by show 4 * qs = _; rw [tlvL_length, unhide HQS]) (by show 4 * qo = _; rw [tlvL_length, unhide HQO]) (by omega) (by simp [go_sem]) ((unhide HBS3).stays hbx) (by simp [go_sem]) ((unhide HBT3).stays hbx)).mono ?_
  rintro e w4 ⟨g, cap, rfl, hcap, hbat, hb4⟩
  have HBF := hide hbat
  have HB4 := hide (((unhide HB3).trans (hbx.mono (unhide HB3).size)).trans (hb4.mono (Nat.le_trans (unhide HB3).size hbx.size)))
  clear hbat hb4 hbx HB3 HBS3 HBT3 hqb
  go_wp2
  go_ret
  rw [unhide HQO, unhide HQS] at hcap
  rw [unhide HQO, unhide HQS]
  refine ⟨g, cap, rfl, hcap, ?_, unhide HB4⟩
  have h := unhide HBF
  rw [unhide HQO, unhide HQS] at h
  exact h

end Go.Proofs.Qxb6634834aFmt
