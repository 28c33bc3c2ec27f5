/-
  THE WALKS over (address).prelude, a way each.
-/
import Derived.Test.Qxb6632655aDoorCmds
import Derived.Deep.DeepMust
namespace Go.Proofs.Qxb6632655aDoor
open Go.RowKit

set_option maxHeartbeats 400000 in
theorem prel_u0 (hp user pw : ByteArray) (tls : Bool) (w : World) (hu : (user.toList == []) = false) :
    Calls Tryd.prog 12 #[.agg #[.string hp, .bool tls, .string user, .string pw, .int .i64 0]] w fun e w' => ∃ v, e = .returned v ∧ Cmds w' v [[authB, user, pw]] ∧ Below w.heap.size w w' := by
  obtain ⟨i0, hi, hz0, hz1, hz2⟩ := info_parts info28
  go_enter Tryd.func12, Tryd.ntmps12
  go_wp2_with (first | (at_builtin; go_must (refine wpList_append_own _ rfl (.tmp 7) (.tmp 13) 23 rfl (w.heap.size + 3) 28 i0 (.slice none 0 0) 1 24 Tryd.underlying23 hi hz0 hz1 hz2 rfl (by decide) _ _ _ rfl (World.ownsRow_nil _ _ _ _) ⟨w.heap.size + 1 + 1, 0, none⟩ 1 1 [.slice (some ⟨w.heap.size + 1, 0, none⟩) 3 3] rfl rfl (one_new _ _ _ _ (by simp)) (by simp [Value.oneCell']) (by decide) (by decide) (by simp) ?_; intro v1 w1 hown1 hgrow1 hnil1; have hc4 := keep_none hgrow1 (a := ⟨w.heap.size, 4, none⟩) (v := .int .i64 0) (by simp [go_sem]); have HG := hide hgrow1; have HO := hide hown1; clear hgrow1 hown1 hnil1)) | (go_at_call 99; fail))
  go_ret
  have hb1 : Below w.heap.size w w1 := (((((Below.refl _ w).alloc (Nat.le_refl _) _).alloc (by simp) _).alloc (by simp <;> omega) _).grown (unhide HG) (by simp <;> omega) (fun k hk => by cases hk))
  exact ⟨v1, rfl, (snoc_cmds (W := w.alloc (.cells #[.string hp, .bool tls, .string user, .string pw, .int .i64 0] 26)) (World.ownsRow_nil _ (w.heap.size + 3) 28 1) (Rowed.nil _ _) rfl (c := [authB, user, pw]) rfl (unhide HG) (by simp) rfl (unhide HO)), hb1⟩

set_option maxHeartbeats 400000 in
theorem prel_ud (hp user pw : ByteArray) (tls : Bool) (db : Int) (w : World) (hu : (user.toList == []) = false) (hd : (db == 0) = false) (h0 : -9223372036854775808 ≤ db) (h1 : db ≤ 9223372036854775807) (ht : Hid (Tab w)) :
    Calls Tryd.prog 12 #[.agg #[.string hp, .bool tls, .string user, .string pw, .int .i64 db]] w fun e w' => ∃ v, e = .returned v ∧ Cmds w' v [[authB, user, pw], [selB, numB db]] ∧ Below w.heap.size w w' := by
  obtain ⟨i0, hi, hz0, hz1, hz2⟩ := info_parts info28
  have H0 := hide h0
  have H1 := hide h1
  clear h0 h1
  go_enter Tryd.func12, Tryd.ntmps12
  go_wp2_with (first | (at_builtin; go_must (refine wpList_append_own _ rfl (.tmp 7) (.tmp 13) 23 rfl (w.heap.size + 3) 28 i0 (.slice none 0 0) 1 24 Tryd.underlying23 hi hz0 hz1 hz2 rfl (by decide) _ _ _ rfl (World.ownsRow_nil _ _ _ _) ⟨w.heap.size + 1 + 1, 0, none⟩ 1 1 [.slice (some ⟨w.heap.size + 1, 0, none⟩) 3 3] rfl rfl (one_new _ _ _ _ (by simp)) (by simp [Value.oneCell']) (by decide) (by decide) (by simp) ?_; intro v1 w1 hown1 hgrow1 hnil1; have hc4 := keep_none hgrow1 (a := ⟨w.heap.size, 4, none⟩) (v := .int .i64 db) (by simp [go_sem]); have HG := hide hgrow1; have HO := hide hown1; clear hgrow1 hown1 hnil1)) | (go_at_call 99; fail))
  have hb1 : Below w.heap.size w w1 := (((((Below.refl _ w).alloc (Nat.le_refl _) _).alloc (by simp) _).alloc (by simp <;> omega) _).grown (unhide HG) (by simp <;> omega) (fun k hk => by cases hk))
  have HB1 := hide hb1
  have HR1 := hide (snoc_rowed (W := w.alloc (.cells #[.string hp, .bool tls, .string user, .string pw, .int .i64 db] 26)) (World.ownsRow_nil _ (w.heap.size + 3) 28 1) (Rowed.nil _ _) rfl (c := [authB, user, pw]) rfl (unhide HG) (g := w.heap.size + 1) (m := 3) (by simp) rfl (by omega))
  clear hb1
  refine (Tryd.strconv_Itoa db (unhide H0) (unhide H1) w1 ((unhide ht) w1 (unhide HB1))).mono ?_
  rintro e w2 ⟨rfl, hw2⟩
  have hb2 : Below w1.heap.size w1 w2 := by
    obtain ⟨k, os, rfl⟩ := hw2
    exact Lib.below_grow _ _ (Nat.le_refl _) k os
  have HO2 := hide ((unhide HO).kept (below_grownBy hb2) (by cases hv : v1.ownBlock <;> simp))
  have HR2 := hide ((unhide HR1).stays hb2)
  have hws : w.heap.size + 3 ≤ w2.heap.size := by have a1 := (unhide HG).size; have a2 := hb2.size; simp at a1; omega
  have HB2 := hide ((unhide HB1).trans (hb2.mono (unhide HB1).size))
  clear hw2 hb2 hc4 HG HO HR1
  go_wp2_with (at_builtin; go_must (refine wpList_append_own _ rfl (.tmp 27) (.tmp 32) 23 rfl (w.heap.size + 3) 28 i0 (.slice none 0 0) 1 24 Tryd.underlying23 hi hz0 hz1 hz2 rfl (by decide) _ _ _ rfl ((unhide HO2).alloc _ |>.alloc _) ⟨w2.heap.size + 1, 0, none⟩ 1 1 [.slice (some ⟨w2.heap.size, 0, none⟩) 2 2] rfl rfl (one_new _ _ _ _ (by simp)) (by simp [Value.oneCell']) (by decide) (by decide) (by simp <;> omega) ?_; intro v2 w3 hown3 hgrow3 hnil3; have HG3 := hide hgrow3; have HO3 := hide hown3; clear hgrow3 hown3 hnil3))
  go_ret
  refine ⟨v2, rfl, ?_, ?_⟩
  · exact snoc_cmds (unhide HO2) (unhide HR2) rfl (c := [selB, numB db]) rfl (unhide HG3) rfl rfl (unhide HO3)
  · exact (((unhide HB2).alloc (by omega) _).alloc (by simp <;> omega) _).grown (unhide HG3) (by simp <;> omega) (fun k hk => by have := ((unhide HO2).lt k hk).1; omega)

set_option maxHeartbeats 400000 in
theorem prel_p0 (hp user pw : ByteArray) (tls : Bool) (w : World) (hu : (user.toList == []) = true) (hpw : (pw.toList == []) = false) :
    Calls Tryd.prog 12 #[.agg #[.string hp, .bool tls, .string user, .string pw, .int .i64 0]] w fun e w' => ∃ v, e = .returned v ∧ Cmds w' v [[authB, pw]] ∧ Below w.heap.size w w' := by
  obtain ⟨i0, hi, hz0, hz1, hz2⟩ := info_parts info28
  go_enter Tryd.func12, Tryd.ntmps12
  go_wp2_with (first | (at_builtin; go_must (refine wpList_append_own _ rfl (.tmp 18) (.tmp 22) 23 rfl (w.heap.size + 3) 28 i0 (.slice none 0 0) 1 24 Tryd.underlying23 hi hz0 hz1 hz2 rfl (by decide) _ _ _ rfl (World.ownsRow_nil _ _ _ _) ⟨w.heap.size + 1 + 1, 0, none⟩ 1 1 [.slice (some ⟨w.heap.size + 1, 0, none⟩) 2 2] rfl rfl (one_new _ _ _ _ (by simp)) (by simp [Value.oneCell']) (by decide) (by decide) (by simp) ?_; intro v1 w1 hown1 hgrow1 hnil1; have hc4 := keep_none hgrow1 (a := ⟨w.heap.size, 4, none⟩) (v := .int .i64 0) (by simp [go_sem]); have HG := hide hgrow1; have HO := hide hown1; clear hgrow1 hown1 hnil1)) | (go_at_call 99; fail))
  go_ret
  have hb1 : Below w.heap.size w w1 := (((((Below.refl _ w).alloc (Nat.le_refl _) _).alloc (by simp) _).alloc (by simp <;> omega) _).grown (unhide HG) (by simp <;> omega) (fun k hk => by cases hk))
  exact ⟨v1, rfl, (snoc_cmds (W := w.alloc (.cells #[.string hp, .bool tls, .string user, .string pw, .int .i64 0] 26)) (World.ownsRow_nil _ (w.heap.size + 3) 28 1) (Rowed.nil _ _) rfl (c := [authB, pw]) rfl (unhide HG) (by simp) rfl (unhide HO)), hb1⟩

set_option maxHeartbeats 400000 in
theorem prel_pd (hp user pw : ByteArray) (tls : Bool) (db : Int) (w : World) (hu : (user.toList == []) = true) (hpw : (pw.toList == []) = false) (hd : (db == 0) = false) (h0 : -9223372036854775808 ≤ db) (h1 : db ≤ 9223372036854775807) (ht : Hid (Tab w)) :
    Calls Tryd.prog 12 #[.agg #[.string hp, .bool tls, .string user, .string pw, .int .i64 db]] w fun e w' => ∃ v, e = .returned v ∧ Cmds w' v [[authB, pw], [selB, numB db]] ∧ Below w.heap.size w w' := by
  obtain ⟨i0, hi, hz0, hz1, hz2⟩ := info_parts info28
  have H0 := hide h0
  have H1 := hide h1
  clear h0 h1
  go_enter Tryd.func12, Tryd.ntmps12
  go_wp2_with (first | (at_builtin; go_must (refine wpList_append_own _ rfl (.tmp 18) (.tmp 22) 23 rfl (w.heap.size + 3) 28 i0 (.slice none 0 0) 1 24 Tryd.underlying23 hi hz0 hz1 hz2 rfl (by decide) _ _ _ rfl (World.ownsRow_nil _ _ _ _) ⟨w.heap.size + 1 + 1, 0, none⟩ 1 1 [.slice (some ⟨w.heap.size + 1, 0, none⟩) 2 2] rfl rfl (one_new _ _ _ _ (by simp)) (by simp [Value.oneCell']) (by decide) (by decide) (by simp) ?_; intro v1 w1 hown1 hgrow1 hnil1; have hc4 := keep_none hgrow1 (a := ⟨w.heap.size, 4, none⟩) (v := .int .i64 db) (by simp [go_sem]); have HG := hide hgrow1; have HO := hide hown1; clear hgrow1 hown1 hnil1)) | (go_at_call 99; fail))
  have hb1 : Below w.heap.size w w1 := (((((Below.refl _ w).alloc (Nat.le_refl _) _).alloc (by simp) _).alloc (by simp <;> omega) _).grown (unhide HG) (by simp <;> omega) (fun k hk => by cases hk))
  have HB1 := hide hb1
  have HR1 := hide (snoc_rowed (W := w.alloc (.cells #[.string hp, .bool tls, .string user, .string pw, .int .i64 db] 26)) (World.ownsRow_nil _ (w.heap.size + 3) 28 1) (Rowed.nil _ _) rfl (c := [authB, pw]) rfl (unhide HG) (g := w.heap.size + 1) (m := 2) (by simp) rfl (by omega))
  clear hb1
  refine (Tryd.strconv_Itoa db (unhide H0) (unhide H1) w1 ((unhide ht) w1 (unhide HB1))).mono ?_
  rintro e w2 ⟨rfl, hw2⟩
  have hb2 : Below w1.heap.size w1 w2 := by
    obtain ⟨k, os, rfl⟩ := hw2
    exact Lib.below_grow _ _ (Nat.le_refl _) k os
  have HO2 := hide ((unhide HO).kept (below_grownBy hb2) (by cases hv : v1.ownBlock <;> simp))
  have HR2 := hide ((unhide HR1).stays hb2)
  have hws : w.heap.size + 3 ≤ w2.heap.size := by have a1 := (unhide HG).size; have a2 := hb2.size; simp at a1; omega
  have HB2 := hide ((unhide HB1).trans (hb2.mono (unhide HB1).size))
  clear hw2 hb2 hc4 HG HO HR1
  go_wp2_with (at_builtin; go_must (refine wpList_append_own _ rfl (.tmp 27) (.tmp 32) 23 rfl (w.heap.size + 3) 28 i0 (.slice none 0 0) 1 24 Tryd.underlying23 hi hz0 hz1 hz2 rfl (by decide) _ _ _ rfl ((unhide HO2).alloc _ |>.alloc _) ⟨w2.heap.size + 1, 0, none⟩ 1 1 [.slice (some ⟨w2.heap.size, 0, none⟩) 2 2] rfl rfl (one_new _ _ _ _ (by simp)) (by simp [Value.oneCell']) (by decide) (by decide) (by simp <;> omega) ?_; intro v2 w3 hown3 hgrow3 hnil3; have HG3 := hide hgrow3; have HO3 := hide hown3; clear hgrow3 hown3 hnil3))
  go_ret
  refine ⟨v2, rfl, ?_, ?_⟩
  · exact snoc_cmds (unhide HO2) (unhide HR2) rfl (c := [selB, numB db]) rfl (unhide HG3) rfl rfl (unhide HO3)
  · exact (((unhide HB2).alloc (by omega) _).alloc (by simp <;> omega) _).grown (unhide HG3) (by simp <;> omega) (fun k hk => by have := ((unhide HO2).lt k hk).1; omega)

set_option maxHeartbeats 400000 in
theorem prel_n0 (hp user pw : ByteArray) (tls : Bool) (w : World) (hu : (user.toList == []) = true) (hpw : (pw.toList == []) = true) :
    Calls Tryd.prog 12 #[.agg #[.string hp, .bool tls, .string user, .string pw, .int .i64 0]] w fun e w' => ∃ v, e = .returned v ∧ Cmds w' v [] ∧ Below w.heap.size w w' := by
  obtain ⟨i0, hi, hz0, hz1, hz2⟩ := info_parts info28
  go_enter Tryd.func12, Tryd.ntmps12
  go_wp2_with fail
  go_ret
  exact ⟨_, rfl, Cmds.nil _, (Below.refl _ w).alloc (Nat.le_refl _) _⟩

set_option maxHeartbeats 400000 in
theorem prel_nd (hp user pw : ByteArray) (tls : Bool) (db : Int) (w : World) (hu : (user.toList == []) = true) (hpw : (pw.toList == []) = true) (hd : (db == 0) = false) (h0 : -9223372036854775808 ≤ db) (h1 : db ≤ 9223372036854775807) (ht : Hid (Tab w)) :
    Calls Tryd.prog 12 #[.agg #[.string hp, .bool tls, .string user, .string pw, .int .i64 db]] w fun e w' => ∃ v, e = .returned v ∧ Cmds w' v [[selB, numB db]] ∧ Below w.heap.size w w' := by
  obtain ⟨i0, hi, hz0, hz1, hz2⟩ := info_parts info28
  have H0 := hide h0
  have H1 := hide h1
  clear h0 h1
  go_enter Tryd.func12, Tryd.ntmps12
  go_wp2_with fail
  have hb1 : Below w.heap.size w (w.alloc (.cells #[.string hp, .bool tls, .string user, .string pw, .int .i64 db] 26)) := (Below.refl _ w).alloc (Nat.le_refl _) _
  have HB1 := hide hb1
  clear hb1
  refine (Tryd.strconv_Itoa db (unhide H0) (unhide H1) _ ((unhide ht) _ (unhide HB1))).mono ?_
  rintro e w2 ⟨rfl, hw2⟩
  have hb2 : Below (w.alloc (.cells #[.string hp, .bool tls, .string user, .string pw, .int .i64 db] 26)).heap.size (w.alloc (.cells #[.string hp, .bool tls, .string user, .string pw, .int .i64 db] 26)) w2 := by
    obtain ⟨k, os, rfl⟩ := hw2
    exact Lib.below_grow _ _ (Nat.le_refl _) k os
  have hws : w.heap.size + 1 ≤ w2.heap.size := by have a2 := hb2.size; simp at a2; omega
  have HB2 := hide ((unhide HB1).trans (hb2.mono (unhide HB1).size))
  clear hw2 hb2
  go_wp2_with (at_builtin; go_must (refine wpList_append_own _ rfl (.tmp 27) (.tmp 32) 23 rfl (w.heap.size + 1) 28 i0 (.slice none 0 0) 1 24 Tryd.underlying23 hi hz0 hz1 hz2 rfl (by decide) _ _ _ rfl (World.ownsRow_nil _ _ _ _) ⟨w2.heap.size + 1, 0, none⟩ 1 1 [.slice (some ⟨w2.heap.size, 0, none⟩) 2 2] rfl rfl (one_new _ _ _ _ (by simp)) (by simp [Value.oneCell']) (by decide) (by decide) (by simp <;> omega) ?_; intro v2 w3 hown3 hgrow3 hnil3; have HG3 := hide hgrow3; have HO3 := hide hown3; clear hgrow3 hown3 hnil3))
  go_ret
  refine ⟨v2, rfl, ?_, ?_⟩
  · exact snoc_cmds (W := w2) (World.ownsRow_nil _ (w.heap.size + 1) 28 1) (Rowed.nil _ _) rfl (c := [selB, numB db]) rfl (unhide HG3) rfl rfl (unhide HO3)
  · exact (((unhide HB2).alloc (by omega) _).alloc (by simp <;> omega) _).grown (unhide HG3) (by simp <;> omega) (fun k hk => by cases hk)

end Go.Proofs.Qxb6632655aDoor
