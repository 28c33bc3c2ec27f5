/-
  THE LAW FnConnectReplyWithSupportedIsBarePlusSupportedTLV: its walk, supported nil.
-/
import Derived.Test.Qxb6634834aFmtReplyC
import Derived.Test.Qxb6634834aFmtZz
import Derived.Test.Qxb6634834aFmtEq
import Derived.Deep.QuietTactic
import Derived.BigQuiet
namespace Go.Proofs.Qxb6634834aFmt
open Go.RowKit

theorem below_drewN {B : Nat} {a w : World} (h : Below B a w) (n : Nat) : Below B a (w.drewN n) := ⟨h.os, h.tape, h.output, h.size, h.block⟩

set_option maxRecDepth 100000 in
set_option maxHeartbeats 400000 in
theorem law_total (a a' : Option Addr) (m ms n ns : Nat) (w : World) (h : 1048576 < (m : Int) + (n : Int)) :
    Calls Tryf.prog 3 #[.slice a m ms, .slice a' n ns] w fun e w' => e = .returned (.bool true) ∧ Below w.heap.size w w' := by
  go_enter Tryf.func3, Tryf.ntmps3
  go_wp2_with fail
  refine (bytes5_big a a' m ms n ns w h).mono ?_
  rintro e w0 ⟨rfl, hw0⟩
  obtain rfl := hw0.symm
  clear hw0
  go_wp2
  go_ret
  exact ⟨rfl, Below.refl _ _⟩

set_option maxRecDepth 100000 in
set_option maxHeartbeats 400000 in
theorem law_long1 (a a' : Option Addr) (m ms n ns : Nat) (w : World) (h : (m : Int) + (n : Int) ≤ 1048576) (h1 : 65536 < (m : Int)) :
    Calls Tryf.prog 3 #[.slice a m ms, .slice a' n ns] w fun e w' => e = .returned (.bool true) ∧ Below w.heap.size w w' := by
  go_enter Tryf.func3, Tryf.ntmps3
  go_wp2_with fail
  refine (bytes5_small a a' m ms n ns w h).mono ?_
  rintro e w0 ⟨rfl, hw0⟩
  obtain rfl := hw0.symm
  clear hw0
  go_wp2
  go_ret
  exact ⟨rfl, Below.refl _ _⟩

set_option maxRecDepth 100000 in
set_option maxHeartbeats 400000 in
theorem law_long2 (a a' : Option Addr) (m ms n ns : Nat) (w : World) (h : (m : Int) + (n : Int) ≤ 1048576) (h1 : (m : Int) ≤ 65536) (h2 : 65536 < (n : Int)) :
    Calls Tryf.prog 3 #[.slice a m ms, .slice a' n ns] w fun e w' => e = .returned (.bool true) ∧ Below w.heap.size w w' := by
  go_enter Tryf.func3, Tryf.ntmps3
  go_wp2_with fail
  refine (bytes5_small a a' m ms n ns w h).mono ?_
  rintro e w0 ⟨rfl, hw0⟩
  obtain rfl := hw0.symm
  clear hw0
  go_wp2
  go_ret
  exact ⟨rfl, Below.refl _ _⟩

set_option maxRecDepth 100000 in
set_option maxHeartbeats 2000000 in
theorem law_nn (w : World) :
    Calls Tryf.prog 3 #[.slice none 0 0, .slice none 0 0] w fun e w' => e = .returned (.bool true) ∧ Below w.heap.size w w' := by
  obtain ⟨i0, hi, hz0, hz1, hz2⟩ := info_parts info5
  have hnil := fun (wx : World) (a : Option Addr) (p c : Nat) => eql_nil wx a p c
  have hnnl := fun (wx : World) (a : Option Addr) (p c : Nat) => neq_nil wx a p c
  go_enter Tryf.func3, Tryf.ntmps3
  go_wp2_with fail
  refine (bytes5_small none none 0 0 0 0 w (by omega)).mono ?_
  rintro e w0 ⟨rfl, hw0⟩
  obtain rfl := hw0.symm
  clear hw0
  go_wp2_with fail
  have HBW := hide (Below.refl w.heap.size w)
  have htw : tw (0 :: 0 :: ([] : List Int)) ≤ 254 := by rw [tw_nil]; omega
  refine (replyc_nn w htw).mono ?_
  rintro e w3 ⟨gf, cf, rfl, hcf, hbf, hb3⟩
  have hlf : 4 + 4 * tw (0 :: 0 :: ([] : List Int)) = 8 := by rw [tw_nil]
  rw [hlf] at hcf
  rw [hlf]
  have HF3 := hide hbf
  have HB3 := hide ((unhide HBW).trans (hb3.mono (unhide HBW).size))
  clear hbf hb3 hlf htw HBW
  go_wp2_with fail
  have htw : tw (0 :: 0 :: ([] : List Int)) ≤ 254 := by decide
  refine (replyc_nn w3 htw).mono ?_
  rintro e w4 ⟨gb, cb, rfl, hcb, hbb, hb4⟩
  have hlb : 4 + 4 * tw (0 :: 0 :: ([] : List Int)) = 8 := by rw [tw_nil]
  rw [hlb] at hcb
  rw [hlb]
  have HF4 := hide ((unhide HF3).stays hb4)
  have HBB4 := hide hbb
  have HB4 := hide ((unhide HB3).trans (hb4.mono (unhide HB3).size))
  clear hbb hb4 hlb htw HF3 HB3
  go_wp2_with fail
  have hze := zz_nil 20 w4
  refine hze.mono ?_
  clear hze
  rintro e w5 ⟨ge, ce, rfl, hbe, hb5⟩
  have HF5 := hide ((unhide HF4).stays hb5)
  have HBB5 := hide ((unhide HBB4).stays hb5)
  have HE5 := hide hbe
  have HB5 := hide ((unhide HB4).trans (hb5.mono (unhide HB4).size))
  clear hbe hb5 HF4 HBB4 HB4
  obtain ⟨E, hE⟩ : ∃ E, E = tlvL 20 (0 :: 0 :: ([] : List Int)) := ⟨_, rfl⟩
  have HEL : Hid (E.length = 4) := by show E.length = _; rw [hE, tlvL_length, tw_nil]
  rw [← hE] at HE5
  have HEE := hide hE
  clear hE
  go_wp2_with fail
  go_loopw [12, 13] (fun v i wr => ∃ k : Nat, k ≤ 4 ∧ i = .int .i64 (k : Int) ∧ Hid (wr.ownsRow w5.heap.size 5 1 v (4 + k) ((1 :: 2 :: 34 :: 99 :: E.take k).map (Value.int .u8))) ∧ Hid (Below w5.heap.size w5 wr)) (fun _ i _ => 4 - (intOf i).toNat)
  case atStart => exact ⟨0, Nat.zero_le _, rfl, World.ownsRow_lit w5 _ 4 (Nat.le_refl _) (by decide) rfl, (Below.refl _ w5).alloc (Nat.le_refl _) _⟩
  case round =>
    obtain ⟨k, hk, rfl, HO, HBr⟩ := hrel
    have hws : w5.heap.size ≤ wr.heap.size := (unhide HBr).size
    by_cases hlt : k < 4
    · have hxl : k < E.length := by rw [unhide HEL]; exact hlt
      obtain ⟨x, hx⟩ : ∃ x, E[k]? = some x := ⟨E[k], List.getElem?_eq_getElem hxl⟩
      have c1 : wr.cell? ⟨ge, k, none⟩ = some (.int .u8 x) := by simpa using cell_stays (unhide HBr) (unhide HE5 k x hx)
      have hbl : ge < wr.heap.size := World.block_lt_of_cell? wr _ c1
      have hki : (k : Int) < 4 := by omega
      have HT := hide (show E.take (k + 1) = E.take k ++ [x] by rw [List.take_add_one, hx]; rfl)
      clear hx hxl
      go_wp2_with (first | (at_builtin; go_must (refine wpList_append_own _ rfl (.tmp 75) (.tmp 80) 22 rfl w5.heap.size 5 i0 (.int .u8 0) 1 1 Tryf.underlying22 hi hz0 hz1 hz2 rfl (by decide) _ _ _ rfl ((unhide HO).alloc _) ⟨wr.heap.size, 0, none⟩ 1 1 [.int .u8 x] rfl rfl (cell_one_new _ _ _) (by simp [Value.oneCell']) (by unfold maxLen; omega) (by omega) (by simp; omega) ?_; intro v1 w1 hown hgrow hnl; have HO1 := hide hown; have HB1 := hide (((unhide HBr).alloc hws _).grown hgrow (by simp; omega) (fun k hk => ((unhide HO).lt k hk).1)); clear hown hgrow hnl)) | (go_at_call 99; fail))
      go_roundw
      case rel => exact ⟨k + 1, by omega, by go_num, (by have h := unhide HO1; show World.ownsRow _ _ _ _ _ _ _; rw [unhide HT]; simpa [Nat.add_assoc] using h), HB1⟩
      case measure => simp [intOf]; omega
    · have hkn : k = 4 := by omega
      subst hkn
      have hXT : E.take (4) = E := List.take_of_length_le (Nat.le_of_eq (unhide HEL))
      rw [hXT] at HO
      obtain ⟨gw, cw, hv, hgb, hgs, hgc⟩ := own_shape (unhide HO) (by omega)
      have ho := unhide HO
      rw [hv] at ho
      rw [hv]
      have hBL : bareL ([] : List Int) = 1 :: 2 :: 34 :: 99 :: E := by rw [unhide HEE]; rfl
      have HW6 : Hid (BAt wr gw 0 (bareL ([] : List Int))) := own_bat' ho (by rw [hBL])
      have HBB6 := hide ((unhide HBB5).stays (unhide HBr))
      have HF6 := hide ((unhide HF5).stays (unhide HBr))
      have HB6 := hide ((unhide HB5).trans ((unhide HBr).mono (unhide HB5).size))
      clear hv HO ho hXT hBL HBr HBB5 HF5 HB5 HE5 hgb hgs hgc hws
      go_wp2_with fail
      refine (eq_any (bareL ([] : List Int)) gb 0 gw 0 cb cw 8 wr (by show _ = _; rw [bareL_length, tw_nil]) (by omega) HBB6 HW6).mono ?_
      rintro e w7 ⟨rfl, mm, hw7⟩
      have hb7 : Below wr.heap.size wr w7 := by rw [hw7]; exact below_drewN (Below.refl _ _) _
      have HBB7 := hide ((unhide HBB6).stays hb7)
      have HF7 := hide ((unhide HF6).stays hb7)
      have HB7 := hide ((unhide HB6).trans (hb7.mono (unhide HB6).size))
      clear hw7 hb7 HBB6 HF6 HB6 HW6
      go_wp2_with fail
      refine (eq_any (bareL ([] : List Int)) gf 0 gb 0 cf cb 8 w7 (by show _ = _; rw [bareL_length, tw_nil]) (by omega) HF7 HBB7).mono ?_
      rintro e w8 ⟨rfl, mm, hw8⟩
      have HB8 : Hid (Below w.heap.size w w8) := by rw [hw8]; exact below_drewN (unhide HB7) _
      clear hw8
      go_wp2
      go_ret
      exact ⟨rfl, unhide HB8⟩

set_option maxRecDepth 100000 in
set_option maxHeartbeats 2000000 in
theorem law_no (O : List Int) (ao : Addr) (n ns qo : Nat) (HN : Hid (n = O.length)) (hn : (n : Int) ≤ 65536) (HQO : Hid (qo = tw (0 :: 0 :: O))) (ho1 : (n : Int) + 4 ≤ 4 * (qo : Int)) (ho2 : 4 * (qo : Int) ≤ (n : Int) + 7) (w : World) (HXO : Hid (∀ (j : Nat) x, O[j]? = some x → w.cell? (ao.add j) = some (.int .u8 x))) (hq : (qo : Int) ≤ 254) :
    Calls Tryf.prog 3 #[.slice none 0 0, .slice (some ao) n ns] w fun e w' => e = .returned (.bool true) ∧ Below w.heap.size w w' := by
  obtain ⟨i0, hi, hz0, hz1, hz2⟩ := info_parts info5
  have hnil := fun (wx : World) (a : Option Addr) (p c : Nat) => eql_nil wx a p c
  have hnnl := fun (wx : World) (a : Option Addr) (p c : Nat) => neq_nil wx a p c
  have hdo : ((n : Int) + 7) / 4 = (qo : Int) := by omega
  go_enter Tryf.func3, Tryf.ntmps3
  go_wp2_with fail
  refine (bytes5_small none (some ao) 0 0 n ns w (by omega)).mono ?_
  rintro e w0 ⟨rfl, hw0⟩
  obtain rfl := hw0.symm
  clear hw0
  go_wp2_with (first | (at_make; go_must (refine wpList_make_full _ rfl (.tmp 37) (.tmp 37) 22 rfl w.heap.size 5 i0 (.int .u8 0) 1 Tryf.underlying22 hi hz0 hz1 .i64 .i64 _ _ n rfl rfl (by omega) (by omega) (by rw [hz2]; omega) (by unfold maxLen; omega) (Nat.le_refl _) ?_; intro w1o hown1 hgrow1; have hb1 : Below w.heap.size w w1o := (Below.refl _ w).grown hgrow1 (Nat.le_refl _) (fun k hk => by cases hk); have hcp := copy_run (dLen := n) (dCap := n) (sLen := n) (sCap := ns) (off := 0) (own_full (made_own hown1)) (unhide HN) (Nat.le_refl _) (fun j x hj => cell_stays hb1 (unhide HXO j x hj)) (by rw [← unhide HN]; simp) hb1 (Nat.le_refl _); obtain ⟨w2o, hruno, hg2, hb2⟩ := hcp; have HGo := hide hg2; have HBo := hide hb2; clear hown1 hgrow1 hg2 hb2 hb1)) | (go_at_call 99; fail))
  have HBW := HBo
  have HO1 : Hid (BAt w2o w.heap.size 0 O) := BAt.of_block (unhide HGo) (splice_all n O (unhide HN))
  clear HXO HBo HGo hruno
  have htw : tw (0 :: 0 :: O) ≤ 254 := by rw [← unhide HQO]; omega
  refine (replyc_no O w.heap.size n n HN (by omega) w2o HO1 htw).mono ?_
  rintro e w3 ⟨gf, cf, rfl, hcf, hbf, hb3⟩
  have hlf : 4 + 4 * tw (0 :: 0 :: O) = 4 + 4 * qo := by rw [← unhide HQO]
  rw [hlf] at hcf
  rw [hlf]
  have HF3 := hide hbf
  have HB3 := hide ((unhide HBW).trans (hb3.mono (unhide HBW).size))
  have HO3 := hide ((unhide HO1).stays hb3)
  clear hbf hb3 hlf htw HBW HO1
  go_wp2_with fail
  have htw : tw (0 :: 0 :: O) ≤ 254 := by rw [← unhide HQO]; omega
  refine (replyc_no O w.heap.size n n HN (by omega) w3 HO3 htw).mono ?_
  rintro e w4 ⟨gb, cb, rfl, hcb, hbb, hb4⟩
  have hlb : 4 + 4 * tw (0 :: 0 :: O) = 4 + 4 * qo := by rw [← unhide HQO]
  rw [hlb] at hcb
  rw [hlb]
  have HF4 := hide ((unhide HF3).stays hb4)
  have HBB4 := hide hbb
  have HB4 := hide ((unhide HB3).trans (hb4.mono (unhide HB3).size))
  have HO4 := hide ((unhide HO3).stays hb4)
  clear hbb hb4 hlb htw HF3 HB3 HO3
  go_wp2_with fail
  have hze := zz_any 20 O w.heap.size n w4 (by rw [← unhide HQO]; omega) (unhide HO4)
  rw [← unhide HN, ← unhide HQO] at hze
  refine hze.mono ?_
  clear hze
  rintro e w5 ⟨ge, ce, rfl, hbe, hb5⟩
  have HF5 := hide ((unhide HF4).stays hb5)
  have HBB5 := hide ((unhide HBB4).stays hb5)
  have HE5 := hide hbe
  have HB5 := hide ((unhide HB4).trans (hb5.mono (unhide HB4).size))
  clear hbe hb5 HF4 HBB4 HB4 HO4
  obtain ⟨E, hE⟩ : ∃ E, E = tlvL 20 (0 :: 0 :: O) := ⟨_, rfl⟩
  have HEL : Hid (E.length = 4 * qo) := by show E.length = _; rw [hE, tlvL_length, ← unhide HQO]
  rw [← hE] at HE5
  have HEE := hide hE
  clear hE
  go_wp2_with fail
  go_loopw [12, 13] (fun v i wr => ∃ k : Nat, k ≤ 4 * qo ∧ i = .int .i64 (k : Int) ∧ Hid (wr.ownsRow w5.heap.size 5 1 v (4 + k) ((1 :: (1 + (qo : Int)) :: 34 :: 99 :: E.take k).map (Value.int .u8))) ∧ Hid (Below w5.heap.size w5 wr)) (fun _ i _ => 4 * qo - (intOf i).toNat)
  case atStart => exact ⟨0, Nat.zero_le _, rfl, World.ownsRow_lit w5 _ 4 (Nat.le_refl _) (by decide) rfl, (Below.refl _ w5).alloc (Nat.le_refl _) _⟩
  case round =>
    obtain ⟨k, hk, rfl, HO, HBr⟩ := hrel
    have hws : w5.heap.size ≤ wr.heap.size := (unhide HBr).size
    by_cases hlt : k < 4 * qo
    · have hxl : k < E.length := by rw [unhide HEL]; exact hlt
      obtain ⟨x, hx⟩ : ∃ x, E[k]? = some x := ⟨E[k], List.getElem?_eq_getElem hxl⟩
      have c1 : wr.cell? ⟨ge, k, none⟩ = some (.int .u8 x) := by simpa using cell_stays (unhide HBr) (unhide HE5 k x hx)
      have hbl : ge < wr.heap.size := World.block_lt_of_cell? wr _ c1
      have hki : (k : Int) < 4 * (qo : Int) := by omega
      have HT := hide (show E.take (k + 1) = E.take k ++ [x] by rw [List.take_add_one, hx]; rfl)
      clear hx hxl
      go_wp2_with (first | (at_builtin; go_must (refine wpList_append_own _ rfl (.tmp 75) (.tmp 80) 22 rfl w5.heap.size 5 i0 (.int .u8 0) 1 1 Tryf.underlying22 hi hz0 hz1 hz2 rfl (by decide) _ _ _ rfl ((unhide HO).alloc _) ⟨wr.heap.size, 0, none⟩ 1 1 [.int .u8 x] rfl rfl (cell_one_new _ _ _) (by simp [Value.oneCell']) (by unfold maxLen; omega) (by omega) (by simp; omega) ?_; intro v1 w1 hown hgrow hnl; have HO1 := hide hown; have HB1 := hide (((unhide HBr).alloc hws _).grown hgrow (by simp; omega) (fun k hk => ((unhide HO).lt k hk).1)); clear hown hgrow hnl)) | (go_at_call 99; fail))
      go_roundw
      case rel => exact ⟨k + 1, by omega, by go_num, (by have h := unhide HO1; show World.ownsRow _ _ _ _ _ _ _; rw [unhide HT]; simpa [Nat.add_assoc] using h), HB1⟩
      case measure => simp [intOf]; omega
    · have hkn : k = 4 * qo := by omega
      subst hkn
      have hXT : E.take (4 * qo) = E := List.take_of_length_le (Nat.le_of_eq (unhide HEL))
      rw [hXT] at HO
      obtain ⟨gw, cw, hv, hgb, hgs, hgc⟩ := own_shape (unhide HO) (by omega)
      have ho := unhide HO
      rw [hv] at ho
      rw [hv]
      have hBL : bareL O = 1 :: (1 + (qo : Int)) :: 34 :: 99 :: E := by rw [bareL, unhide HEE, ← unhide HQO]
      have HW6 : Hid (BAt wr gw 0 (bareL O)) := own_bat' ho (by rw [hBL])
      have HBB6 := hide ((unhide HBB5).stays (unhide HBr))
      have HF6 := hide ((unhide HF5).stays (unhide HBr))
      have HB6 := hide ((unhide HB5).trans ((unhide HBr).mono (unhide HB5).size))
      clear hv HO ho hXT hBL HBr HBB5 HF5 HB5 HE5 hgb hgs hgc hws
      go_wp2_with fail
      refine (eq_any (bareL O) gb 0 gw 0 cb cw (4 + 4 * qo) wr (by show _ = _; rw [bareL_length, ← unhide HQO]) (by omega) HBB6 HW6).mono ?_
      rintro e w7 ⟨rfl, mm, hw7⟩
      have hb7 : Below wr.heap.size wr w7 := by rw [hw7]; exact below_drewN (Below.refl _ _) _
      have HBB7 := hide ((unhide HBB6).stays hb7)
      have HF7 := hide ((unhide HF6).stays hb7)
      have HB7 := hide ((unhide HB6).trans (hb7.mono (unhide HB6).size))
      clear hw7 hb7 HBB6 HF6 HB6 HW6
      go_wp2_with fail
      refine (eq_any (bareL O) gf 0 gb 0 cf cb (4 + 4 * qo) w7 (by show _ = _; rw [bareL_length, ← unhide HQO]) (by omega) HF7 HBB7).mono ?_
      rintro e w8 ⟨rfl, mm, hw8⟩
      have HB8 : Hid (Below w.heap.size w w8) := by rw [hw8]; exact below_drewN (unhide HB7) _
      clear hw8
      go_wp2
      go_ret
      exact ⟨rfl, unhide HB8⟩

set_option maxRecDepth 100000 in
set_option maxHeartbeats 2000000 in
theorem law_no_big (O : List Int) (ao : Addr) (n ns qo : Nat) (HN : Hid (n = O.length)) (hn : (n : Int) ≤ 65536) (_HQO : Hid (qo = tw (0 :: 0 :: O))) (ho1 : (n : Int) + 4 ≤ 4 * (qo : Int)) (ho2 : 4 * (qo : Int) ≤ (n : Int) + 7) (w : World) (HXO : Hid (∀ (j : Nat) x, O[j]? = some x → w.cell? (ao.add j) = some (.int .u8 x))) (hq : 254 < (qo : Int)) :
    Calls Tryf.prog 3 #[.slice none 0 0, .slice (some ao) n ns] w fun e w' => e = .returned (.bool true) ∧ Below w.heap.size w w' := by
  obtain ⟨i0, hi, hz0, hz1, hz2⟩ := info_parts info5
  have hnil := fun (wx : World) (a : Option Addr) (p c : Nat) => eql_nil wx a p c
  have hnnl := fun (wx : World) (a : Option Addr) (p c : Nat) => neq_nil wx a p c
  have hdo : ((n : Int) + 7) / 4 = (qo : Int) := by omega
  go_enter Tryf.func3, Tryf.ntmps3
  go_wp2_with fail
  refine (bytes5_small none (some ao) 0 0 n ns w (by omega)).mono ?_
  rintro e w0 ⟨rfl, hw0⟩
  obtain rfl := hw0.symm
  clear hw0
  go_wp2_with (first | (at_make; go_must (refine wpList_make_full _ rfl (.tmp 37) (.tmp 37) 22 rfl w.heap.size 5 i0 (.int .u8 0) 1 Tryf.underlying22 hi hz0 hz1 .i64 .i64 _ _ n rfl rfl (by omega) (by omega) (by rw [hz2]; omega) (by unfold maxLen; omega) (Nat.le_refl _) ?_; intro w1o hown1 hgrow1; have hb1 : Below w.heap.size w w1o := (Below.refl _ w).grown hgrow1 (Nat.le_refl _) (fun k hk => by cases hk); have hcp := copy_run (dLen := n) (dCap := n) (sLen := n) (sCap := ns) (off := 0) (own_full (made_own hown1)) (unhide HN) (Nat.le_refl _) (fun j x hj => cell_stays hb1 (unhide HXO j x hj)) (by rw [← unhide HN]; simp) hb1 (Nat.le_refl _); obtain ⟨w2o, hruno, hg2, hb2⟩ := hcp; have HGo := hide hg2; have HBo := hide hb2; clear hown1 hgrow1 hg2 hb2 hb1)) | (go_at_call 99; fail))
  have HBW := HBo
  go_ret
  exact ⟨rfl, unhide HBW⟩

end Go.Proofs.Qxb6634834aFmt
