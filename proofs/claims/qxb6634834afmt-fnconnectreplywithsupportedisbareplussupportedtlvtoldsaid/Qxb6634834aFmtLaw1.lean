/-
  THE LAW FnConnectReplyWithSupportedIsBarePlusSupportedTLV: its walk, supported not nil.
-/
import Derived.Test.Qxb6634834aFmtLaw0
namespace Go.Proofs.Qxb6634834aFmt
open Go.RowKit

set_option maxRecDepth 100000 in
set_option maxHeartbeats 2000000 in
theorem law_sn (S : List Int) (as_ : Addr) (m ms qs : Nat) (HM : Hid (m = S.length)) (hm : (m : Int) ≤ 65536) (HQS : Hid (qs = tw (0 :: 0 :: S))) (hs1 : (m : Int) + 4 ≤ 4 * (qs : Int)) (hs2 : 4 * (qs : Int) ≤ (m : Int) + 7) (w : World) (HXS : Hid (∀ (j : Nat) x, S[j]? = some x → w.cell? (as_.add j) = some (.int .u8 x))) (hq : (qs : Int) + 1 ≤ 254) :
    Calls Tryf.prog 3 #[.slice (some as_) m ms, .slice none 0 0] w fun e w' => e = .returned (.bool true) ∧ Below w.heap.size w w' := by
  obtain ⟨i0, hi, hz0, hz1, hz2⟩ := info_parts info5
  have hnil := fun (wx : World) (a : Option Addr) (p c : Nat) => eql_nil wx a p c
  have hnnl := fun (wx : World) (a : Option Addr) (p c : Nat) => neq_nil wx a p c
  have hds : ((m : Int) + 7) / 4 = (qs : Int) := by omega
  go_enter Tryf.func3, Tryf.ntmps3
  go_wp2_with fail
  refine (bytes5_small (some as_) none m ms 0 0 w (by omega)).mono ?_
  rintro e w0 ⟨rfl, hw0⟩
  obtain rfl := hw0.symm
  clear hw0
  go_wp2_with (first | (at_make; go_must (refine wpList_make_full _ rfl (.tmp 28) (.tmp 28) 22 rfl w.heap.size 5 i0 (.int .u8 0) 1 Tryf.underlying22 hi hz0 hz1 .i64 .i64 _ _ m rfl rfl (by omega) (by omega) (by rw [hz2]; omega) (by unfold maxLen; omega) (Nat.le_refl _) ?_; intro w1s hown1 hgrow1; have hb1 : Below w.heap.size w w1s := (Below.refl _ w).grown hgrow1 (Nat.le_refl _) (fun k hk => by cases hk); have hcp := copy_run (dLen := m) (dCap := m) (sLen := m) (sCap := ms) (off := 0) (own_full (made_own hown1)) (unhide HM) (Nat.le_refl _) (fun j x hj => cell_stays hb1 (unhide HXS j x hj)) (by rw [← unhide HM]; simp) hb1 (Nat.le_refl _); obtain ⟨w2s, hruns, hg2, hb2⟩ := hcp; have HGs := hide hg2; have HBs := hide hb2; clear hown1 hgrow1 hg2 hb2 hb1)) | (go_at_call 99; fail))
  have HBW := HBs
  have HS0 : Hid (BAt w2s w.heap.size 0 S) := BAt.of_block (unhide HGs) (splice_all m S (unhide HM))
  have HS1 := HS0
  clear HXS HBs HGs HS0 hruns
  have htw : tw (0 :: 0 :: S) + tw (0 :: 0 :: ([] : List Int)) ≤ 254 := by rw [← unhide HQS, tw_nil]; omega
  refine (replyc_sn S w.heap.size m m HM (by omega) w2s HS1 htw).mono ?_
  rintro e w3 ⟨gf, cf, rfl, hcf, hbf, hb3⟩
  have hlf : 4 + 4 * tw (0 :: 0 :: S) + 4 * tw (0 :: 0 :: ([] : List Int)) = 8 + 4 * qs := by rw [← unhide HQS, tw_nil]; omega
  rw [hlf] at hcf
  rw [hlf]
  have HF3 := hide hbf
  have HB3 := hide ((unhide HBW).trans (hb3.mono (unhide HBW).size))
  have HS3 := hide ((unhide HS1).stays hb3)
  clear hbf hb3 hlf htw HBW HS1
  go_wp2_with fail
  have htw : tw (0 :: 0 :: ([] : List Int)) ≤ 254 := by decide
  refine (replyc_nn w3 htw).mono ?_
  rintro e w4 ⟨gb, cb, rfl, hcb, hbb, hb4⟩
  have hlb : 4 + 4 * tw (0 :: 0 :: ([] : List Int)) = 8 := by rw [tw_nil]
  rw [hlb] at hcb
  rw [hlb]
  have HF4 := hide ((unhide HF3).stays hb4)
  have HBB4 := hide hbb
  have HB4 := hide ((unhide HB3).trans (hb4.mono (unhide HB3).size))
  have HS4 := hide ((unhide HS3).stays hb4)
  clear hbb hb4 hlb htw HF3 HB3 HS3
  go_wp2_with fail
  have hze := zz_nil 20 w4
  refine hze.mono ?_
  clear hze
  rintro e w5 ⟨ge, ce, rfl, hbe, hb5⟩
  have HF5 := hide ((unhide HF4).stays hb5)
  have HBB5 := hide ((unhide HBB4).stays hb5)
  have HE5 := hide hbe
  have HB5 := hide ((unhide HB4).trans (hb5.mono (unhide HB4).size))
  have HS5 := hide ((unhide HS4).stays hb5)
  clear hbe hb5 HF4 HBB4 HB4 HS4
  obtain ⟨E, hE⟩ : ∃ E, E = tlvL 20 (0 :: 0 :: ([] : List Int)) := ⟨_, rfl⟩
  have HEL : Hid (E.length = 4) := by show E.length = _; rw [hE, tlvL_length, tw_nil]
  rw [← hE] at HE5
  have HEE := hide hE
  clear hE
  go_wp2_with fail
  go_loopw [12, 13] (fun v i wr => ∃ k : Nat, k ≤ 4 ∧ i = .int .i64 (k : Int) ∧ Hid (wr.ownsRow w5.heap.size 5 1 v (4 + k) ((1 :: 2 :: 34 :: 99 :: E.take k).map (Value.int .u8))) ∧ Hid (Below w5.heap.size w5 wr)) (fun _ i _ => 4 - (intOf i).toNat)
  case atStart => exact ⟨0, Nat.zero_le _, rfl, World.ownsRow_lit w5 _ 4 (Nat.le_refl _) (by decide) rfl, (Below.refl _ w5).alloc (Nat.le_refl _) _⟩
  case round =>
    obtain ⟨k, hk, rfl, HO, HBr⟩ := hrel
    have hws : w5.heap.size ≤ wr.heap.size := (unhide HBr).size
    by_cases hlt : k < 4
    · have hxl : k < E.length := by rw [unhide HEL]; exact hlt
      obtain ⟨x, hx⟩ : ∃ x, E[k]? = some x := ⟨E[k], List.getElem?_eq_getElem hxl⟩
      have c1 : wr.cell? ⟨ge, k, none⟩ = some (.int .u8 x) := by simpa using cell_stays (unhide HBr) (unhide HE5 k x hx)
      have hbl : ge < wr.heap.size := World.block_lt_of_cell? wr _ c1
      have hki : (k : Int) < 4 := by omega
      have HT := hide (show E.take (k + 1) = E.take k ++ [x] by rw [List.take_add_one, hx]; rfl)
      clear hx hxl
      go_wp2_with (first | (at_builtin; go_must (refine wpList_append_own _ rfl (.tmp 75) (.tmp 80) 22 rfl w5.heap.size 5 i0 (.int .u8 0) 1 1 Tryf.underlying22 hi hz0 hz1 hz2 rfl (by decide) _ _ _ rfl ((unhide HO).alloc _) ⟨wr.heap.size, 0, none⟩ 1 1 [.int .u8 x] rfl rfl (cell_one_new _ _ _) (by simp [Value.oneCell']) (by unfold maxLen; omega) (by omega) (by simp; omega) ?_; intro v1 w1 hown hgrow hnl; have HO1 := hide hown; have HB1 := hide (((unhide HBr).alloc hws _).grown hgrow (by simp; omega) (fun k hk => ((unhide HO).lt k hk).1)); clear hown hgrow hnl)) | (go_at_call 99; fail))
      go_roundw
      case rel => exact ⟨k + 1, by omega, by go_num, (by have h := unhide HO1; show World.ownsRow _ _ _ _ _ _ _; rw [unhide HT]; simpa [Nat.add_assoc] using h), HB1⟩
      case measure => simp [intOf]; omega
    · have hkn : k = 4 := by omega
      subst hkn
      have hXT : E.take (4) = E := List.take_of_length_le (Nat.le_of_eq (unhide HEL))
      rw [hXT] at HO
      obtain ⟨gw, cw, hv, hgb, hgs, hgc⟩ := own_shape (unhide HO) (by omega)
      have ho := unhide HO
      rw [hv] at ho
      rw [hv]
      have hBL : bareL ([] : List Int) = 1 :: 2 :: 34 :: 99 :: E := by rw [unhide HEE]; rfl
      have HW6 : Hid (BAt wr gw 0 (bareL ([] : List Int))) := own_bat' ho (by rw [hBL])
      have HBB6 := hide ((unhide HBB5).stays (unhide HBr))
      have HF6 := hide ((unhide HF5).stays (unhide HBr))
      have HB6 := hide ((unhide HB5).trans ((unhide HBr).mono (unhide HB5).size))
      have HS6 := hide ((unhide HS5).stays (unhide HBr))
      clear hv HO ho hXT hBL HBr HBB5 HF5 HB5 HE5 hgb hgs hgc hws HS5
      go_wp2_with fail
      refine (eq_any (bareL ([] : List Int)) gb 0 gw 0 cb cw 8 wr (by show _ = _; rw [bareL_length, tw_nil]) (by omega) HBB6 HW6).mono ?_
      rintro e w7 ⟨rfl, mm, hw7⟩
      have hb7 : Below wr.heap.size wr w7 := by rw [hw7]; exact below_drewN (Below.refl _ _) _
      have HBB7 := hide ((unhide HBB6).stays hb7)
      have HF7 := hide ((unhide HF6).stays hb7)
      have HB7 := hide ((unhide HB6).trans (hb7.mono (unhide HB6).size))
      have HS7 := hide ((unhide HS6).stays hb7)
      clear hw7 hb7 HBB6 HF6 HB6 HW6 HS6
      go_wp2_with fail
      have hzs := zz_any 21 S w.heap.size m w7 (by rw [← unhide HQS]; omega) (unhide HS7)
      rw [← unhide HM, ← unhide HQS] at hzs
      refine hzs.mono ?_
      clear hzs
      rintro e w8 ⟨gs, cs, rfl, hbs, hb8⟩
      have HF8 := hide ((unhide HF7).stays hb8)
      have HBB8 := hide ((unhide HBB7).stays hb8)
      have HS8 := hide hbs
      have HB8 := hide ((unhide HB7).trans (hb8.mono (unhide HB7).size))
      clear hbs hb8 HF7 HBB7 HB7 HS7
      have f0 : w8.cell? ⟨gf, 0, none⟩ = some (.int .u8 1) := by simpa using unhide HF8 0 1 rfl
      have f1 : w8.cell? ⟨gf, 1, none⟩ = some (.int .u8 (1 + (qs : Int) + 1)) := by simpa using unhide HF8 1 (1 + (qs : Int) + 1) (by rw [fullL, ← unhide HQS]; rfl)
      have f2 : w8.cell? ⟨gf, 2, none⟩ = some (.int .u8 34) := by simpa using unhide HF8 2 34 rfl
      have f3 : w8.cell? ⟨gf, 3, none⟩ = some (.int .u8 99) := by simpa using unhide HF8 3 99 rfl
      have hne1 : ((1 + (qs : Int) + 1) != (1 + (qs : Int) + 1)) = false := by simp
      have hfl : fullL S ([] : List Int) = ([1, 1 + (tw (0 :: 0 :: S) : Int) + (tw (0 :: 0 :: ([] : List Int)) : Int), 34, 99] : List Int) ++ (tlvL 21 (0 :: 0 :: S) ++ tlvL 20 (0 :: 0 :: ([] : List Int))) := rfl
      have h4 := (unhide HF8).drop 4
      rw [hfl] at h4
      have HP1 : Hid (BAt w8 gf 4 (tlvL 21 (0 :: 0 :: S))) := by
        have h5 := h4.take (tlvL 21 (0 :: 0 :: S)).length
        show BAt _ _ _ _
        simpa using h5
      have HP2 : Hid (BAt w8 gf (4 + 4 * qs) (tlvL 20 (0 :: 0 :: ([] : List Int)))) := by
        have h5 := h4.drop (tlvL 21 (0 :: 0 :: S)).length
        rw [tlvL_length, ← unhide HQS] at h5
        show BAt _ _ _ _
        simpa [tlvL_length, ← unhide HQS] using h5
      have HP3 : Hid (BAt w8 gb 4 (tlvL 20 (0 :: 0 :: ([] : List Int)))) := by
        show BAt _ _ _ _
        simpa [bareL] using (unhide HBB8).drop 4
      clear h4 hfl HF8 HBB8
      go_wp2_with fail
      refine (eq_any (tlvL 21 (0 :: 0 :: S)) gf 4 gs 0 (cf - 4) cs (4 * qs) w8 (by show _ = _; rw [tlvL_length, ← unhide HQS]) (by omega) HP1 HS8).mono ?_
      rintro e w9 ⟨rfl, mm, hw9⟩
      have hb9 : Below w8.heap.size w8 w9 := by rw [hw9]; exact below_drewN (Below.refl _ _) _
      have HQ9 : Hid (∀ z, Calls Tryf.prog 8 #[.slice (some ⟨gf, 4 + 4 * qs, none⟩) (8 + 4 * qs - (4 + 4 * qs)) (cf - (4 + 4 * qs)), .slice (some ⟨gb, 4, none⟩) (4) (cb - 4)] (w9.drewN z) fun e w'' => e = .returned (.bool true) ∧ ∃ m, w'' = w9.drewN m) := by
        intro z
        have e1 : 8 + 4 * qs - (4 + 4 * qs) = 4 := by omega
        rw [e1]
        exact Calls.quiet_of (eq_any (tlvL 20 (0 :: 0 :: ([] : List Int))) gf (4 + 4 * qs) gb 4 (cf - (4 + 4 * qs)) (cb - 4) (4) (w9.drewN z) (by show _ = _; rw [tlvL_length, tw_nil]) (by omega) ((unhide HP2).stays (below_drewN hb9 z)) ((unhide HP3).stays (below_drewN hb9 z)))
      have HB9 := hide ((unhide HB8).trans (hb9.mono (unhide HB8).size))
      clear hw9 hb9 HP1 HP2 HP3 HS8 HB8 f0 f1 f2 f3
      go_wp2_with fail
      go_quiet ((go_at_call 8; exact unhide HQ9 _))
      go_wp2
      go_ret
      exact ⟨rfl, below_drewN (unhide HB9) _⟩

set_option maxRecDepth 100000 in
set_option maxHeartbeats 2000000 in
theorem law_sn_big (S : List Int) (as_ : Addr) (m ms qs : Nat) (HM : Hid (m = S.length)) (hm : (m : Int) ≤ 65536) (_HQS : Hid (qs = tw (0 :: 0 :: S))) (hs1 : (m : Int) + 4 ≤ 4 * (qs : Int)) (hs2 : 4 * (qs : Int) ≤ (m : Int) + 7) (w : World) (HXS : Hid (∀ (j : Nat) x, S[j]? = some x → w.cell? (as_.add j) = some (.int .u8 x))) (hq : 254 < (qs : Int) + 1) :
    Calls Tryf.prog 3 #[.slice (some as_) m ms, .slice none 0 0] w fun e w' => e = .returned (.bool true) ∧ Below w.heap.size w w' := by
  obtain ⟨i0, hi, hz0, hz1, hz2⟩ := info_parts info5
  have hnil := fun (wx : World) (a : Option Addr) (p c : Nat) => eql_nil wx a p c
  have hnnl := fun (wx : World) (a : Option Addr) (p c : Nat) => neq_nil wx a p c
  have hds : ((m : Int) + 7) / 4 = (qs : Int) := by omega
  go_enter Tryf.func3, Tryf.ntmps3
  go_wp2_with fail
  refine (bytes5_small (some as_) none m ms 0 0 w (by omega)).mono ?_
  rintro e w0 ⟨rfl, hw0⟩
  obtain rfl := hw0.symm
  clear hw0
  go_wp2_with (first | (at_make; go_must (refine wpList_make_full _ rfl (.tmp 28) (.tmp 28) 22 rfl w.heap.size 5 i0 (.int .u8 0) 1 Tryf.underlying22 hi hz0 hz1 .i64 .i64 _ _ m rfl rfl (by omega) (by omega) (by rw [hz2]; omega) (by unfold maxLen; omega) (Nat.le_refl _) ?_; intro w1s hown1 hgrow1; have hb1 : Below w.heap.size w w1s := (Below.refl _ w).grown hgrow1 (Nat.le_refl _) (fun k hk => by cases hk); have hcp := copy_run (dLen := m) (dCap := m) (sLen := m) (sCap := ms) (off := 0) (own_full (made_own hown1)) (unhide HM) (Nat.le_refl _) (fun j x hj => cell_stays hb1 (unhide HXS j x hj)) (by rw [← unhide HM]; simp) hb1 (Nat.le_refl _); obtain ⟨w2s, hruns, hg2, hb2⟩ := hcp; have HGs := hide hg2; have HBs := hide hb2; clear hown1 hgrow1 hg2 hb2 hb1)) | (go_at_call 99; fail))
  have HBW := HBs
  go_ret
  exact ⟨rfl, unhide HBW⟩

set_option maxRecDepth 100000 in
set_option maxHeartbeats 2000000 in
theorem law_so (S : List Int) (as_ : Addr) (m ms qs : Nat) (HM : Hid (m = S.length)) (hm : (m : Int) ≤ 65536) (HQS : Hid (qs = tw (0 :: 0 :: S))) (hs1 : (m : Int) + 4 ≤ 4 * (qs : Int)) (hs2 : 4 * (qs : Int) ≤ (m : Int) + 7) (O : List Int) (ao : Addr) (n ns qo : Nat) (HN : Hid (n = O.length)) (hn : (n : Int) ≤ 65536) (HQO : Hid (qo = tw (0 :: 0 :: O))) (ho1 : (n : Int) + 4 ≤ 4 * (qo : Int)) (ho2 : 4 * (qo : Int) ≤ (n : Int) + 7) (w : World) (HXS : Hid (∀ (j : Nat) x, S[j]? = some x → w.cell? (as_.add j) = some (.int .u8 x))) (HXO : Hid (∀ (j : Nat) x, O[j]? = some x → w.cell? (ao.add j) = some (.int .u8 x))) (hq : (qs : Int) + (qo : Int) ≤ 254) :
    Calls Tryf.prog 3 #[.slice (some as_) m ms, .slice (some ao) n ns] w fun e w' => e = .returned (.bool true) ∧ Below w.heap.size w w' := by
  obtain ⟨i0, hi, hz0, hz1, hz2⟩ := info_parts info5
  have hnil := fun (wx : World) (a : Option Addr) (p c : Nat) => eql_nil wx a p c
  have hnnl := fun (wx : World) (a : Option Addr) (p c : Nat) => neq_nil wx a p c
  have hds : ((m : Int) + 7) / 4 = (qs : Int) := by omega
  have hdo : ((n : Int) + 7) / 4 = (qo : Int) := by omega
  go_enter Tryf.func3, Tryf.ntmps3
  go_wp2_with fail
  refine (bytes5_small (some as_) (some ao) m ms n ns w (by omega)).mono ?_
  rintro e w0 ⟨rfl, hw0⟩
  obtain rfl := hw0.symm
  clear hw0
  go_wp2_with (first | (at_make; (refine wpList_make_full _ rfl (.tmp 28) (.tmp 28) 22 rfl w.heap.size 5 i0 (.int .u8 0) 1 Tryf.underlying22 hi hz0 hz1 .i64 .i64 _ _ m rfl rfl (by omega) (by omega) (by rw [hz2]; omega) (by unfold maxLen; omega) (Nat.le_refl _) ?_; intro w1s hown1 hgrow1; have hb1 : Below w.heap.size w w1s := (Below.refl _ w).grown hgrow1 (Nat.le_refl _) (fun k hk => by cases hk); have hcp := copy_run (dLen := m) (dCap := m) (sLen := m) (sCap := ms) (off := 0) (own_full (made_own hown1)) (unhide HM) (Nat.le_refl _) (fun j x hj => cell_stays hb1 (unhide HXS j x hj)) (by rw [← unhide HM]; simp) hb1 (Nat.le_refl _); obtain ⟨w2s, hruns, hg2, hb2⟩ := hcp; have HGs := hide hg2; have HBs := hide hb2; clear hown1 hgrow1 hg2 hb2 hb1)) | (at_make; (refine wpList_make_full _ rfl (.tmp 37) (.tmp 37) 22 rfl w2s.heap.size 5 i0 (.int .u8 0) 1 Tryf.underlying22 hi hz0 hz1 .i64 .i64 _ _ n rfl rfl (by omega) (by omega) (by rw [hz2]; omega) (by unfold maxLen; omega) (Nat.le_refl _) ?_; intro w1o hown1 hgrow1; have hb1 : Below w2s.heap.size w2s w1o := (Below.refl _ w2s).grown hgrow1 (Nat.le_refl _) (fun k hk => by cases hk); have hcp := copy_run (dLen := n) (dCap := n) (sLen := n) (sCap := ns) (off := 0) (own_full (made_own hown1)) (unhide HN) (Nat.le_refl _) (fun j x hj => cell_stays hb1 (cell_stays (unhide HBs) (unhide HXO j x hj))) (by rw [← unhide HN]; simp) hb1 (Nat.le_refl _); obtain ⟨w2o, hruno, hg2, hb2⟩ := hcp; have HGo := hide hg2; have HBo := hide hb2; clear hown1 hgrow1 hg2 hb2 hb1)) | (go_at_call 99; fail))
  have HBW := hide ((unhide HBs).trans ((unhide HBo).mono (unhide HBs).size))
  have HS0 : Hid (BAt w2s w.heap.size 0 S) := BAt.of_block (unhide HGs) (splice_all m S (unhide HM))
  have HS1 := hide ((unhide HS0).stays (unhide HBo))
  have HO1 : Hid (BAt w2o w2s.heap.size 0 O) := BAt.of_block (unhide HGo) (splice_all n O (unhide HN))
  clear HXS HBs HGs HS0 hruns HXO HBo HGo hruno
  have htw : tw (0 :: 0 :: S) + tw (0 :: 0 :: O) ≤ 254 := by rw [← unhide HQS, ← unhide HQO]; omega
  refine (replyc_so S w.heap.size m m HM (by omega) O w2s.heap.size n n HN (by omega) w2o HS1 HO1 htw).mono ?_
  rintro e w3 ⟨gf, cf, rfl, hcf, hbf, hb3⟩
  have hlf : 4 + 4 * tw (0 :: 0 :: S) + 4 * tw (0 :: 0 :: O) = 4 + 4 * qs + 4 * qo := by rw [← unhide HQS, ← unhide HQO]
  rw [hlf] at hcf
  rw [hlf]
  have HF3 := hide hbf
  have HB3 := hide ((unhide HBW).trans (hb3.mono (unhide HBW).size))
  have HS3 := hide ((unhide HS1).stays hb3)
  have HO3 := hide ((unhide HO1).stays hb3)
  clear hbf hb3 hlf htw HBW HS1 HO1
  go_wp2_with fail
  have htw : tw (0 :: 0 :: O) ≤ 254 := by rw [← unhide HQO]; omega
  refine (replyc_no O w2s.heap.size n n HN (by omega) w3 HO3 htw).mono ?_
  rintro e w4 ⟨gb, cb, rfl, hcb, hbb, hb4⟩
  have hlb : 4 + 4 * tw (0 :: 0 :: O) = 4 + 4 * qo := by rw [← unhide HQO]
  rw [hlb] at hcb
  rw [hlb]
  have HF4 := hide ((unhide HF3).stays hb4)
  have HBB4 := hide hbb
  have HB4 := hide ((unhide HB3).trans (hb4.mono (unhide HB3).size))
  have HS4 := hide ((unhide HS3).stays hb4)
  have HO4 := hide ((unhide HO3).stays hb4)
  clear hbb hb4 hlb htw HF3 HB3 HS3 HO3
  go_wp2_with fail
  have hze := zz_any 20 O w2s.heap.size n w4 (by rw [← unhide HQO]; omega) (unhide HO4)
  rw [← unhide HN, ← unhide HQO] at hze
  refine hze.mono ?_
  clear hze
  rintro e w5 ⟨ge, ce, rfl, hbe, hb5⟩
  have HF5 := hide ((unhide HF4).stays hb5)
  have HBB5 := hide ((unhide HBB4).stays hb5)
  have HE5 := hide hbe
  have HB5 := hide ((unhide HB4).trans (hb5.mono (unhide HB4).size))
  have HS5 := hide ((unhide HS4).stays hb5)
  clear hbe hb5 HF4 HBB4 HB4 HS4 HO4
  obtain ⟨E, hE⟩ : ∃ E, E = tlvL 20 (0 :: 0 :: O) := ⟨_, rfl⟩
  have HEL : Hid (E.length = 4 * qo) := by show E.length = _; rw [hE, tlvL_length, ← unhide HQO]
  rw [← hE] at HE5
  have HEE := hide hE
  clear hE
  go_wp2_with fail
  go_loopw [12, 13] (fun v i wr => ∃ k : Nat, k ≤ 4 * qo ∧ i = .int .i64 (k : Int) ∧ Hid (wr.ownsRow w5.heap.size 5 1 v (4 + k) ((1 :: (1 + (qo : Int)) :: 34 :: 99 :: E.take k).map (Value.int .u8))) ∧ Hid (Below w5.heap.size w5 wr)) (fun _ i _ => 4 * qo - (intOf i).toNat)
  case atStart => exact ⟨0, Nat.zero_le _, rfl, World.ownsRow_lit w5 _ 4 (Nat.le_refl _) (by decide) rfl, (Below.refl _ w5).alloc (Nat.le_refl _) _⟩
  case round =>
    obtain ⟨k, hk, rfl, HO, HBr⟩ := hrel
    have hws : w5.heap.size ≤ wr.heap.size := (unhide HBr).size
    by_cases hlt : k < 4 * qo
    · have hxl : k < E.length := by rw [unhide HEL]; exact hlt
      obtain ⟨x, hx⟩ : ∃ x, E[k]? = some x := ⟨E[k], List.getElem?_eq_getElem hxl⟩
      have c1 : wr.cell? ⟨ge, k, none⟩ = some (.int .u8 x) := by simpa using cell_stays (unhide HBr) (unhide HE5 k x hx)
      have hbl : ge < wr.heap.size := World.block_lt_of_cell? wr _ c1
      have hki : (k : Int) < 4 * (qo : Int) := by omega
      have HT := hide (show E.take (k + 1) = E.take k ++ [x] by rw [List.take_add_one, hx]; rfl)
      clear hx hxl
      go_wp2_with (first | (at_builtin; go_must (refine wpList_append_own _ rfl (.tmp 75) (.tmp 80) 22 rfl w5.heap.size 5 i0 (.int .u8 0) 1 1 Tryf.underlying22 hi hz0 hz1 hz2 rfl (by decide) _ _ _ rfl ((unhide HO).alloc _) ⟨wr.heap.size, 0, none⟩ 1 1 [.int .u8 x] rfl rfl (cell_one_new _ _ _) (by simp [Value.oneCell']) (by unfold maxLen; omega) (by omega) (by simp; omega) ?_; intro v1 w1 hown hgrow hnl; have HO1 := hide hown; have HB1 := hide (((unhide HBr).alloc hws _).grown hgrow (by simp; omega) (fun k hk => ((unhide HO).lt k hk).1)); clear hown hgrow hnl)) | (go_at_call 99; fail))
      go_roundw
      case rel => exact ⟨k + 1, by omega, by go_num, (by have h := unhide HO1; show World.ownsRow _ _ _ _ _ _ _; rw [unhide HT]; simpa [Nat.add_assoc] using h), HB1⟩
      case measure => simp [intOf]; omega
    · have hkn : k = 4 * qo := by omega
      subst hkn
      have hXT : E.take (4 * qo) = E := List.take_of_length_le (Nat.le_of_eq (unhide HEL))
      rw [hXT] at HO
      obtain ⟨gw, cw, hv, hgb, hgs, hgc⟩ := own_shape (unhide HO) (by omega)
      have ho := unhide HO
      rw [hv] at ho
      rw [hv]
      have hBL : bareL O = 1 :: (1 + (qo : Int)) :: 34 :: 99 :: E := by rw [bareL, unhide HEE, ← unhide HQO]
      have HW6 : Hid (BAt wr gw 0 (bareL O)) := own_bat' ho (by rw [hBL])
      have HBB6 := hide ((unhide HBB5).stays (unhide HBr))
      have HF6 := hide ((unhide HF5).stays (unhide HBr))
      have HB6 := hide ((unhide HB5).trans ((unhide HBr).mono (unhide HB5).size))
      have HS6 := hide ((unhide HS5).stays (unhide HBr))
      clear hv HO ho hXT hBL HBr HBB5 HF5 HB5 HE5 hgb hgs hgc hws HS5
      go_wp2_with fail
      refine (eq_any (bareL O) gb 0 gw 0 cb cw (4 + 4 * qo) wr (by show _ = _; rw [bareL_length, ← unhide HQO]) (by omega) HBB6 HW6).mono ?_
      rintro e w7 ⟨rfl, mm, hw7⟩
      have hb7 : Below wr.heap.size wr w7 := by rw [hw7]; exact below_drewN (Below.refl _ _) _
      have HBB7 := hide ((unhide HBB6).stays hb7)
      have HF7 := hide ((unhide HF6).stays hb7)
      have HB7 := hide ((unhide HB6).trans (hb7.mono (unhide HB6).size))
      have HS7 := hide ((unhide HS6).stays hb7)
      clear hw7 hb7 HBB6 HF6 HB6 HW6 HS6
      go_wp2_with fail
      have hzs := zz_any 21 S w.heap.size m w7 (by rw [← unhide HQS]; omega) (unhide HS7)
      rw [← unhide HM, ← unhide HQS] at hzs
      refine hzs.mono ?_
      clear hzs
      rintro e w8 ⟨gs, cs, rfl, hbs, hb8⟩
      have HF8 := hide ((unhide HF7).stays hb8)
      have HBB8 := hide ((unhide HBB7).stays hb8)
      have HS8 := hide hbs
      have HB8 := hide ((unhide HB7).trans (hb8.mono (unhide HB7).size))
      clear hbs hb8 HF7 HBB7 HB7 HS7
      have f0 : w8.cell? ⟨gf, 0, none⟩ = some (.int .u8 1) := by simpa using unhide HF8 0 1 rfl
      have f1 : w8.cell? ⟨gf, 1, none⟩ = some (.int .u8 (1 + (qs : Int) + (qo : Int))) := by simpa using unhide HF8 1 (1 + (qs : Int) + (qo : Int)) (by rw [fullL, ← unhide HQS, ← unhide HQO]; rfl)
      have f2 : w8.cell? ⟨gf, 2, none⟩ = some (.int .u8 34) := by simpa using unhide HF8 2 34 rfl
      have f3 : w8.cell? ⟨gf, 3, none⟩ = some (.int .u8 99) := by simpa using unhide HF8 3 99 rfl
      have hne1 : ((1 + (qs : Int) + (qo : Int)) != (1 + (qs : Int) + (qo : Int))) = false := by simp
      have hfl : fullL S O = ([1, 1 + (tw (0 :: 0 :: S) : Int) + (tw (0 :: 0 :: O) : Int), 34, 99] : List Int) ++ (tlvL 21 (0 :: 0 :: S) ++ tlvL 20 (0 :: 0 :: O)) := rfl
      have h4 := (unhide HF8).drop 4
      rw [hfl] at h4
      have HP1 : Hid (BAt w8 gf 4 (tlvL 21 (0 :: 0 :: S))) := by
        have h5 := h4.take (tlvL 21 (0 :: 0 :: S)).length
        show BAt _ _ _ _
        simpa using h5
      have HP2 : Hid (BAt w8 gf (4 + 4 * qs) (tlvL 20 (0 :: 0 :: O))) := by
        have h5 := h4.drop (tlvL 21 (0 :: 0 :: S)).length
        rw [tlvL_length, ← unhide HQS] at h5
        show BAt _ _ _ _
        simpa [tlvL_length, ← unhide HQS] using h5
      have HP3 : Hid (BAt w8 gb 4 (tlvL 20 (0 :: 0 :: O))) := by
        show BAt _ _ _ _
        simpa [bareL] using (unhide HBB8).drop 4
      clear h4 hfl HF8 HBB8
      go_wp2_with fail
      refine (eq_any (tlvL 21 (0 :: 0 :: S)) gf 4 gs 0 (cf - 4) cs (4 * qs) w8 (by show _ = _; rw [tlvL_length, ← unhide HQS]) (by omega) HP1 HS8).mono ?_
      rintro e w9 ⟨rfl, mm, hw9⟩
      have hb9 : Below w8.heap.size w8 w9 := by rw [hw9]; exact below_drewN (Below.refl _ _) _
      have HQ9 : Hid (∀ z, Calls Tryf.prog 8 #[.slice (some ⟨gf, 4 + 4 * qs, none⟩) (4 * qo) (cf - (4 + 4 * qs)), .slice (some ⟨gb, 4, none⟩) (4 * qo) (cb - 4)] (w9.drewN z) fun e w'' => e = .returned (.bool true) ∧ ∃ m, w'' = w9.drewN m) := by
        intro z
        exact Calls.quiet_of (eq_any (tlvL 20 (0 :: 0 :: O)) gf (4 + 4 * qs) gb 4 (cf - (4 + 4 * qs)) (cb - 4) (4 * qo) (w9.drewN z) (by show _ = _; rw [tlvL_length, ← unhide HQO]) (by omega) ((unhide HP2).stays (below_drewN hb9 z)) ((unhide HP3).stays (below_drewN hb9 z)))
      have HB9 := hide ((unhide HB8).trans (hb9.mono (unhide HB8).size))
      clear hw9 hb9 HP1 HP2 HP3 HS8 HB8 f0 f1 f2 f3
      go_wp2_with fail
      go_quiet ((go_at_call 8; exact unhide HQ9 _))
      go_wp2
      go_ret
      exact ⟨rfl, below_drewN (unhide HB9) _⟩

set_option maxRecDepth 100000 in
set_option maxHeartbeats 2000000 in
theorem law_so_big (S : List Int) (as_ : Addr) (m ms qs : Nat) (HM : Hid (m = S.length)) (hm : (m : Int) ≤ 65536) (_HQS : Hid (qs = tw (0 :: 0 :: S))) (hs1 : (m : Int) + 4 ≤ 4 * (qs : Int)) (hs2 : 4 * (qs : Int) ≤ (m : Int) + 7) (O : List Int) (ao : Addr) (n ns qo : Nat) (HN : Hid (n = O.length)) (hn : (n : Int) ≤ 65536) (_HQO : Hid (qo = tw (0 :: 0 :: O))) (ho1 : (n : Int) + 4 ≤ 4 * (qo : Int)) (ho2 : 4 * (qo : Int) ≤ (n : Int) + 7) (w : World) (HXS : Hid (∀ (j : Nat) x, S[j]? = some x → w.cell? (as_.add j) = some (.int .u8 x))) (HXO : Hid (∀ (j : Nat) x, O[j]? = some x → w.cell? (ao.add j) = some (.int .u8 x))) (hq : 254 < (qs : Int) + (qo : Int)) :
    Calls Tryf.prog 3 #[.slice (some as_) m ms, .slice (some ao) n ns] w fun e w' => e = .returned (.bool true) ∧ Below w.heap.size w w' := by
  obtain ⟨i0, hi, hz0, hz1, hz2⟩ := info_parts info5
  have hnil := fun (wx : World) (a : Option Addr) (p c : Nat) => eql_nil wx a p c
  have hnnl := fun (wx : World) (a : Option Addr) (p c : Nat) => neq_nil wx a p c
  have hds : ((m : Int) + 7) / 4 = (qs : Int) := by omega
  have hdo : ((n : Int) + 7) / 4 = (qo : Int) := by omega
  go_enter Tryf.func3, Tryf.ntmps3
  go_wp2_with fail
  refine (bytes5_small (some as_) (some ao) m ms n ns w (by omega)).mono ?_
  rintro e w0 ⟨rfl, hw0⟩
  obtain rfl := hw0.symm
  clear hw0
  go_wp2_with (first | (at_make; (refine wpList_make_full _ rfl (.tmp 28) (.tmp 28) 22 rfl w.heap.size 5 i0 (.int .u8 0) 1 Tryf.underlying22 hi hz0 hz1 .i64 .i64 _ _ m rfl rfl (by omega) (by omega) (by rw [hz2]; omega) (by unfold maxLen; omega) (Nat.le_refl _) ?_; intro w1s hown1 hgrow1; have hb1 : Below w.heap.size w w1s := (Below.refl _ w).grown hgrow1 (Nat.le_refl _) (fun k hk => by cases hk); have hcp := copy_run (dLen := m) (dCap := m) (sLen := m) (sCap := ms) (off := 0) (own_full (made_own hown1)) (unhide HM) (Nat.le_refl _) (fun j x hj => cell_stays hb1 (unhide HXS j x hj)) (by rw [← unhide HM]; simp) hb1 (Nat.le_refl _); obtain ⟨w2s, hruns, hg2, hb2⟩ := hcp; have HGs := hide hg2; have HBs := hide hb2; clear hown1 hgrow1 hg2 hb2 hb1)) | (at_make; (refine wpList_make_full _ rfl (.tmp 37) (.tmp 37) 22 rfl w2s.heap.size 5 i0 (.int .u8 0) 1 Tryf.underlying22 hi hz0 hz1 .i64 .i64 _ _ n rfl rfl (by omega) (by omega) (by rw [hz2]; omega) (by unfold maxLen; omega) (Nat.le_refl _) ?_; intro w1o hown1 hgrow1; have hb1 : Below w2s.heap.size w2s w1o := (Below.refl _ w2s).grown hgrow1 (Nat.le_refl _) (fun k hk => by cases hk); have hcp := copy_run (dLen := n) (dCap := n) (sLen := n) (sCap := ns) (off := 0) (own_full (made_own hown1)) (unhide HN) (Nat.le_refl _) (fun j x hj => cell_stays hb1 (cell_stays (unhide HBs) (unhide HXO j x hj))) (by rw [← unhide HN]; simp) hb1 (Nat.le_refl _); obtain ⟨w2o, hruno, hg2, hb2⟩ := hcp; have HGo := hide hg2; have HBo := hide hb2; clear hown1 hgrow1 hg2 hb2 hb1)) | (go_at_call 99; fail))
  have HBW := hide ((unhide HBs).trans ((unhide HBo).mono (unhide HBs).size))
  go_ret
  exact ⟨rfl, unhide HBW⟩

/-- The cells of a slice of bytes that came in. -/
def Came (w : World) (a : Addr) (X : List Int) : Prop := ∀ (j : Nat) x, X[j]? = some x → w.cell? (a.add j) = some (.int .u8 x)

theorem law_early (a a' : Option Addr) (m ms n ns : Nat) (w : World) (h : ¬ (m ≤ 65536 ∧ n ≤ 65536)) :
    Calls Tryf.prog 3 #[.slice a m ms, .slice a' n ns] w fun e w' => e = .returned (.bool true) ∧ Below w.heap.size w w' := by
  by_cases ht : (m : Int) + (n : Int) ≤ 1048576
  · by_cases h1 : (m : Int) ≤ 65536
    · exact law_long2 a a' m ms n ns w ht h1 (by omega)
    · exact law_long1 a a' m ms n ns w ht (by omega)
  · exact law_total a a' m ms n ns w (by omega)

theorem lawAny_nn (w : World) : Calls Tryf.prog 3 #[.slice none 0 0, .slice none 0 0] w fun e w' => e = .returned (.bool true) ∧ Below w.heap.size w w' := law_nn w

theorem lawAny_no (O : List Int) (ao : Addr) (ns : Nat) (w : World) (hO : Came w ao O) :
    Calls Tryf.prog 3 #[.slice none 0 0, .slice (some ao) O.length ns] w fun e w' => e = .returned (.bool true) ∧ Below w.heap.size w w' := by
  by_cases h : 0 ≤ 65536 ∧ O.length ≤ 65536
  · have to := tw2 O
    by_cases hq : tw (0 :: 0 :: O) ≤ 254
    · exact law_no O ao O.length ns (tw (0 :: 0 :: O)) rfl (by omega) rfl (by omega) (by omega) w hO (by omega)
    · exact law_no_big O ao O.length ns (tw (0 :: 0 :: O)) rfl (by omega) rfl (by omega) (by omega) w hO (by omega)
  · exact law_early none (some ao) 0 0 O.length ns w h

theorem lawAny_sn (S : List Int) (as_ : Addr) (ms : Nat) (w : World) (hS : Came w as_ S) :
    Calls Tryf.prog 3 #[.slice (some as_) S.length ms, .slice none 0 0] w fun e w' => e = .returned (.bool true) ∧ Below w.heap.size w w' := by
  by_cases h : S.length ≤ 65536 ∧ 0 ≤ 65536
  · have ts := tw2 S
    by_cases hq : tw (0 :: 0 :: S) + 1 ≤ 254
    · exact law_sn S as_ S.length ms (tw (0 :: 0 :: S)) rfl (by omega) rfl (by omega) (by omega) w hS (by omega)
    · exact law_sn_big S as_ S.length ms (tw (0 :: 0 :: S)) rfl (by omega) rfl (by omega) (by omega) w hS (by omega)
  · exact law_early (some as_) none S.length ms 0 0 w h

theorem lawAny_so (S O : List Int) (as_ ao : Addr) (ms ns : Nat) (w : World) (hS : Came w as_ S) (hO : Came w ao O) :
    Calls Tryf.prog 3 #[.slice (some as_) S.length ms, .slice (some ao) O.length ns] w fun e w' => e = .returned (.bool true) ∧ Below w.heap.size w w' := by
  by_cases h : S.length ≤ 65536 ∧ O.length ≤ 65536
  · have ts := tw2 S
    have to := tw2 O
    by_cases hq : tw (0 :: 0 :: S) + tw (0 :: 0 :: O) ≤ 254
    · exact law_so S as_ S.length ms (tw (0 :: 0 :: S)) rfl (by omega) rfl (by omega) (by omega) O ao O.length ns (tw (0 :: 0 :: O)) rfl (by omega) rfl (by omega) (by omega) w hS hO (by omega)
    · exact law_so_big S as_ S.length ms (tw (0 :: 0 :: S)) rfl (by omega) rfl (by omega) (by omega) O ao O.length ns (tw (0 :: 0 :: O)) rfl (by omega) rfl (by omega) (by omega) w hS hO (by omega)
  · exact law_early (some as_) (some ao) S.length ms O.length ns w h

end Go.Proofs.Qxb6634834aFmt
