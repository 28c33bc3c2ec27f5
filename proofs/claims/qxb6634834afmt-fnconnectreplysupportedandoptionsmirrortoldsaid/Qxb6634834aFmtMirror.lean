/-
  THE LAW FnConnectReplySupportedAndOptionsMirror: its walk.
-/
import Derived.Test.Qxb6634834aFmtReply
import Derived.Test.Qxb6634834aFmtPlain
import Derived.Test.Qxb6634834aFmtEq
namespace Go.Proofs.Qxb6634834aFmt
open Go.RowKit

theorem below_drewN {B : Nat} {a w : World} (h : Below B a w) (n : Nat) : Below B a (w.drewN n) := ⟨h.os, h.tape, h.output, h.size, h.block⟩

set_option maxRecDepth 100000 in
set_option maxHeartbeats 1000000 in
theorem mirror_some (X : List Int) (a : Addr) (n cap q : Nat) (w : World) (HN : Hid (n = X.length)) (hn : (n : Int) ≤ 1008) (HQ : Hid (q = tw (0 :: 0 :: X))) (hq1 : (n : Int) + 4 ≤ 4 * (q : Int)) (hq2 : 4 * (q : Int) ≤ (n : Int) + 7)
    (HX : Hid (∀ (j : Nat) x, X[j]? = some x → w.cell? (a.add j) = some (.int .u8 x))) :
    Calls Tryf.prog 4 #[.slice (some a) n cap] w fun e w' => e = .returned (.bool true) ∧ Below w.heap.size w w' := by
  obtain ⟨i0, hi, hz0, hz1, hz2⟩ := info_parts info5
  have hnil := fun (wx : World) (a : Option Addr) (p c : Nat) => eql_nil wx a p c
  have hnnl := fun (wx : World) (a : Option Addr) (p c : Nat) => neq_nil wx a p c
  go_enter Tryf.func4, Tryf.ntmps4
  go_wp2_with fail
  refine (bytes9_small (some a) n cap w (by omega)).mono ?_
  rintro e w0 ⟨rfl, hw0⟩
  obtain rfl := hw0.symm
  clear hw0
  go_wp2_with (first | (at_make; go_must (refine wpList_make_full _ rfl (.tmp 21) (.tmp 21) 22 rfl w.heap.size 5 i0 (.int .u8 0) 1 Tryf.underlying22 hi hz0 hz1 .i64 .i64 _ _ n rfl rfl (by omega) (by omega) (by rw [hz2]; omega) (by unfold maxLen; omega) (Nat.le_refl _) ?_; intro w1 hown1 hgrow1; have hb1 : Below w.heap.size w w1 := (Below.refl _ w).grown hgrow1 (Nat.le_refl _) (fun k hk => by cases hk); have hcp := copy_run (dLen := n) (dCap := n) (sLen := n) (sCap := cap) (off := 0) (own_full (made_own hown1)) (unhide HN) (Nat.le_refl _) (fun j x hj => cell_stays hb1 (unhide HX j x hj)) (by rw [← unhide HN]; simp) hb1 (Nat.le_refl _); obtain ⟨w2, hrun, hg2, hb2⟩ := hcp; have HG2 := hide hg2; have HB2 := hide hb2; clear hown1 hgrow1 hg2 hb2 hb1)) | (go_at_call 99; fail))
  have HXB : Hid (BAt w2 w.heap.size 0 X) := BAt.of_block (unhide HG2) (splice_all n X (unhide HN))
  have htw : tw (0 :: 0 :: X) + tw (0 :: 0 :: ([] : List Int)) ≤ 254 := by rw [← unhide HQ, tw_nil]; omega
  refine (reply_sn X w.heap.size n n HN (by omega) w2 HXB htw).mono ?_
  rintro e w3 ⟨ga, ca, rfl, hba, hb3⟩
  have hla : 4 + 4 * tw (0 :: 0 :: X) + 4 * tw (0 :: 0 :: ([] : List Int)) = 8 + 4 * q := by rw [← unhide HQ, tw_nil]; omega
  rw [hla]
  have HBA := hide hba
  have HXB3 := hide ((unhide HXB).stays hb3)
  have HB3 := hide ((unhide HB2).trans (hb3.mono (unhide HB2).size))
  clear hba hb3 HXB HB2 HG2 hla htw hrun HX hi hz0 hz1 hz2
  go_wp2_with fail
  have htw : tw (0 :: 0 :: X) ≤ 254 := by rw [← unhide HQ]; omega
  refine (reply_no X w.heap.size n n HN (by omega) w3 HXB3 htw).mono ?_
  rintro e w4 ⟨gb, cb, rfl, hbb, hb4⟩
  have hlb : 4 + 4 * tw (0 :: 0 :: X) = 4 + 4 * q := by rw [← unhide HQ]
  rw [hlb]
  have hA := (unhide HBA).stays hb4
  have hB := hbb
  have hXX := (unhide HXB3).stays hb4
  have HB4 := hide ((unhide HB3).trans (hb4.mono (unhide HB3).size))
  have b0 : w4.cell? ⟨gb, 0, none⟩ = some (.int .u8 1) := by simpa using hB 0 1 (by rw [bareL_eq]; rfl)
  have b1 : w4.cell? ⟨gb, 1, none⟩ = some (.int .u8 (1 + (q : Int))) := by simpa using hB 1 (1 + (q : Int)) (by rw [bareL_eq, unhide HQ]; rfl)
  have b2 : w4.cell? ⟨gb, 2, none⟩ = some (.int .u8 34) := by simpa using hB 2 34 (by rw [bareL_eq]; rfl)
  have b3 : w4.cell? ⟨gb, 3, none⟩ = some (.int .u8 99) := by simpa using hB 3 99 (by rw [bareL_eq]; rfl)
  have b4 : w4.cell? ⟨gb, 4, none⟩ = some (.int .u8 20) := by simpa using hB 4 20 (by rw [bareL_eq]; rfl)
  have b5 : w4.cell? ⟨gb, 5, none⟩ = some (.int .u8 (q : Int)) := by simpa using hB 5 (q : Int) (by rw [bareL_eq, unhide HQ]; rfl)
  have b6 : w4.cell? ⟨gb, 6, none⟩ = some (.int .u8 0) := by simpa using hB 6 0 (by rw [bareL_eq]; rfl)
  have b7 : w4.cell? ⟨gb, 7, none⟩ = some (.int .u8 0) := by simpa using hB 7 0 (by rw [bareL_eq]; rfl)
  have hdw : 2 + ((n : Int) + 3) / 4 = 1 + (q : Int) := by omega
  have hd1 : (1 + (q : Int)) - 1 = (q : Int) := by omega
  have hne1 : ((1 + (q : Int)) != (1 + (q : Int))) = false := by simp
  have hne2 : ((q : Int) != (q : Int)) = false := by simp
  have HA := hide hA
  have HBB := hide hB
  have HXX := hide hXX
  clear hA hB hXX hbb hb4 HBA HXB3 HB3 hlb htw
  go_wp2_with fail
  go_loopw [8] (fun i wr => ∃ k m : Nat, k ≤ n ∧ i = .int .i64 (k : Int) ∧ wr = w4.drewN m) (fun i _ => n - (intOf i).toNat)
  case atStart => exact ⟨0, 0, Nat.zero_le _, rfl, rfl⟩
  case round =>
    obtain ⟨k, m, hk, rfl, rfl⟩ := hrel
    by_cases hlt : k < n
    · have hxl : k < X.length := by rw [← unhide HN]; exact hlt
      obtain ⟨x, hx⟩ : ∃ x, x = X[k] := ⟨_, rfl⟩
      have c1 : w4.cell? ⟨gb, 8 + k, none⟩ = some (.int .u8 x) := by simpa using unhide HBB (8 + k) x (by rw [bare_x X k hxl, hx])
      have c2 : w4.cell? ⟨w.heap.size, k, none⟩ = some (.int .u8 x) := by simpa using unhide HXX k x (by rw [List.getElem?_eq_getElem hxl, hx])
      have hki : (k : Int) < (n : Int) := by omega
      have hki2 : 8 + (k : Int) < 4 + 4 * (q : Int) := by omega
      clear hx hxl HA HBB HXX HN HQ b0 b1 b2 b3 b4 b5 b6 b7
      go_wp2_with fail
      go_quiet (fail)
      go_wp2
      go_roundw
      case rel => exact ⟨k + 1, m + nq, by omega, by go_num, rfl⟩
      case measure => simp [intOf]; omega
    · have hkn : k = n := by omega
      subst hkn
      go_wp2_with fail
      go_loop [9] (fun i => ∃ j : Nat, 8 + k ≤ j ∧ j ≤ 4 + 4 * q ∧ i = .int .i64 (j : Int)) (fun i => 4 + 4 * q - (intOf i).toNat)
      case atStart => exact ⟨8 + k, Nat.le_refl _, by omega, by go_num⟩
      case round =>
        obtain ⟨j, hj1, hj2, rfl⟩ := hrel
        by_cases hjl : j < 4 + 4 * q
        · have c3 : w4.cell? ⟨gb, j, none⟩ = some (.int .u8 0) := by simpa using unhide HBB j 0 (bare_zero X j (by rw [← unhide HN]; exact hj1) (by rw [← unhide HQ]; exact hjl))
          clear HA HBB HXX HN HQ b0 b1 b2 b3 b4 b5 b6 b7
          go_wp2
          go_round
          case rel => exact ⟨j + 1, by omega, by omega, by go_num⟩
          case measure => simp [intOf]; omega
        · have a1 : w4.cell? ⟨ga, 1, none⟩ = some (.int .u8 (1 + (q : Int) + 1)) := by simpa using unhide HA 1 (1 + (q : Int) + 1) (by rw [fullL_nil, unhide HQ]; rfl)
          have a4 : w4.cell? ⟨ga, 4, none⟩ = some (.int .u8 21) := by simpa using unhide HA 4 21 (by rw [fullL_nil]; rfl)
          have hne3 : ((1 + (q : Int) + 1) != (1 + (q : Int) + 1)) = false := by simp
          go_wp2_with fail
          go_loopw [10] (fun i wr => ∃ p m' : Nat, p ≤ 4 + 4 * q ∧ i = .int .i64 (p : Int) ∧ wr = w4.drewN m') (fun i _ => 4 + 4 * q - (intOf i).toNat)
          case atStart => exact ⟨0, m, Nat.zero_le _, rfl, rfl⟩
          case round =>
            obtain ⟨p, m', hp, rfl, rfl⟩ := hrel
            by_cases hpl : p < 4 + 4 * q
            · by_cases hp1 : p = 1
              · have hp1' : ((p : Int) == 1) = true := by simp [hp1]
                clear hp1 HA HBB HXX HN HQ b0 b1 b2 b3 b4 b5 b6 b7 a1 a4
                go_wp2
                go_roundw
                case rel => exact ⟨p + 1, m', by omega, by go_num, rfl⟩
                case measure => simp [intOf]; omega
              · have hp1' : ((p : Int) == 1) = false := by rw [beq_eq_false_iff_ne]; omega
                by_cases hp4 : p = 4
                · have hp4' : ((p : Int) == 4) = true := by simp [hp4]
                  clear hp1 hp4 HA HBB HXX HN HQ b0 b1 b2 b3 b4 b5 b6 b7 a1 a4
                  go_wp2
                  go_roundw
                  case rel => exact ⟨p + 1, m', by omega, by go_num, rfl⟩
                  case measure => simp [intOf]; omega
                · have hp4' : ((p : Int) == 4) = false := by rw [beq_eq_false_iff_ne]; omega
                  obtain ⟨x, hx1, hx2⟩ := full_bare X p (by rw [← unhide HQ]; exact hpl) hp1 hp4
                  have c4 : w4.cell? ⟨ga, p, none⟩ = some (.int .u8 x) := by simpa using unhide HA p x hx1
                  have c5 : w4.cell? ⟨gb, p, none⟩ = some (.int .u8 x) := by simpa using unhide HBB p x hx2
                  have hpi : (p : Int) < 4 + 4 * (q : Int) := by omega
                  have hpi2 : (p : Int) < 8 + 4 * (q : Int) := by omega
                  clear hx1 hx2 hp1 hp4 HA HBB HXX HN HQ b0 b1 b2 b3 b4 b5 b6 b7 a1 a4
                  go_wp2_with fail
                  go_quiet (fail)
                  go_wp2
                  go_roundw
                  case rel => exact ⟨p + 1, m' + nq, by omega, by go_num, rfl⟩
                  case measure => simp [intOf]; omega
            · have t0 : w4.cell? ⟨ga, 4 + 4 * q, none⟩ = some (.int .u8 20) := by simpa using unhide HA (4 + 4 * q) 20 (by have := full_tail X 0; rw [← unhide HQ] at this; exact this)
              have t1 : w4.cell? ⟨ga, 4 + 4 * q + 1, none⟩ = some (.int .u8 1) := by simpa using unhide HA (4 + 4 * q + 1) 1 (by have := full_tail X 1; rw [← unhide HQ] at this; exact this)
              have t2 : w4.cell? ⟨ga, 4 + 4 * q + 2, none⟩ = some (.int .u8 0) := by simpa using unhide HA (4 + 4 * q + 2) 0 (by have := full_tail X 2; rw [← unhide HQ] at this; exact this)
              have t3 : w4.cell? ⟨ga, 4 + 4 * q + 3, none⟩ = some (.int .u8 0) := by simpa using unhide HA (4 + 4 * q + 3) 0 (by have := full_tail X 3; rw [← unhide HQ] at this; exact this)
              clear HA HBB HXX HN HQ b0 b1 b2 b3 b4 b5 b6 b7 a1 a4
              go_wp2
              go_ret
              exact ⟨rfl, below_drewN (unhide HB4) _⟩
theorem bare_nil : bareL [] = [1, 2, 34, 99, 20, 1, 0, 0] := rfl

set_option maxRecDepth 100000 in
set_option maxHeartbeats 1000000 in
theorem mirror_nil (w : World) :
    Calls Tryf.prog 4 #[.slice none 0 0] w fun e w' => e = .returned (.bool true) ∧ Below w.heap.size w w' := by
  have hnil := fun (wx : World) (a : Option Addr) (p c : Nat) => eql_nil wx a p c
  have hnnl := fun (wx : World) (a : Option Addr) (p c : Nat) => neq_nil wx a p c
  go_enter Tryf.func4, Tryf.ntmps4
  go_wp2_with fail
  refine (bytes9_small none 0 0 w (by decide)).mono ?_
  rintro e w0 ⟨rfl, hw0⟩
  obtain rfl := hw0.symm
  clear hw0
  go_wp2_with fail
  refine (reply_nn w (by show tw (0 :: 0 :: ([] : List Int)) ≤ 254; decide)).mono ?_
  rintro e w3 ⟨ga, ca, rfl, hba, hb3⟩
  have hla : 4 + 4 * tw (0 :: 0 :: ([] : List Int)) = 8 := rfl
  rw [hla]
  have HBA := hide hba
  have HB3 := hide hb3
  clear hba hb3 hla
  go_wp2_with fail
  refine (reply_nn w3 (by show tw (0 :: 0 :: ([] : List Int)) ≤ 254; decide)).mono ?_
  rintro e w4 ⟨gb, cb, rfl, hB, hb4⟩
  have hlb : 4 + 4 * tw (0 :: 0 :: ([] : List Int)) = 8 := rfl
  rw [hlb]
  have HA := hide ((unhide HBA).stays hb4)
  have HB4 := hide ((unhide HB3).trans (hb4.mono (unhide HB3).size))
  have b0 : w4.cell? ⟨gb, 0, none⟩ = some (.int .u8 1) := hB 0 1 rfl
  have b1 : w4.cell? ⟨gb, 1, none⟩ = some (.int .u8 2) := hB 1 2 rfl
  have b2 : w4.cell? ⟨gb, 2, none⟩ = some (.int .u8 34) := hB 2 34 rfl
  have b3 : w4.cell? ⟨gb, 3, none⟩ = some (.int .u8 99) := hB 3 99 rfl
  have b4 : w4.cell? ⟨gb, 4, none⟩ = some (.int .u8 20) := hB 4 20 rfl
  have b5 : w4.cell? ⟨gb, 5, none⟩ = some (.int .u8 1) := hB 5 1 rfl
  have b6 : w4.cell? ⟨gb, 6, none⟩ = some (.int .u8 0) := hB 6 0 rfl
  have b7 : w4.cell? ⟨gb, 7, none⟩ = some (.int .u8 0) := hB 7 0 rfl
  have HBB := hide hB
  clear hB hb4 HBA HB3 hlb
  go_wp2_with fail
  refine wp_loop_rounds 1 ?_
  rw [rounds_succ]
  go_wp2_with fail
  refine wp_loop_rounds 1 ?_
  rw [rounds_succ]
  go_wp2_with fail
  refine (eq_any (bareL []) ga 0 gb 0 ca cb 8 w4 rfl (by decide) HA HBB).mono ?_
  rintro e w5 ⟨rfl, m, hw5⟩
  have HB5 : Hid (Below w.heap.size w w5) := by rw [hw5]; exact below_drewN (unhide HB4) _
  clear hw5
  go_wp2
  go_ret
  exact ⟨rfl, unhide HB5⟩

set_option maxRecDepth 100000 in
set_option maxHeartbeats 400000 in
theorem mirror_big (a : Option Addr) (n cap : Nat) (w : World) (hn : 1008 < (n : Int)) :
    Calls Tryf.prog 4 #[.slice a n cap] w fun e w' => e = .returned (.bool true) ∧ Below w.heap.size w w' := by
  by_cases h : (n : Int) ≤ 1048576
  · go_enter Tryf.func4, Tryf.ntmps4
    go_wp2_with fail
    refine (bytes9_small a n cap w h).mono ?_
    rintro e w0 ⟨rfl, hw0⟩
    obtain rfl := hw0.symm
    clear hw0
    go_wp2
    go_ret
    exact ⟨rfl, Below.refl _ _⟩
  · have h' : 1048576 < (n : Int) := by omega
    clear h
    go_enter Tryf.func4, Tryf.ntmps4
    go_wp2_with fail
    refine (bytes9_big a n cap w h').mono ?_
    rintro e w0 ⟨rfl, hw0⟩
    obtain rfl := hw0.symm
    clear hw0
    go_wp2
    go_ret
    exact ⟨rfl, Below.refl _ _⟩

theorem mirror_slice (X : List Int) (a : Addr) (cap : Nat) (w : World) (hX : ∀ (j : Nat) x, X[j]? = some x → w.cell? (a.add j) = some (.int .u8 x)) :
    Calls Tryf.prog 4 #[.slice (some a) X.length cap] w fun e w' => e = .returned (.bool true) ∧ Below w.heap.size w w' := by
  by_cases h : X.length ≤ 1008
  · have ht := tw2 X
    exact mirror_some X a X.length cap (tw (0 :: 0 :: X)) w rfl (by omega) rfl (by omega) (by omega) hX
  · exact mirror_big (some a) X.length cap w (by omega)

end Go.Proofs.Qxb6634834aFmt
