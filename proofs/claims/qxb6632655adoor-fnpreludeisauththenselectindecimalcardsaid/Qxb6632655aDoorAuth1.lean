/-
  THE LAW FnPreludeIsAuthThenSelectInDecimal: its walk, the ways with a database.
-/
import Derived.Test.Qxb6632655aDoorAuth0
namespace Go.Proofs.Qxb6632655aDoor
open Go.RowKit

set_option maxRecDepth 100000 in
set_option maxHeartbeats 2000000 in
theorem auth_ud (hp user pw : ByteArray) (tls : Bool) (db : Int) (w : World) (hz : (hp.size : Int) + (user.size : Int) + (pw.size : Int) ≤ 1048576) (hu : (user.toList == []) = false) (hd : (db == 0) = false) (H0 : Hid (-9223372036854775808 ≤ db)) (H1 : Hid (db ≤ 9223372036854775807)) (HT : Hid (Tab w)) :
    Calls Tryd.prog 3 #[.string hp, .bool tls, .string user, .string pw, .int .i64 db] w fun e w' => e = .returned (.bool true) ∧ Below w.heap.size w w' := by
  have z0 : (hp.size : Int) ≤ 1048576 := by omega
  have z1 : (user.size : Int) ≤ 1048576 := by omega
  have z2 : (pw.size : Int) ≤ 1048576 := by omega
  go_enter Tryd.func3, Tryd.ntmps3
  go_wp2_with fail
  refine (bytes5_small hp user pw tls db _ (by have e0 : (⟨#[]⟩ : ByteArray).size = 0 := rfl; first | omega | (rw [e0]; omega))).mono ?_
  rintro e w0 ⟨rfl, hw0⟩
  obtain rfl := hw0.symm
  clear hw0
  have HB0 := hide (Below.refl w.heap.size w)
  go_wp2_with fail
  refine (addr_any hp user pw tls db _).mono ?_
  rintro e w1a ⟨rfl, hwa⟩
  have HA1 := hide (show Below w.heap.size w w1a by rw [hwa]; exact (Below.refl _ w).alloc (Nat.le_refl _) _)
  clear hwa
  have HBa1 := hide ((unhide HB0).trans ((unhide HA1).mono (unhide HB0).size))
  go_wp2_with fail
  refine (zzprel_any hp user pw tls db _ H0 H1 ((unhide HT).later (unhide HBa1))).mono ?_
  rintro e w1 ⟨v1, rfl, hc1, hb1⟩
  have HB1 := hide ((unhide HBa1).trans (hb1.mono (unhide HBa1).size))
  have HN1 := hide ((unhide HA1).trans (hb1.mono (unhide HA1).size))
  have HC1 : Hid (Cmds w1 v1 [[authB, user, pw], [selB, numB db]]) := by
    have e1 : authCmds user pw ++ selCmds db = [[authB, user, pw], [selB, numB db]] := by simp [authCmds, selCmds, hu, hd]
    rw [← e1]; exact hc1
  clear hc1 hb1 HA1 HBa1
  go_wp2_with fail
  refine (addr_any ⟨#[]⟩ user pw false 0 _).mono ?_
  rintro e w2a ⟨rfl, hwa⟩
  have HA2 := hide (show Below w1.heap.size w1 w2a by rw [hwa]; exact (Below.refl _ w1).alloc (Nat.le_refl _) _)
  clear hwa
  have HBa2 := hide ((unhide HB1).trans ((unhide HA2).mono (unhide HB1).size))
  go_wp2_with fail
  refine (zzprel_any ⟨#[]⟩ user pw false 0 _ (hide (by decide)) (hide (by decide)) ((unhide HT).later (unhide HBa2))).mono ?_
  rintro e w2 ⟨v2, rfl, hc2, hb2⟩
  have HB2 := hide ((unhide HBa2).trans (hb2.mono (unhide HBa2).size))
  have HN2 := hide ((unhide HA2).trans (hb2.mono (unhide HA2).size))
  have HC2 : Hid (Cmds w2 v2 [[authB, user, pw]]) := by
    have e1 : authCmds user pw ++ selCmds 0 = [[authB, user, pw]] := by simp [authCmds, selCmds, hu]
    rw [← e1]; exact hc2
  clear hc2 hb2 HA2 HBa2
  go_wp2_with fail
  refine (addr_any hp ⟨#[]⟩ ⟨#[]⟩ tls db _).mono ?_
  rintro e w3a ⟨rfl, hwa⟩
  have HA3 := hide (show Below w2.heap.size w2 w3a by rw [hwa]; exact (Below.refl _ w2).alloc (Nat.le_refl _) _)
  clear hwa
  have HBa3 := hide ((unhide HB2).trans ((unhide HA3).mono (unhide HB2).size))
  go_wp2_with fail
  refine (zzprel_any hp ⟨#[]⟩ ⟨#[]⟩ tls db _ H0 H1 ((unhide HT).later (unhide HBa3))).mono ?_
  rintro e w3 ⟨v3, rfl, hc3, hb3⟩
  have HB3 := hide ((unhide HBa3).trans (hb3.mono (unhide HBa3).size))
  have HN3 := hide ((unhide HA3).trans (hb3.mono (unhide HA3).size))
  have HC3 : Hid (Cmds w3 v3 [[selB, numB db]]) := by
    have e1 : authCmds ⟨#[]⟩ ⟨#[]⟩ ++ selCmds db = [[selB, numB db]] := by simp [authCmds, selCmds, hd]
    rw [← e1]; exact hc3
  clear hc3 hb3 HA3 HBa3
  have hcs1 := ((unhide HC1).stays (unhide HN2)).stays (unhide HN3)
  have hcs2 := (unhide HC2).stays (unhide HN3)
  have hcs3 := unhide HC3
  clear HC1 HC2 HC3 HN1 HN2 HN3 HB1 HB2 HB0 HT
  obtain ⟨g1, cap1, u1a, u1b, hv1, hg1a, hg1b, hq1a, hq1b⟩ := cmds2 hcs1
  obtain ⟨b1a, cp1a, hu1a, hr1a⟩ := hq1a
  rw [hu1a] at hg1a
  have HR1a := hide hr1a
  clear hu1a
  obtain ⟨b1b, cp1b, hu1b, hr1b⟩ := hq1b
  rw [hu1b] at hg1b
  have HR1b := hide hr1b
  clear hu1b
  rw [hv1]
  clear hv1 hcs1
  clear hr1a
  clear hr1b
  obtain ⟨g2, cap2, u2a, hv2, hg2a, hq2a⟩ := cmds1 hcs2
  obtain ⟨b2a, cp2a, hu2a, hr2a⟩ := hq2a
  rw [hu2a] at hg2a
  have HR2a := hide hr2a
  clear hu2a
  rw [hv2]
  clear hv2 hcs2
  clear hr2a
  obtain ⟨g3, cap3, u3a, hv3, hg3a, hq3a⟩ := cmds1 hcs3
  obtain ⟨b3a, cp3a, hu3a, hr3a⟩ := hq3a
  rw [hu3a] at hg3a
  have HR3a := hide hr3a
  clear hu3a
  rw [hv3]
  clear hv3 hcs3
  clear hr3a
  have hs30 : w3.cell? ⟨b3a, 0, none⟩ = some (.string ⟨#[83, 69, 76, 69, 67, 84]⟩) := unhide HR3a 0 _ rfl
  have hs31 : w3.cell? ⟨b3a, 1, none⟩ = some (.string (numB db)) := unhide HR3a 1 _ rfl
  generalize hnum : numB db = sd at *
  have HN := hide hnum
  clear hnum
  go_upto_region 15 with fail
  go_cut [91] (fun c wx => c = .bool false ∧ Below w3.heap.size w3 wx)
  case first =>
    have hl3 : g3 < w3.heap.size := World.block_lt_of_cell? w3 _ hg3a
    have hl4 : b3a < w3.heap.size := World.block_lt_of_cell? w3 _ hs30
    go_region_with (go_at_call 8; refine (decimal_any db _ (unhide H0) (unhide H1)).mono ?_; rintro e wd ⟨rfl, hwd⟩; rw [unhide HN]; have hbd : Below w3.heap.size w3 wd := (by obtain ⟨cs, rfl⟩ := hwd; exact below_drew_alloc w3 _ _); obtain ⟨hcd, hfd⟩ := bcell hbd; have HBD := hide hbd; clear hwd hbd)
    all_goals (go_wp2_with fail)
    all_goals go_meet
    all_goals exact ⟨by simp, unhide HBD⟩
  case rest =>
    obtain ⟨rfl, hbx⟩ := hcut
    have k1a := cell_stays hbx hg1a
    have k1b := cell_stays hbx hg1b
    have k2a := cell_stays hbx hg2a
    have k3a := cell_stays hbx hg3a
    have HB4 := hide ((unhide HB3).trans (hbx.mono (unhide HB3).size))
    have HS1 : Hid (∀ n, Calls Tryd.prog 9 #[.slice (some ⟨b1a, 0, none⟩) 3 cp1a, .slice (some ⟨b2a, 0, none⟩) 3 cp2a] (wc.drewN n) fun e w'' => e = .returned (.bool true) ∧ ∃ m, w'' = wc.drewN m) := fun n =>
      Calls.quiet_of (same_any [authB, user, pw] b1a b2a cp1a cp2a (wc.drewN n) (by simp) (fun j s hj => cell_stays hbx (unhide HR1a j s hj)) (fun j s hj => cell_stays hbx (unhide HR2a j s hj)))
    have HS2 : Hid (∀ q n, Calls Tryd.prog 9 #[.slice (some ⟨b1b, 0, none⟩) 2 cp1b, .slice (some ⟨b3a, 0, none⟩) 2 cp3a] ((wc.drewN q).drewN n) fun e w'' => e = .returned (.bool true) ∧ ∃ m, w'' = (wc.drewN q).drewN m) := fun q n =>
      Calls.quiet_of (same_any [selB, sd] b1b b3a cp1b cp3a ((wc.drewN q).drewN n) (by simp) (fun j s hj => cell_stays hbx (unhide HR1b j s hj)) (fun j s hj => cell_stays hbx (unhide HR3a j s hj)))
    clear hbx hg1a hg1b hg2a hg3a HB3 HR1a HR1b HR2a HR3a hs30 hs31 HN H0 H1
    have hwr0 : IntKind.i64.wrap 0 = 0 := by decide
    have hwr1 : IntKind.i64.wrap 1 = 1 := by decide
    go_wp2_with fail
    refine wp_loop_rounds 2 ?_
    rw [rounds_succ]
    go_wp2_with fail
    go_quiet ((go_at_call 9; exact unhide HS1 _))
    obtain ⟨wd, hwd⟩ : ∃ wd, wd = wc.drewN nq := ⟨_, rfl⟩
    rw [← hwd]
    have k1b' : wd.cell? ⟨g1, 1, none⟩ = some (.slice (some ⟨b1b, 0, none⟩) 2 cp1b) := by rw [hwd]; exact k1b
    have k3a' : wd.cell? ⟨g3, 0, none⟩ = some (.slice (some ⟨b3a, 0, none⟩) 2 cp3a) := by rw [hwd]; exact k3a
    have HS3 : Hid (∀ n, Calls Tryd.prog 9 #[.slice (some ⟨b1b, 0, none⟩) 2 cp1b, .slice (some ⟨b3a, 0, none⟩) 2 cp3a] (wd.drewN n) fun e w'' => e = .returned (.bool true) ∧ ∃ m, w'' = wd.drewN m) := by rw [hwd]; exact unhide HS2 nq
    have HB5 : Hid (Below w.heap.size w wd) := by rw [hwd]; exact below_drewN (unhide HB4) _
    clear hwd HS1 HB4 k1a k1b k2a k3a HS2
    go_wp2_with fail
    rw [rounds_succ]
    go_wp2_with fail
    refine wp_loop_rounds 2 ?_
    rw [rounds_succ]
    go_wp2_with fail
    go_quiet ((go_at_call 9; exact unhide HS3 _))
    go_wp2_with fail
    rw [rounds_succ]
    go_wp2
    go_ret
    exact ⟨rfl, below_drewN (unhide HB5) _⟩

set_option maxRecDepth 100000 in
set_option maxHeartbeats 2000000 in
theorem auth_pd (hp pw : ByteArray) (tls : Bool) (db : Int) (w : World) (hz : (hp.size : Int) + (pw.size : Int) ≤ 1048576) (hpw : (pw.toList == []) = false) (hd : (db == 0) = false) (H0 : Hid (-9223372036854775808 ≤ db)) (H1 : Hid (db ≤ 9223372036854775807)) (HT : Hid (Tab w)) :
    Calls Tryd.prog 3 #[.string hp, .bool tls, .string ⟨#[]⟩, .string pw, .int .i64 db] w fun e w' => e = .returned (.bool true) ∧ Below w.heap.size w w' := by
  have z0 : (hp.size : Int) ≤ 1048576 := by omega
  have z1 : (pw.size : Int) ≤ 1048576 := by omega
  go_enter Tryd.func3, Tryd.ntmps3
  go_wp2_with fail
  refine (bytes5_small hp ⟨#[]⟩ pw tls db _ (by have e0 : (⟨#[]⟩ : ByteArray).size = 0 := rfl; first | omega | (rw [e0]; omega))).mono ?_
  rintro e w0 ⟨rfl, hw0⟩
  obtain rfl := hw0.symm
  clear hw0
  have HB0 := hide (Below.refl w.heap.size w)
  go_wp2_with fail
  refine (addr_any hp ⟨#[]⟩ pw tls db _).mono ?_
  rintro e w1a ⟨rfl, hwa⟩
  have HA1 := hide (show Below w.heap.size w w1a by rw [hwa]; exact (Below.refl _ w).alloc (Nat.le_refl _) _)
  clear hwa
  have HBa1 := hide ((unhide HB0).trans ((unhide HA1).mono (unhide HB0).size))
  go_wp2_with fail
  refine (zzprel_any hp ⟨#[]⟩ pw tls db _ H0 H1 ((unhide HT).later (unhide HBa1))).mono ?_
  rintro e w1 ⟨v1, rfl, hc1, hb1⟩
  have HB1 := hide ((unhide HBa1).trans (hb1.mono (unhide HBa1).size))
  have HN1 := hide ((unhide HA1).trans (hb1.mono (unhide HA1).size))
  have HC1 : Hid (Cmds w1 v1 [[authB, pw], [selB, numB db]]) := by
    have e1 : authCmds ⟨#[]⟩ pw ++ selCmds db = [[authB, pw], [selB, numB db]] := by simp [authCmds, selCmds, hpw, hd]
    rw [← e1]; exact hc1
  clear hc1 hb1 HA1 HBa1
  go_wp2_with fail
  refine (addr_any ⟨#[]⟩ ⟨#[]⟩ pw false 0 _).mono ?_
  rintro e w2a ⟨rfl, hwa⟩
  have HA2 := hide (show Below w1.heap.size w1 w2a by rw [hwa]; exact (Below.refl _ w1).alloc (Nat.le_refl _) _)
  clear hwa
  have HBa2 := hide ((unhide HB1).trans ((unhide HA2).mono (unhide HB1).size))
  go_wp2_with fail
  refine (zzprel_any ⟨#[]⟩ ⟨#[]⟩ pw false 0 _ (hide (by decide)) (hide (by decide)) ((unhide HT).later (unhide HBa2))).mono ?_
  rintro e w2 ⟨v2, rfl, hc2, hb2⟩
  have HB2 := hide ((unhide HBa2).trans (hb2.mono (unhide HBa2).size))
  have HN2 := hide ((unhide HA2).trans (hb2.mono (unhide HA2).size))
  have HC2 : Hid (Cmds w2 v2 [[authB, pw]]) := by
    have e1 : authCmds ⟨#[]⟩ pw ++ selCmds 0 = [[authB, pw]] := by simp [authCmds, selCmds, hpw]
    rw [← e1]; exact hc2
  clear hc2 hb2 HA2 HBa2
  go_wp2_with fail
  refine (addr_any hp ⟨#[]⟩ ⟨#[]⟩ tls db _).mono ?_
  rintro e w3a ⟨rfl, hwa⟩
  have HA3 := hide (show Below w2.heap.size w2 w3a by rw [hwa]; exact (Below.refl _ w2).alloc (Nat.le_refl _) _)
  clear hwa
  have HBa3 := hide ((unhide HB2).trans ((unhide HA3).mono (unhide HB2).size))
  go_wp2_with fail
  refine (zzprel_any hp ⟨#[]⟩ ⟨#[]⟩ tls db _ H0 H1 ((unhide HT).later (unhide HBa3))).mono ?_
  rintro e w3 ⟨v3, rfl, hc3, hb3⟩
  have HB3 := hide ((unhide HBa3).trans (hb3.mono (unhide HBa3).size))
  have HN3 := hide ((unhide HA3).trans (hb3.mono (unhide HA3).size))
  have HC3 : Hid (Cmds w3 v3 [[selB, numB db]]) := by
    have e1 : authCmds ⟨#[]⟩ ⟨#[]⟩ ++ selCmds db = [[selB, numB db]] := by simp [authCmds, selCmds, hd]
    rw [← e1]; exact hc3
  clear hc3 hb3 HA3 HBa3
  have hcs1 := ((unhide HC1).stays (unhide HN2)).stays (unhide HN3)
  have hcs2 := (unhide HC2).stays (unhide HN3)
  have hcs3 := unhide HC3
  clear HC1 HC2 HC3 HN1 HN2 HN3 HB1 HB2 HB0 HT
  obtain ⟨g1, cap1, u1a, u1b, hv1, hg1a, hg1b, hq1a, hq1b⟩ := cmds2 hcs1
  obtain ⟨b1a, cp1a, hu1a, hr1a⟩ := hq1a
  rw [hu1a] at hg1a
  have HR1a := hide hr1a
  clear hu1a
  obtain ⟨b1b, cp1b, hu1b, hr1b⟩ := hq1b
  rw [hu1b] at hg1b
  have HR1b := hide hr1b
  clear hu1b
  rw [hv1]
  clear hv1 hcs1
  clear hr1a
  clear hr1b
  obtain ⟨g2, cap2, u2a, hv2, hg2a, hq2a⟩ := cmds1 hcs2
  obtain ⟨b2a, cp2a, hu2a, hr2a⟩ := hq2a
  rw [hu2a] at hg2a
  have HR2a := hide hr2a
  clear hu2a
  rw [hv2]
  clear hv2 hcs2
  clear hr2a
  obtain ⟨g3, cap3, u3a, hv3, hg3a, hq3a⟩ := cmds1 hcs3
  obtain ⟨b3a, cp3a, hu3a, hr3a⟩ := hq3a
  rw [hu3a] at hg3a
  have HR3a := hide hr3a
  clear hu3a
  rw [hv3]
  clear hv3 hcs3
  clear hr3a
  have hs30 : w3.cell? ⟨b3a, 0, none⟩ = some (.string ⟨#[83, 69, 76, 69, 67, 84]⟩) := unhide HR3a 0 _ rfl
  have hs31 : w3.cell? ⟨b3a, 1, none⟩ = some (.string (numB db)) := unhide HR3a 1 _ rfl
  generalize hnum : numB db = sd at *
  have HN := hide hnum
  clear hnum
  go_upto_region 15 with fail
  go_cut [91] (fun c wx => c = .bool false ∧ Below w3.heap.size w3 wx)
  case first =>
    have hl3 : g3 < w3.heap.size := World.block_lt_of_cell? w3 _ hg3a
    have hl4 : b3a < w3.heap.size := World.block_lt_of_cell? w3 _ hs30
    go_region_with (go_at_call 8; refine (decimal_any db _ (unhide H0) (unhide H1)).mono ?_; rintro e wd ⟨rfl, hwd⟩; rw [unhide HN]; have hbd : Below w3.heap.size w3 wd := (by obtain ⟨cs, rfl⟩ := hwd; exact below_drew_alloc w3 _ _); obtain ⟨hcd, hfd⟩ := bcell hbd; have HBD := hide hbd; clear hwd hbd)
    all_goals (go_wp2_with fail)
    all_goals go_meet
    all_goals exact ⟨by simp, unhide HBD⟩
  case rest =>
    obtain ⟨rfl, hbx⟩ := hcut
    have k1a := cell_stays hbx hg1a
    have k1b := cell_stays hbx hg1b
    have k2a := cell_stays hbx hg2a
    have k3a := cell_stays hbx hg3a
    have HB4 := hide ((unhide HB3).trans (hbx.mono (unhide HB3).size))
    have HS1 : Hid (∀ n, Calls Tryd.prog 9 #[.slice (some ⟨b1a, 0, none⟩) 2 cp1a, .slice (some ⟨b2a, 0, none⟩) 2 cp2a] (wc.drewN n) fun e w'' => e = .returned (.bool true) ∧ ∃ m, w'' = wc.drewN m) := fun n =>
      Calls.quiet_of (same_any [authB, pw] b1a b2a cp1a cp2a (wc.drewN n) (by simp) (fun j s hj => cell_stays hbx (unhide HR1a j s hj)) (fun j s hj => cell_stays hbx (unhide HR2a j s hj)))
    have HS2 : Hid (∀ q n, Calls Tryd.prog 9 #[.slice (some ⟨b1b, 0, none⟩) 2 cp1b, .slice (some ⟨b3a, 0, none⟩) 2 cp3a] ((wc.drewN q).drewN n) fun e w'' => e = .returned (.bool true) ∧ ∃ m, w'' = (wc.drewN q).drewN m) := fun q n =>
      Calls.quiet_of (same_any [selB, sd] b1b b3a cp1b cp3a ((wc.drewN q).drewN n) (by simp) (fun j s hj => cell_stays hbx (unhide HR1b j s hj)) (fun j s hj => cell_stays hbx (unhide HR3a j s hj)))
    clear hbx hg1a hg1b hg2a hg3a HB3 HR1a HR1b HR2a HR3a hs30 hs31 HN H0 H1
    have hwr0 : IntKind.i64.wrap 0 = 0 := by decide
    have hwr1 : IntKind.i64.wrap 1 = 1 := by decide
    go_wp2_with fail
    refine wp_loop_rounds 2 ?_
    rw [rounds_succ]
    go_wp2_with fail
    go_quiet ((go_at_call 9; exact unhide HS1 _))
    obtain ⟨wd, hwd⟩ : ∃ wd, wd = wc.drewN nq := ⟨_, rfl⟩
    rw [← hwd]
    have k1b' : wd.cell? ⟨g1, 1, none⟩ = some (.slice (some ⟨b1b, 0, none⟩) 2 cp1b) := by rw [hwd]; exact k1b
    have k3a' : wd.cell? ⟨g3, 0, none⟩ = some (.slice (some ⟨b3a, 0, none⟩) 2 cp3a) := by rw [hwd]; exact k3a
    have HS3 : Hid (∀ n, Calls Tryd.prog 9 #[.slice (some ⟨b1b, 0, none⟩) 2 cp1b, .slice (some ⟨b3a, 0, none⟩) 2 cp3a] (wd.drewN n) fun e w'' => e = .returned (.bool true) ∧ ∃ m, w'' = wd.drewN m) := by rw [hwd]; exact unhide HS2 nq
    have HB5 : Hid (Below w.heap.size w wd) := by rw [hwd]; exact below_drewN (unhide HB4) _
    clear hwd HS1 HB4 k1a k1b k2a k3a HS2
    go_wp2_with fail
    rw [rounds_succ]
    go_wp2_with fail
    refine wp_loop_rounds 2 ?_
    rw [rounds_succ]
    go_wp2_with fail
    go_quiet ((go_at_call 9; exact unhide HS3 _))
    go_wp2_with fail
    rw [rounds_succ]
    go_wp2
    go_ret
    exact ⟨rfl, below_drewN (unhide HB5) _⟩

set_option maxRecDepth 100000 in
set_option maxHeartbeats 2000000 in
theorem auth_nd (hp : ByteArray) (tls : Bool) (db : Int) (w : World) (hz : (hp.size : Int) ≤ 1048576) (hd : (db == 0) = false) (H0 : Hid (-9223372036854775808 ≤ db)) (H1 : Hid (db ≤ 9223372036854775807)) (HT : Hid (Tab w)) :
    Calls Tryd.prog 3 #[.string hp, .bool tls, .string ⟨#[]⟩, .string ⟨#[]⟩, .int .i64 db] w fun e w' => e = .returned (.bool true) ∧ Below w.heap.size w w' := by
  have z0 : (hp.size : Int) ≤ 1048576 := by omega
  go_enter Tryd.func3, Tryd.ntmps3
  go_wp2_with fail
  refine (bytes5_small hp ⟨#[]⟩ ⟨#[]⟩ tls db _ (by have e0 : (⟨#[]⟩ : ByteArray).size = 0 := rfl; first | omega | (rw [e0]; omega))).mono ?_
  rintro e w0 ⟨rfl, hw0⟩
  obtain rfl := hw0.symm
  clear hw0
  have HB0 := hide (Below.refl w.heap.size w)
  go_wp2_with fail
  refine (addr_any hp ⟨#[]⟩ ⟨#[]⟩ tls db _).mono ?_
  rintro e w1a ⟨rfl, hwa⟩
  have HA1 := hide (show Below w.heap.size w w1a by rw [hwa]; exact (Below.refl _ w).alloc (Nat.le_refl _) _)
  clear hwa
  have HBa1 := hide ((unhide HB0).trans ((unhide HA1).mono (unhide HB0).size))
  go_wp2_with fail
  refine (zzprel_any hp ⟨#[]⟩ ⟨#[]⟩ tls db _ H0 H1 ((unhide HT).later (unhide HBa1))).mono ?_
  rintro e w1 ⟨v1, rfl, hc1, hb1⟩
  have HB1 := hide ((unhide HBa1).trans (hb1.mono (unhide HBa1).size))
  have HN1 := hide ((unhide HA1).trans (hb1.mono (unhide HA1).size))
  have HC1 : Hid (Cmds w1 v1 [[selB, numB db]]) := by
    have e1 : authCmds ⟨#[]⟩ ⟨#[]⟩ ++ selCmds db = [[selB, numB db]] := by simp [authCmds, selCmds, hd]
    rw [← e1]; exact hc1
  clear hc1 hb1 HA1 HBa1
  go_wp2_with fail
  refine (addr_any ⟨#[]⟩ ⟨#[]⟩ ⟨#[]⟩ false 0 _).mono ?_
  rintro e w2a ⟨rfl, hwa⟩
  have HA2 := hide (show Below w1.heap.size w1 w2a by rw [hwa]; exact (Below.refl _ w1).alloc (Nat.le_refl _) _)
  clear hwa
  have HBa2 := hide ((unhide HB1).trans ((unhide HA2).mono (unhide HB1).size))
  go_wp2_with fail
  refine (zzprel_any ⟨#[]⟩ ⟨#[]⟩ ⟨#[]⟩ false 0 _ (hide (by decide)) (hide (by decide)) ((unhide HT).later (unhide HBa2))).mono ?_
  rintro e w2 ⟨v2, rfl, hc2, hb2⟩
  have HB2 := hide ((unhide HBa2).trans (hb2.mono (unhide HBa2).size))
  have HN2 := hide ((unhide HA2).trans (hb2.mono (unhide HA2).size))
  have HC2 : Hid (Cmds w2 v2 []) := by
    have e1 : authCmds ⟨#[]⟩ ⟨#[]⟩ ++ selCmds 0 = [] := by simp [authCmds, selCmds]
    rw [← e1]; exact hc2
  clear hc2 hb2 HA2 HBa2
  go_wp2_with fail
  refine (addr_any hp ⟨#[]⟩ ⟨#[]⟩ tls db _).mono ?_
  rintro e w3a ⟨rfl, hwa⟩
  have HA3 := hide (show Below w2.heap.size w2 w3a by rw [hwa]; exact (Below.refl _ w2).alloc (Nat.le_refl _) _)
  clear hwa
  have HBa3 := hide ((unhide HB2).trans ((unhide HA3).mono (unhide HB2).size))
  go_wp2_with fail
  refine (zzprel_any hp ⟨#[]⟩ ⟨#[]⟩ tls db _ H0 H1 ((unhide HT).later (unhide HBa3))).mono ?_
  rintro e w3 ⟨v3, rfl, hc3, hb3⟩
  have HB3 := hide ((unhide HBa3).trans (hb3.mono (unhide HBa3).size))
  have HN3 := hide ((unhide HA3).trans (hb3.mono (unhide HA3).size))
  have HC3 : Hid (Cmds w3 v3 [[selB, numB db]]) := by
    have e1 : authCmds ⟨#[]⟩ ⟨#[]⟩ ++ selCmds db = [[selB, numB db]] := by simp [authCmds, selCmds, hd]
    rw [← e1]; exact hc3
  clear hc3 hb3 HA3 HBa3
  have hcs1 := ((unhide HC1).stays (unhide HN2)).stays (unhide HN3)
  have hcs2 := (unhide HC2).stays (unhide HN3)
  have hcs3 := unhide HC3
  clear HC1 HC2 HC3 HN1 HN2 HN3 HB1 HB2 HB0 HT
  obtain ⟨g1, cap1, u1a, hv1, hg1a, hq1a⟩ := cmds1 hcs1
  obtain ⟨b1a, cp1a, hu1a, hr1a⟩ := hq1a
  rw [hu1a] at hg1a
  have HR1a := hide hr1a
  clear hu1a
  rw [hv1]
  clear hv1 hcs1
  clear hr1a
  have hv2 := cmds0 hcs2
  rw [hv2]
  clear hv2 hcs2
  obtain ⟨g3, cap3, u3a, hv3, hg3a, hq3a⟩ := cmds1 hcs3
  obtain ⟨b3a, cp3a, hu3a, hr3a⟩ := hq3a
  rw [hu3a] at hg3a
  have HR3a := hide hr3a
  clear hu3a
  rw [hv3]
  clear hv3 hcs3
  clear hr3a
  have hs30 : w3.cell? ⟨b3a, 0, none⟩ = some (.string ⟨#[83, 69, 76, 69, 67, 84]⟩) := unhide HR3a 0 _ rfl
  have hs31 : w3.cell? ⟨b3a, 1, none⟩ = some (.string (numB db)) := unhide HR3a 1 _ rfl
  generalize hnum : numB db = sd at *
  have HN := hide hnum
  clear hnum
  go_upto_region 15 with fail
  go_cut [91] (fun c wx => c = .bool false ∧ Below w3.heap.size w3 wx)
  case first =>
    have hl3 : g3 < w3.heap.size := World.block_lt_of_cell? w3 _ hg3a
    have hl4 : b3a < w3.heap.size := World.block_lt_of_cell? w3 _ hs30
    go_region_with (go_at_call 8; refine (decimal_any db _ (unhide H0) (unhide H1)).mono ?_; rintro e wd ⟨rfl, hwd⟩; rw [unhide HN]; have hbd : Below w3.heap.size w3 wd := (by obtain ⟨cs, rfl⟩ := hwd; exact below_drew_alloc w3 _ _); obtain ⟨hcd, hfd⟩ := bcell hbd; have HBD := hide hbd; clear hwd hbd)
    all_goals (go_wp2_with fail)
    all_goals go_meet
    all_goals exact ⟨by simp, unhide HBD⟩
  case rest =>
    obtain ⟨rfl, hbx⟩ := hcut
    have k1a := cell_stays hbx hg1a
    have k3a := cell_stays hbx hg3a
    have HB4 := hide ((unhide HB3).trans (hbx.mono (unhide HB3).size))
    have HS2 : Hid (∀ n, Calls Tryd.prog 9 #[.slice (some ⟨b1a, 0, none⟩) 2 cp1a, .slice (some ⟨b3a, 0, none⟩) 2 cp3a] (wc.drewN n) fun e w'' => e = .returned (.bool true) ∧ ∃ m, w'' = wc.drewN m) := fun n =>
      Calls.quiet_of (same_any [selB, sd] b1a b3a cp1a cp3a (wc.drewN n) (by simp) (fun j s hj => cell_stays hbx (unhide HR1a j s hj)) (fun j s hj => cell_stays hbx (unhide HR3a j s hj)))
    clear hbx hg1a hg3a HB3 HR1a HR3a hs30 hs31 HN H0 H1
    have hwr0 : IntKind.i64.wrap 0 = 0 := by decide
    have hwr1 : IntKind.i64.wrap 1 = 1 := by decide
    go_wp2_with fail
    refine wp_loop_rounds 1 ?_
    rw [rounds_succ]
    go_wp2_with fail
    refine wp_loop_rounds 2 ?_
    rw [rounds_succ]
    go_wp2_with fail
    go_quiet ((go_at_call 9; exact unhide HS2 _))
    go_wp2_with fail
    rw [rounds_succ]
    go_wp2
    go_ret
    exact ⟨rfl, below_drewN (unhide HB4) _⟩

theorem auth_any (hp user pw : ByteArray) (tls : Bool) (db : Int) (w : World) (h0 : -9223372036854775808 ≤ db) (h1 : db ≤ 9223372036854775807) (ht : Tab w) :
    Calls Tryd.prog 3 #[.string hp, .bool tls, .string user, .string pw, .int .i64 db] w fun e w' => e = .returned (.bool true) ∧ Below w.heap.size w w' := by
  by_cases hz : (hp.size : Int) + (user.size : Int) + (pw.size : Int) ≤ 1048576
  · cases hd : (db == 0) with
    | true =>
      have hd0 : db = 0 := by simpa using hd
      subst hd0
      cases hu : (user.toList == []) with
      | true =>
        obtain rfl := empty_of hu
        cases hpw : (pw.toList == []) with
        | true =>
          obtain rfl := empty_of hpw
          exact auth_n0 hp tls w (by omega) ht
        | false => exact auth_p0 hp pw tls w (by omega) hpw ht
      | false => exact auth_u0 hp user pw tls w hz hu ht
    | false =>
      cases hu : (user.toList == []) with
      | true =>
        obtain rfl := empty_of hu
        cases hpw : (pw.toList == []) with
        | true =>
          obtain rfl := empty_of hpw
          exact auth_nd hp tls db w (by omega) hd h0 h1 ht
        | false => exact auth_pd hp pw tls db w (by omega) hpw hd h0 h1 ht
      | false => exact auth_ud hp user pw tls db w hz hu hd h0 h1 ht
  · exact auth_big hp user pw tls db w (by omega)

end Go.Proofs.Qxb6632655aDoor
