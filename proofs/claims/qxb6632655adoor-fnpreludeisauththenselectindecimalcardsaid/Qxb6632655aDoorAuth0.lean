/-
  THE LAW FnPreludeIsAuthThenSelectInDecimal: its walk, the ways without a database.
-/
import Derived.Test.Qxb6632655aDoorAddr
import Derived.Test.Qxb6632655aDoorBytes
import Derived.Test.Qxb6632655aDoorDecimal
import Derived.Test.Qxb6632655aDoorSame
import Derived.Deep.DeepCutAuto
import Derived.Deep.RegionWith
namespace Go.Proofs.Qxb6632655aDoor
open Go.RowKit

theorem below_drewN {B : Nat} {a w : World} (h : Below B a w) (n : Nat) : Below B a (w.drewN n) := ⟨h.os, h.tape, h.output, h.size, h.block⟩

theorem bcell {W w1 : World} (hb : Below W.heap.size W w1) : (∀ b o, b < W.heap.size → w1.cell? ⟨b, o, none⟩ = W.cell? ⟨b, o, none⟩) ∧ (∀ b o, b < W.heap.size → w1.frozen? ⟨b, o, none⟩ = W.frozen? ⟨b, o, none⟩) :=
  ⟨fun b o h => hb.cell (p := ⟨b, o, none⟩) h, fun b o h => hb.frozen (p := ⟨b, o, none⟩) h⟩

theorem below_drew_alloc (W : World) (n : Nat) (o : Obj) : Below W.heap.size W ((W.drewN n).alloc o) :=
  (show Below W.heap.size W (W.drewN n) from ⟨rfl, rfl, rfl, Nat.le_refl _, fun _ _ => rfl⟩).alloc (Nat.le_refl _) o

set_option maxHeartbeats 400000 in
theorem auth_big (hp user pw : ByteArray) (tls : Bool) (db : Int) (w : World) (h : 1048576 < (hp.size : Int) + (user.size : Int) + (pw.size : Int)) :
    Calls Tryd.prog 3 #[.string hp, .bool tls, .string user, .string pw, .int .i64 db] w fun e w' => e = .returned (.bool true) ∧ Below w.heap.size w w' := by
  go_enter Tryd.func3, Tryd.ntmps3
  go_wp2_with fail
  refine (bytes5_big hp user pw tls db _ h).mono ?_
  rintro e w' ⟨rfl, rfl⟩
  go_wp2
  go_ret
  exact ⟨rfl, Below.refl _ _⟩

set_option maxRecDepth 100000 in
set_option maxHeartbeats 2000000 in
theorem auth_u0 (hp user pw : ByteArray) (tls : Bool) (w : World) (hz : (hp.size : Int) + (user.size : Int) + (pw.size : Int) ≤ 1048576) (hu : (user.toList == []) = false) (HT : Hid (Tab w)) :
    Calls Tryd.prog 3 #[.string hp, .bool tls, .string user, .string pw, .int .i64 0] w fun e w' => e = .returned (.bool true) ∧ Below w.heap.size w w' := by
  have z0 : (hp.size : Int) ≤ 1048576 := by omega
  have z1 : (user.size : Int) ≤ 1048576 := by omega
  have z2 : (pw.size : Int) ≤ 1048576 := by omega
  go_enter Tryd.func3, Tryd.ntmps3
  go_wp2_with fail
  refine (bytes5_small hp user pw tls 0 _ (by have e0 : (⟨#[]⟩ : ByteArray).size = 0 := rfl; first | omega | (rw [e0]; omega))).mono ?_
  rintro e w0 ⟨rfl, hw0⟩
  obtain rfl := hw0.symm
  clear hw0
  have HB0 := hide (Below.refl w.heap.size w)
  go_wp2_with fail
  refine (addr_any hp user pw tls 0 _).mono ?_
  rintro e w1a ⟨rfl, hwa⟩
  have HA1 := hide (show Below w.heap.size w w1a by rw [hwa]; exact (Below.refl _ w).alloc (Nat.le_refl _) _)
  clear hwa
  have HBa1 := hide ((unhide HB0).trans ((unhide HA1).mono (unhide HB0).size))
  go_wp2_with fail
  refine (zzprel_any hp user pw tls 0 _ (hide (by decide)) (hide (by decide)) ((unhide HT).later (unhide HBa1))).mono ?_
  rintro e w1 ⟨v1, rfl, hc1, hb1⟩
  have HB1 := hide ((unhide HBa1).trans (hb1.mono (unhide HBa1).size))
  have HN1 := hide ((unhide HA1).trans (hb1.mono (unhide HA1).size))
  have HC1 : Hid (Cmds w1 v1 [[authB, user, pw]]) := by
    have e1 : authCmds user pw ++ selCmds 0 = [[authB, user, pw]] := by simp [authCmds, selCmds, hu]
    rw [← e1]; exact hc1
  clear hc1 hb1 HA1 HBa1
  go_wp2_with fail
  refine (addr_any ⟨#[]⟩ user pw false 0 _).mono ?_
  rintro e w2a ⟨rfl, hwa⟩
  have HA2 := hide (show Below w1.heap.size w1 w2a by rw [hwa]; exact (Below.refl _ w1).alloc (Nat.le_refl _) _)
  clear hwa
  have HBa2 := hide ((unhide HB1).trans ((unhide HA2).mono (unhide HB1).size))
  go_wp2_with fail
  refine (zzprel_any ⟨#[]⟩ user pw false 0 _ (hide (by decide)) (hide (by decide)) ((unhide HT).later (unhide HBa2))).mono ?_
  rintro e w2 ⟨v2, rfl, hc2, hb2⟩
  have HB2 := hide ((unhide HBa2).trans (hb2.mono (unhide HBa2).size))
  have HN2 := hide ((unhide HA2).trans (hb2.mono (unhide HA2).size))
  have HC2 : Hid (Cmds w2 v2 [[authB, user, pw]]) := by
    have e1 : authCmds user pw ++ selCmds 0 = [[authB, user, pw]] := by simp [authCmds, selCmds, hu]
    rw [← e1]; exact hc2
  clear hc2 hb2 HA2 HBa2
  go_wp2_with fail
  refine (addr_any hp ⟨#[]⟩ ⟨#[]⟩ tls 0 _).mono ?_
  rintro e w3a ⟨rfl, hwa⟩
  have HA3 := hide (show Below w2.heap.size w2 w3a by rw [hwa]; exact (Below.refl _ w2).alloc (Nat.le_refl _) _)
  clear hwa
  have HBa3 := hide ((unhide HB2).trans ((unhide HA3).mono (unhide HB2).size))
  go_wp2_with fail
  refine (zzprel_any hp ⟨#[]⟩ ⟨#[]⟩ tls 0 _ (hide (by decide)) (hide (by decide)) ((unhide HT).later (unhide HBa3))).mono ?_
  rintro e w3 ⟨v3, rfl, hc3, hb3⟩
  have HB3 := hide ((unhide HBa3).trans (hb3.mono (unhide HBa3).size))
  have HN3 := hide ((unhide HA3).trans (hb3.mono (unhide HA3).size))
  have HC3 : Hid (Cmds w3 v3 []) := by
    have e1 : authCmds ⟨#[]⟩ ⟨#[]⟩ ++ selCmds 0 = [] := by simp [authCmds, selCmds]
    rw [← e1]; exact hc3
  clear hc3 hb3 HA3 HBa3
  have hcs1 := ((unhide HC1).stays (unhide HN2)).stays (unhide HN3)
  have hcs2 := (unhide HC2).stays (unhide HN3)
  have hcs3 := unhide HC3
  clear HC1 HC2 HC3 HN1 HN2 HN3 HB1 HB2 HB0 HT
  obtain ⟨g1, cap1, u1a, hv1, hg1a, hq1a⟩ := cmds1 hcs1
  obtain ⟨b1a, cp1a, hu1a, hr1a⟩ := hq1a
  rw [hu1a] at hg1a
  have HR1a := hide hr1a
  clear hu1a
  rw [hv1]
  clear hv1 hcs1
  clear hr1a
  obtain ⟨g2, cap2, u2a, hv2, hg2a, hq2a⟩ := cmds1 hcs2
  obtain ⟨b2a, cp2a, hu2a, hr2a⟩ := hq2a
  rw [hu2a] at hg2a
  have HR2a := hide hr2a
  clear hu2a
  rw [hv2]
  clear hv2 hcs2
  clear hr2a
  have hv3 := cmds0 hcs3
  rw [hv3]
  clear hv3 hcs3
  have hbx : Below w3.heap.size w3 w3 := Below.refl _ _
  have k1a := cell_stays hbx hg1a
  have k2a := cell_stays hbx hg2a
  have HB4 := hide ((unhide HB3).trans (hbx.mono (unhide HB3).size))
  have HS1 : Hid (∀ n, Calls Tryd.prog 9 #[.slice (some ⟨b1a, 0, none⟩) 3 cp1a, .slice (some ⟨b2a, 0, none⟩) 3 cp2a] (w3.drewN n) fun e w'' => e = .returned (.bool true) ∧ ∃ m, w'' = w3.drewN m) := fun n =>
    Calls.quiet_of (same_any [authB, user, pw] b1a b2a cp1a cp2a (w3.drewN n) (by simp) (fun j s hj => cell_stays hbx (unhide HR1a j s hj)) (fun j s hj => cell_stays hbx (unhide HR2a j s hj)))
  clear hbx hg1a hg2a HB3 HR1a HR2a
  have hwr0 : IntKind.i64.wrap 0 = 0 := by decide
  have hwr1 : IntKind.i64.wrap 1 = 1 := by decide
  go_wp2_with fail
  refine wp_loop_rounds 2 ?_
  rw [rounds_succ]
  go_wp2_with fail
  go_quiet ((go_at_call 9; exact unhide HS1 _))
  obtain ⟨wd, hwd⟩ : ∃ wd, wd = w3.drewN nq := ⟨_, rfl⟩
  rw [← hwd]
  have HB5 : Hid (Below w.heap.size w wd) := by rw [hwd]; exact below_drewN (unhide HB4) _
  clear hwd HS1 HB4 k1a k2a
  go_wp2_with fail
  rw [rounds_succ]
  go_wp2_with fail
  refine wp_loop_rounds 1 ?_
  rw [rounds_succ]
  go_wp2
  go_ret
  exact ⟨rfl, unhide HB5⟩

set_option maxRecDepth 100000 in
set_option maxHeartbeats 2000000 in
theorem auth_p0 (hp pw : ByteArray) (tls : Bool) (w : World) (hz : (hp.size : Int) + (pw.size : Int) ≤ 1048576) (hpw : (pw.toList == []) = false) (HT : Hid (Tab w)) :
    Calls Tryd.prog 3 #[.string hp, .bool tls, .string ⟨#[]⟩, .string pw, .int .i64 0] w fun e w' => e = .returned (.bool true) ∧ Below w.heap.size w w' := by
  have z0 : (hp.size : Int) ≤ 1048576 := by omega
  have z1 : (pw.size : Int) ≤ 1048576 := by omega
  go_enter Tryd.func3, Tryd.ntmps3
  go_wp2_with fail
  refine (bytes5_small hp ⟨#[]⟩ pw tls 0 _ (by have e0 : (⟨#[]⟩ : ByteArray).size = 0 := rfl; first | omega | (rw [e0]; omega))).mono ?_
  rintro e w0 ⟨rfl, hw0⟩
  obtain rfl := hw0.symm
  clear hw0
  have HB0 := hide (Below.refl w.heap.size w)
  go_wp2_with fail
  refine (addr_any hp ⟨#[]⟩ pw tls 0 _).mono ?_
  rintro e w1a ⟨rfl, hwa⟩
  have HA1 := hide (show Below w.heap.size w w1a by rw [hwa]; exact (Below.refl _ w).alloc (Nat.le_refl _) _)
  clear hwa
  have HBa1 := hide ((unhide HB0).trans ((unhide HA1).mono (unhide HB0).size))
  go_wp2_with fail
  refine (zzprel_any hp ⟨#[]⟩ pw tls 0 _ (hide (by decide)) (hide (by decide)) ((unhide HT).later (unhide HBa1))).mono ?_
  rintro e w1 ⟨v1, rfl, hc1, hb1⟩
  have HB1 := hide ((unhide HBa1).trans (hb1.mono (unhide HBa1).size))
  have HN1 := hide ((unhide HA1).trans (hb1.mono (unhide HA1).size))
  have HC1 : Hid (Cmds w1 v1 [[authB, pw]]) := by
    have e1 : authCmds ⟨#[]⟩ pw ++ selCmds 0 = [[authB, pw]] := by simp [authCmds, selCmds, hpw]
    rw [← e1]; exact hc1
  clear hc1 hb1 HA1 HBa1
  go_wp2_with fail
  refine (addr_any ⟨#[]⟩ ⟨#[]⟩ pw false 0 _).mono ?_
  rintro e w2a ⟨rfl, hwa⟩
  have HA2 := hide (show Below w1.heap.size w1 w2a by rw [hwa]; exact (Below.refl _ w1).alloc (Nat.le_refl _) _)
  clear hwa
  have HBa2 := hide ((unhide HB1).trans ((unhide HA2).mono (unhide HB1).size))
  go_wp2_with fail
  refine (zzprel_any ⟨#[]⟩ ⟨#[]⟩ pw false 0 _ (hide (by decide)) (hide (by decide)) ((unhide HT).later (unhide HBa2))).mono ?_
  rintro e w2 ⟨v2, rfl, hc2, hb2⟩
  have HB2 := hide ((unhide HBa2).trans (hb2.mono (unhide HBa2).size))
  have HN2 := hide ((unhide HA2).trans (hb2.mono (unhide HA2).size))
  have HC2 : Hid (Cmds w2 v2 [[authB, pw]]) := by
    have e1 : authCmds ⟨#[]⟩ pw ++ selCmds 0 = [[authB, pw]] := by simp [authCmds, selCmds, hpw]
    rw [← e1]; exact hc2
  clear hc2 hb2 HA2 HBa2
  go_wp2_with fail
  refine (addr_any hp ⟨#[]⟩ ⟨#[]⟩ tls 0 _).mono ?_
  rintro e w3a ⟨rfl, hwa⟩
  have HA3 := hide (show Below w2.heap.size w2 w3a by rw [hwa]; exact (Below.refl _ w2).alloc (Nat.le_refl _) _)
  clear hwa
  have HBa3 := hide ((unhide HB2).trans ((unhide HA3).mono (unhide HB2).size))
  go_wp2_with fail
  refine (zzprel_any hp ⟨#[]⟩ ⟨#[]⟩ tls 0 _ (hide (by decide)) (hide (by decide)) ((unhide HT).later (unhide HBa3))).mono ?_
  rintro e w3 ⟨v3, rfl, hc3, hb3⟩
  have HB3 := hide ((unhide HBa3).trans (hb3.mono (unhide HBa3).size))
  have HN3 := hide ((unhide HA3).trans (hb3.mono (unhide HA3).size))
  have HC3 : Hid (Cmds w3 v3 []) := by
    have e1 : authCmds ⟨#[]⟩ ⟨#[]⟩ ++ selCmds 0 = [] := by simp [authCmds, selCmds]
    rw [← e1]; exact hc3
  clear hc3 hb3 HA3 HBa3
  have hcs1 := ((unhide HC1).stays (unhide HN2)).stays (unhide HN3)
  have hcs2 := (unhide HC2).stays (unhide HN3)
  have hcs3 := unhide HC3
  clear HC1 HC2 HC3 HN1 HN2 HN3 HB1 HB2 HB0 HT
  obtain ⟨g1, cap1, u1a, hv1, hg1a, hq1a⟩ := cmds1 hcs1
  obtain ⟨b1a, cp1a, hu1a, hr1a⟩ := hq1a
  rw [hu1a] at hg1a
  have HR1a := hide hr1a
  clear hu1a
  rw [hv1]
  clear hv1 hcs1
  clear hr1a
  obtain ⟨g2, cap2, u2a, hv2, hg2a, hq2a⟩ := cmds1 hcs2
  obtain ⟨b2a, cp2a, hu2a, hr2a⟩ := hq2a
  rw [hu2a] at hg2a
  have HR2a := hide hr2a
  clear hu2a
  rw [hv2]
  clear hv2 hcs2
  clear hr2a
  have hv3 := cmds0 hcs3
  rw [hv3]
  clear hv3 hcs3
  have hbx : Below w3.heap.size w3 w3 := Below.refl _ _
  have k1a := cell_stays hbx hg1a
  have k2a := cell_stays hbx hg2a
  have HB4 := hide ((unhide HB3).trans (hbx.mono (unhide HB3).size))
  have HS1 : Hid (∀ n, Calls Tryd.prog 9 #[.slice (some ⟨b1a, 0, none⟩) 2 cp1a, .slice (some ⟨b2a, 0, none⟩) 2 cp2a] (w3.drewN n) fun e w'' => e = .returned (.bool true) ∧ ∃ m, w'' = w3.drewN m) := fun n =>
    Calls.quiet_of (same_any [authB, pw] b1a b2a cp1a cp2a (w3.drewN n) (by simp) (fun j s hj => cell_stays hbx (unhide HR1a j s hj)) (fun j s hj => cell_stays hbx (unhide HR2a j s hj)))
  clear hbx hg1a hg2a HB3 HR1a HR2a
  have hwr0 : IntKind.i64.wrap 0 = 0 := by decide
  have hwr1 : IntKind.i64.wrap 1 = 1 := by decide
  go_wp2_with fail
  refine wp_loop_rounds 2 ?_
  rw [rounds_succ]
  go_wp2_with fail
  go_quiet ((go_at_call 9; exact unhide HS1 _))
  obtain ⟨wd, hwd⟩ : ∃ wd, wd = w3.drewN nq := ⟨_, rfl⟩
  rw [← hwd]
  have HB5 : Hid (Below w.heap.size w wd) := by rw [hwd]; exact below_drewN (unhide HB4) _
  clear hwd HS1 HB4 k1a k2a
  go_wp2_with fail
  rw [rounds_succ]
  go_wp2_with fail
  refine wp_loop_rounds 1 ?_
  rw [rounds_succ]
  go_wp2
  go_ret
  exact ⟨rfl, unhide HB5⟩

set_option maxRecDepth 100000 in
set_option maxHeartbeats 2000000 in
theorem auth_n0 (hp : ByteArray) (tls : Bool) (w : World) (hz : (hp.size : Int) ≤ 1048576) (HT : Hid (Tab w)) :
    Calls Tryd.prog 3 #[.string hp, .bool tls, .string ⟨#[]⟩, .string ⟨#[]⟩, .int .i64 0] w fun e w' => e = .returned (.bool true) ∧ Below w.heap.size w w' := by
  have z0 : (hp.size : Int) ≤ 1048576 := by omega
  go_enter Tryd.func3, Tryd.ntmps3
  go_wp2_with fail
  refine (bytes5_small hp ⟨#[]⟩ ⟨#[]⟩ tls 0 _ (by have e0 : (⟨#[]⟩ : ByteArray).size = 0 := rfl; first | omega | (rw [e0]; omega))).mono ?_
  rintro e w0 ⟨rfl, hw0⟩
  obtain rfl := hw0.symm
  clear hw0
  have HB0 := hide (Below.refl w.heap.size w)
  go_wp2_with fail
  refine (addr_any hp ⟨#[]⟩ ⟨#[]⟩ tls 0 _).mono ?_
  rintro e w1a ⟨rfl, hwa⟩
  have HA1 := hide (show Below w.heap.size w w1a by rw [hwa]; exact (Below.refl _ w).alloc (Nat.le_refl _) _)
  clear hwa
  have HBa1 := hide ((unhide HB0).trans ((unhide HA1).mono (unhide HB0).size))
  go_wp2_with fail
  refine (zzprel_any hp ⟨#[]⟩ ⟨#[]⟩ tls 0 _ (hide (by decide)) (hide (by decide)) ((unhide HT).later (unhide HBa1))).mono ?_
  rintro e w1 ⟨v1, rfl, hc1, hb1⟩
  have HB1 := hide ((unhide HBa1).trans (hb1.mono (unhide HBa1).size))
  have HN1 := hide ((unhide HA1).trans (hb1.mono (unhide HA1).size))
  have HC1 : Hid (Cmds w1 v1 []) := by
    have e1 : authCmds ⟨#[]⟩ ⟨#[]⟩ ++ selCmds 0 = [] := by simp [authCmds, selCmds]
    rw [← e1]; exact hc1
  clear hc1 hb1 HA1 HBa1
  go_wp2_with fail
  refine (addr_any ⟨#[]⟩ ⟨#[]⟩ ⟨#[]⟩ false 0 _).mono ?_
  rintro e w2a ⟨rfl, hwa⟩
  have HA2 := hide (show Below w1.heap.size w1 w2a by rw [hwa]; exact (Below.refl _ w1).alloc (Nat.le_refl _) _)
  clear hwa
  have HBa2 := hide ((unhide HB1).trans ((unhide HA2).mono (unhide HB1).size))
  go_wp2_with fail
  refine (zzprel_any ⟨#[]⟩ ⟨#[]⟩ ⟨#[]⟩ false 0 _ (hide (by decide)) (hide (by decide)) ((unhide HT).later (unhide HBa2))).mono ?_
  rintro e w2 ⟨v2, rfl, hc2, hb2⟩
  have HB2 := hide ((unhide HBa2).trans (hb2.mono (unhide HBa2).size))
  have HN2 := hide ((unhide HA2).trans (hb2.mono (unhide HA2).size))
  have HC2 : Hid (Cmds w2 v2 []) := by
    have e1 : authCmds ⟨#[]⟩ ⟨#[]⟩ ++ selCmds 0 = [] := by simp [authCmds, selCmds]
    rw [← e1]; exact hc2
  clear hc2 hb2 HA2 HBa2
  go_wp2_with fail
  refine (addr_any hp ⟨#[]⟩ ⟨#[]⟩ tls 0 _).mono ?_
  rintro e w3a ⟨rfl, hwa⟩
  have HA3 := hide (show Below w2.heap.size w2 w3a by rw [hwa]; exact (Below.refl _ w2).alloc (Nat.le_refl _) _)
  clear hwa
  have HBa3 := hide ((unhide HB2).trans ((unhide HA3).mono (unhide HB2).size))
  go_wp2_with fail
  refine (zzprel_any hp ⟨#[]⟩ ⟨#[]⟩ tls 0 _ (hide (by decide)) (hide (by decide)) ((unhide HT).later (unhide HBa3))).mono ?_
  rintro e w3 ⟨v3, rfl, hc3, hb3⟩
  have HB3 := hide ((unhide HBa3).trans (hb3.mono (unhide HBa3).size))
  have HN3 := hide ((unhide HA3).trans (hb3.mono (unhide HA3).size))
  have HC3 : Hid (Cmds w3 v3 []) := by
    have e1 : authCmds ⟨#[]⟩ ⟨#[]⟩ ++ selCmds 0 = [] := by simp [authCmds, selCmds]
    rw [← e1]; exact hc3
  clear hc3 hb3 HA3 HBa3
  have hcs1 := ((unhide HC1).stays (unhide HN2)).stays (unhide HN3)
  have hcs2 := (unhide HC2).stays (unhide HN3)
  have hcs3 := unhide HC3
  clear HC1 HC2 HC3 HN1 HN2 HN3 HB1 HB2 HB0 HT
  have hv1 := cmds0 hcs1
  rw [hv1]
  clear hv1 hcs1
  have hv2 := cmds0 hcs2
  rw [hv2]
  clear hv2 hcs2
  have hv3 := cmds0 hcs3
  rw [hv3]
  clear hv3 hcs3
  have hbx : Below w3.heap.size w3 w3 := Below.refl _ _
  have HB4 := hide ((unhide HB3).trans (hbx.mono (unhide HB3).size))
  clear hbx HB3
  have hwr0 : IntKind.i64.wrap 0 = 0 := by decide
  have hwr1 : IntKind.i64.wrap 1 = 1 := by decide
  go_wp2_with fail
  refine wp_loop_rounds 1 ?_
  rw [rounds_succ]
  go_wp2_with fail
  refine wp_loop_rounds 1 ?_
  rw [rounds_succ]
  go_wp2
  go_ret
  exact ⟨rfl, unhide HB4⟩

end Go.Proofs.Qxb6632655aDoor
