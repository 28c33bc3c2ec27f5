/-
  THE LAW FnPreludeDecodesBackToCredentialsAndDB: its walk, a way each.
-/
import Derived.Test.Qxb6632655aDoorAddr
import Derived.Test.Qxb6632655aDoorBytes
import Derived.Test.Qxb6632655aDoorParse
namespace Go.Proofs.Qxb6632655aDoor
open Go.RowKit

set_option maxHeartbeats 400000 in
theorem dec_big (hp user pw : ByteArray) (tls : Bool) (db : Int) (w : World) (h : 1048576 < (hp.size : Int) + (user.size : Int) + (pw.size : Int)) :
    Calls Tryd.prog 4 #[.string hp, .bool tls, .string user, .string pw, .int .i64 db] w fun e w' => e = .returned (.bool true) ∧ Below w.heap.size w w' := by
  go_enter Tryd.func4, Tryd.ntmps4
  go_wp2_with fail
  refine (bytes10_big hp user pw tls db _ h).mono ?_
  rintro e w' ⟨rfl, rfl⟩
  go_wp2
  go_ret
  exact ⟨rfl, Below.refl _ _⟩

set_option maxRecDepth 100000 in
set_option maxHeartbeats 1000000 in
theorem dec_ud (hp user pw : ByteArray) (tls : Bool) (db : Int) (w : World) (hz : (hp.size : Int) + (user.size : Int) + (pw.size : Int) ≤ 1048576) (hu : (user.toList == []) = false) (hd : (db == 0) = false) (H0 : Hid (-9223372036854775808 ≤ db)) (H1 : Hid (db ≤ 9223372036854775807)) (HT : Hid (Tab w)) :
    Calls Tryd.prog 4 #[.string hp, .bool tls, .string user, .string pw, .int .i64 db] w fun e w' => e = .returned (.bool true) ∧ Below w.heap.size w w' := by
  have z0 : (hp.size : Int) ≤ 1048576 := by omega
  have z1 : (user.size : Int) ≤ 1048576 := by omega
  have z2 : (pw.size : Int) ≤ 1048576 := by omega
  go_enter Tryd.func4, Tryd.ntmps4
  go_wp2_with fail
  refine (bytes10_small hp user pw tls db _ (by have e0 : (⟨#[]⟩ : ByteArray).size = 0 := rfl; first | omega | (rw [e0]; omega))).mono ?_
  rintro e w0 ⟨rfl, hw0⟩
  obtain rfl := hw0.symm
  clear hw0
  go_wp2_with fail
  refine (addr_any hp user pw tls db _).mono ?_
  rintro e w1 ⟨rfl, hw1⟩
  have HB1 := hide (show Below w.heap.size w w1 by rw [hw1]; exact (Below.refl _ w).alloc (Nat.le_refl _) _)
  clear hw1
  go_wp2_with fail
  refine (zzprel_any hp user pw tls db _ H0 H1 ((unhide HT).later (unhide HB1))).mono ?_
  rintro e w2 ⟨v, rfl, hc, hb⟩
  have HB2 := hide ((unhide HB1).trans (hb.mono (unhide HB1).size))
  have hcs : Cmds w2 v [[authB, user, pw], [selB, numB db]] := by
    have e1 : authCmds user pw ++ selCmds db = [[authB, user, pw], [selB, numB db]] := by simp [authCmds, selCmds, hu, hd]
    rw [← e1]; exact hc
  clear hc hb HB1 HT
  obtain ⟨g, cap, u0, u1, hv, hg0, hg1, hq0, hq1⟩ := cmds2 hcs
  obtain ⟨b0, cap0, hu0, hb00, hb01, hb02⟩ := cmd3 hq0
  rw [hu0] at hg0
  have hb00' : w2.cell? ⟨b0, 0, none⟩ = some (.string ⟨#[65, 85, 84, 72]⟩) := hb00
  clear hb00 hu0 hq0
  obtain ⟨b1, cap1, hu1, hb10, hb11⟩ := cmd2 hq1
  rw [hu1] at hg1
  have hb10' : w2.cell? ⟨b1, 0, none⟩ = some (.string ⟨#[83, 69, 76, 69, 67, 84]⟩) := hb10
  clear hb10 hu1 hq1
  clear hcs
  rw [hv]
  clear hv
  generalize hnum : numB db = sd at *
  have HN := hide hnum
  clear hnum
  go_wp2_with fail
  have hpar := parse_numB db w2 (by simpa using hd) (unhide H0) (unhide H1)
  rw [unhide HN] at hpar
  refine hpar.mono ?_
  clear hpar
  rintro e w3 ⟨rfl, rfl⟩
  go_wp2
  go_ret
  exact ⟨rfl, unhide HB2⟩

set_option maxRecDepth 100000 in
set_option maxHeartbeats 1000000 in
theorem dec_u0 (hp user pw : ByteArray) (tls : Bool) (w : World) (hz : (hp.size : Int) + (user.size : Int) + (pw.size : Int) ≤ 1048576) (hu : (user.toList == []) = false) (HT : Hid (Tab w)) :
    Calls Tryd.prog 4 #[.string hp, .bool tls, .string user, .string pw, .int .i64 0] w fun e w' => e = .returned (.bool true) ∧ Below w.heap.size w w' := by
  have z0 : (hp.size : Int) ≤ 1048576 := by omega
  have z1 : (user.size : Int) ≤ 1048576 := by omega
  have z2 : (pw.size : Int) ≤ 1048576 := by omega
  go_enter Tryd.func4, Tryd.ntmps4
  go_wp2_with fail
  refine (bytes10_small hp user pw tls 0 _ (by have e0 : (⟨#[]⟩ : ByteArray).size = 0 := rfl; first | omega | (rw [e0]; omega))).mono ?_
  rintro e w0 ⟨rfl, hw0⟩
  obtain rfl := hw0.symm
  clear hw0
  go_wp2_with fail
  refine (addr_any hp user pw tls 0 _).mono ?_
  rintro e w1 ⟨rfl, hw1⟩
  have HB1 := hide (show Below w.heap.size w w1 by rw [hw1]; exact (Below.refl _ w).alloc (Nat.le_refl _) _)
  clear hw1
  go_wp2_with fail
  refine (zzprel_any hp user pw tls 0 _ (hide (by decide)) (hide (by decide)) ((unhide HT).later (unhide HB1))).mono ?_
  rintro e w2 ⟨v, rfl, hc, hb⟩
  have HB2 := hide ((unhide HB1).trans (hb.mono (unhide HB1).size))
  have hcs : Cmds w2 v [[authB, user, pw]] := by
    have e1 : authCmds user pw ++ selCmds 0 = [[authB, user, pw]] := by simp [authCmds, selCmds, hu]
    rw [← e1]; exact hc
  clear hc hb HB1 HT
  obtain ⟨g, cap, u0, hv, hg0, hq0⟩ := cmds1 hcs
  obtain ⟨b0, cap0, hu0, hb00, hb01, hb02⟩ := cmd3 hq0
  rw [hu0] at hg0
  have hb00' : w2.cell? ⟨b0, 0, none⟩ = some (.string ⟨#[65, 85, 84, 72]⟩) := hb00
  clear hb00 hu0 hq0
  clear hcs
  rw [hv]
  clear hv
  go_wp2
  go_ret
  exact ⟨rfl, unhide HB2⟩

set_option maxRecDepth 100000 in
set_option maxHeartbeats 1000000 in
theorem dec_pd (hp pw : ByteArray) (tls : Bool) (db : Int) (w : World) (hz : (hp.size : Int) + (pw.size : Int) ≤ 1048576) (hpw : (pw.toList == []) = false) (hd : (db == 0) = false) (H0 : Hid (-9223372036854775808 ≤ db)) (H1 : Hid (db ≤ 9223372036854775807)) (HT : Hid (Tab w)) :
    Calls Tryd.prog 4 #[.string hp, .bool tls, .string ⟨#[]⟩, .string pw, .int .i64 db] w fun e w' => e = .returned (.bool true) ∧ Below w.heap.size w w' := by
  have z0 : (hp.size : Int) ≤ 1048576 := by omega
  have z1 : (pw.size : Int) ≤ 1048576 := by omega
  go_enter Tryd.func4, Tryd.ntmps4
  go_wp2_with fail
  refine (bytes10_small hp ⟨#[]⟩ pw tls db _ (by have e0 : (⟨#[]⟩ : ByteArray).size = 0 := rfl; first | omega | (rw [e0]; omega))).mono ?_
  rintro e w0 ⟨rfl, hw0⟩
  obtain rfl := hw0.symm
  clear hw0
  go_wp2_with fail
  refine (addr_any hp ⟨#[]⟩ pw tls db _).mono ?_
  rintro e w1 ⟨rfl, hw1⟩
  have HB1 := hide (show Below w.heap.size w w1 by rw [hw1]; exact (Below.refl _ w).alloc (Nat.le_refl _) _)
  clear hw1
  go_wp2_with fail
  refine (zzprel_any hp ⟨#[]⟩ pw tls db _ H0 H1 ((unhide HT).later (unhide HB1))).mono ?_
  rintro e w2 ⟨v, rfl, hc, hb⟩
  have HB2 := hide ((unhide HB1).trans (hb.mono (unhide HB1).size))
  have hcs : Cmds w2 v [[authB, pw], [selB, numB db]] := by
    have e1 : authCmds ⟨#[]⟩ pw ++ selCmds db = [[authB, pw], [selB, numB db]] := by simp [authCmds, selCmds, hpw, hd]
    rw [← e1]; exact hc
  clear hc hb HB1 HT
  obtain ⟨g, cap, u0, u1, hv, hg0, hg1, hq0, hq1⟩ := cmds2 hcs
  obtain ⟨b0, cap0, hu0, hb00, hb01⟩ := cmd2 hq0
  rw [hu0] at hg0
  have hb00' : w2.cell? ⟨b0, 0, none⟩ = some (.string ⟨#[65, 85, 84, 72]⟩) := hb00
  clear hb00 hu0 hq0
  obtain ⟨b1, cap1, hu1, hb10, hb11⟩ := cmd2 hq1
  rw [hu1] at hg1
  have hb10' : w2.cell? ⟨b1, 0, none⟩ = some (.string ⟨#[83, 69, 76, 69, 67, 84]⟩) := hb10
  clear hb10 hu1 hq1
  clear hcs
  rw [hv]
  clear hv
  generalize hnum : numB db = sd at *
  have HN := hide hnum
  clear hnum
  go_wp2_with fail
  have hpar := parse_numB db w2 (by simpa using hd) (unhide H0) (unhide H1)
  rw [unhide HN] at hpar
  refine hpar.mono ?_
  clear hpar
  rintro e w3 ⟨rfl, rfl⟩
  go_wp2
  go_ret
  exact ⟨rfl, unhide HB2⟩

set_option maxRecDepth 100000 in
set_option maxHeartbeats 1000000 in
theorem dec_p0 (hp pw : ByteArray) (tls : Bool) (w : World) (hz : (hp.size : Int) + (pw.size : Int) ≤ 1048576) (hpw : (pw.toList == []) = false) (HT : Hid (Tab w)) :
    Calls Tryd.prog 4 #[.string hp, .bool tls, .string ⟨#[]⟩, .string pw, .int .i64 0] w fun e w' => e = .returned (.bool true) ∧ Below w.heap.size w w' := by
  have z0 : (hp.size : Int) ≤ 1048576 := by omega
  have z1 : (pw.size : Int) ≤ 1048576 := by omega
  go_enter Tryd.func4, Tryd.ntmps4
  go_wp2_with fail
  refine (bytes10_small hp ⟨#[]⟩ pw tls 0 _ (by have e0 : (⟨#[]⟩ : ByteArray).size = 0 := rfl; first | omega | (rw [e0]; omega))).mono ?_
  rintro e w0 ⟨rfl, hw0⟩
  obtain rfl := hw0.symm
  clear hw0
  go_wp2_with fail
  refine (addr_any hp ⟨#[]⟩ pw tls 0 _).mono ?_
  rintro e w1 ⟨rfl, hw1⟩
  have HB1 := hide (show Below w.heap.size w w1 by rw [hw1]; exact (Below.refl _ w).alloc (Nat.le_refl _) _)
  clear hw1
  go_wp2_with fail
  refine (zzprel_any hp ⟨#[]⟩ pw tls 0 _ (hide (by decide)) (hide (by decide)) ((unhide HT).later (unhide HB1))).mono ?_
  rintro e w2 ⟨v, rfl, hc, hb⟩
  have HB2 := hide ((unhide HB1).trans (hb.mono (unhide HB1).size))
  have hcs : Cmds w2 v [[authB, pw]] := by
    have e1 : authCmds ⟨#[]⟩ pw ++ selCmds 0 = [[authB, pw]] := by simp [authCmds, selCmds, hpw]
    rw [← e1]; exact hc
  clear hc hb HB1 HT
  obtain ⟨g, cap, u0, hv, hg0, hq0⟩ := cmds1 hcs
  obtain ⟨b0, cap0, hu0, hb00, hb01⟩ := cmd2 hq0
  rw [hu0] at hg0
  have hb00' : w2.cell? ⟨b0, 0, none⟩ = some (.string ⟨#[65, 85, 84, 72]⟩) := hb00
  clear hb00 hu0 hq0
  clear hcs
  rw [hv]
  clear hv
  go_wp2
  go_ret
  exact ⟨rfl, unhide HB2⟩

set_option maxRecDepth 100000 in
set_option maxHeartbeats 1000000 in
theorem dec_nd (hp : ByteArray) (tls : Bool) (db : Int) (w : World) (hz : (hp.size : Int) ≤ 1048576) (hd : (db == 0) = false) (H0 : Hid (-9223372036854775808 ≤ db)) (H1 : Hid (db ≤ 9223372036854775807)) (HT : Hid (Tab w)) :
    Calls Tryd.prog 4 #[.string hp, .bool tls, .string ⟨#[]⟩, .string ⟨#[]⟩, .int .i64 db] w fun e w' => e = .returned (.bool true) ∧ Below w.heap.size w w' := by
  have z0 : (hp.size : Int) ≤ 1048576 := by omega
  go_enter Tryd.func4, Tryd.ntmps4
  go_wp2_with fail
  refine (bytes10_small hp ⟨#[]⟩ ⟨#[]⟩ tls db _ (by have e0 : (⟨#[]⟩ : ByteArray).size = 0 := rfl; first | omega | (rw [e0]; omega))).mono ?_
  rintro e w0 ⟨rfl, hw0⟩
  obtain rfl := hw0.symm
  clear hw0
  go_wp2_with fail
  refine (addr_any hp ⟨#[]⟩ ⟨#[]⟩ tls db _).mono ?_
  rintro e w1 ⟨rfl, hw1⟩
  have HB1 := hide (show Below w.heap.size w w1 by rw [hw1]; exact (Below.refl _ w).alloc (Nat.le_refl _) _)
  clear hw1
  go_wp2_with fail
  refine (zzprel_any hp ⟨#[]⟩ ⟨#[]⟩ tls db _ H0 H1 ((unhide HT).later (unhide HB1))).mono ?_
  rintro e w2 ⟨v, rfl, hc, hb⟩
  have HB2 := hide ((unhide HB1).trans (hb.mono (unhide HB1).size))
  have hcs : Cmds w2 v [[selB, numB db]] := by
    have e1 : authCmds ⟨#[]⟩ ⟨#[]⟩ ++ selCmds db = [[selB, numB db]] := by simp [authCmds, selCmds, hd]
    rw [← e1]; exact hc
  clear hc hb HB1 HT
  obtain ⟨g, cap, u0, hv, hg0, hq0⟩ := cmds1 hcs
  obtain ⟨b0, cap0, hu0, hb00, hb01⟩ := cmd2 hq0
  rw [hu0] at hg0
  have hb00' : w2.cell? ⟨b0, 0, none⟩ = some (.string ⟨#[83, 69, 76, 69, 67, 84]⟩) := hb00
  clear hb00 hu0 hq0
  clear hcs
  rw [hv]
  clear hv
  generalize hnum : numB db = sd at *
  have HN := hide hnum
  clear hnum
  go_wp2_with fail
  have hpar := parse_numB db w2 (by simpa using hd) (unhide H0) (unhide H1)
  rw [unhide HN] at hpar
  refine hpar.mono ?_
  clear hpar
  rintro e w3 ⟨rfl, rfl⟩
  go_wp2
  go_ret
  exact ⟨rfl, unhide HB2⟩

set_option maxRecDepth 100000 in
set_option maxHeartbeats 1000000 in
theorem dec_n0 (hp : ByteArray) (tls : Bool) (w : World) (hz : (hp.size : Int) ≤ 1048576) (HT : Hid (Tab w)) :
    Calls Tryd.prog 4 #[.string hp, .bool tls, .string ⟨#[]⟩, .string ⟨#[]⟩, .int .i64 0] w fun e w' => e = .returned (.bool true) ∧ Below w.heap.size w w' := by
  have z0 : (hp.size : Int) ≤ 1048576 := by omega
  go_enter Tryd.func4, Tryd.ntmps4
  go_wp2_with fail
  refine (bytes10_small hp ⟨#[]⟩ ⟨#[]⟩ tls 0 _ (by have e0 : (⟨#[]⟩ : ByteArray).size = 0 := rfl; first | omega | (rw [e0]; omega))).mono ?_
  rintro e w0 ⟨rfl, hw0⟩
  obtain rfl := hw0.symm
  clear hw0
  go_wp2_with fail
  refine (addr_any hp ⟨#[]⟩ ⟨#[]⟩ tls 0 _).mono ?_
  rintro e w1 ⟨rfl, hw1⟩
  have HB1 := hide (show Below w.heap.size w w1 by rw [hw1]; exact (Below.refl _ w).alloc (Nat.le_refl _) _)
  clear hw1
  go_wp2_with fail
  refine (zzprel_any hp ⟨#[]⟩ ⟨#[]⟩ tls 0 _ (hide (by decide)) (hide (by decide)) ((unhide HT).later (unhide HB1))).mono ?_
  rintro e w2 ⟨v, rfl, hc, hb⟩
  have HB2 := hide ((unhide HB1).trans (hb.mono (unhide HB1).size))
  have hcs : Cmds w2 v [] := by
    have e1 : authCmds ⟨#[]⟩ ⟨#[]⟩ ++ selCmds 0 = [] := by simp [authCmds, selCmds]
    rw [← e1]; exact hc
  clear hc hb HB1 HT
  have hv := cmds0 hcs
  clear hcs
  rw [hv]
  clear hv
  go_wp2
  go_ret
  exact ⟨rfl, unhide HB2⟩

theorem dec_any (hp user pw : ByteArray) (tls : Bool) (db : Int) (w : World) (h0 : -9223372036854775808 ≤ db) (h1 : db ≤ 9223372036854775807) (ht : Tab w) :
    Calls Tryd.prog 4 #[.string hp, .bool tls, .string user, .string pw, .int .i64 db] w fun e w' => e = .returned (.bool true) ∧ Below w.heap.size w w' := by
  by_cases hz : (hp.size : Int) + (user.size : Int) + (pw.size : Int) ≤ 1048576
  · cases hd : (db == 0) with
    | true =>
      have hd0 : db = 0 := by simpa using hd
      subst hd0
      cases hu : (user.toList == []) with
      | true =>
        obtain rfl := empty_of hu
        cases hpw : (pw.toList == []) with
        | true =>
          obtain rfl := empty_of hpw
          exact dec_n0 hp tls w (by omega) ht
        | false => exact dec_p0 hp pw tls w (by omega) hpw ht
      | false => exact dec_u0 hp user pw tls w hz hu ht
    | false =>
      cases hu : (user.toList == []) with
      | true =>
        obtain rfl := empty_of hu
        cases hpw : (pw.toList == []) with
        | true =>
          obtain rfl := empty_of hpw
          exact dec_nd hp tls db w (by omega) hd h0 h1 ht
        | false => exact dec_pd hp pw tls db w (by omega) hpw hd h0 h1 ht
      | false => exact dec_ud hp user pw tls db w hz hu hd h0 h1 ht
  · exact dec_big hp user pw tls db w (by omega)

end Go.Proofs.Qxb6632655aDoor
