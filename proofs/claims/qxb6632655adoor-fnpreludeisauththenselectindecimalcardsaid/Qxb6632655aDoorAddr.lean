/-
  THE WALKS over ZZnewAddress and ZZprelude; what a list of commands holds, written out; zzBytes.
-/
import Derived.Test.Qxb6632655aDoorPrel
namespace Go.Proofs.Qxb6632655aDoor
open Go.RowKit

theorem empty_of {s : ByteArray} (h : (s.toList == []) = true) : s = ⟨#[]⟩ := by
  rw [ByteArray.toList_eq] at h
  have h1 : s.data.toList = [] := by simpa using h
  apply ByteArray.ext
  apply Array.ext'
  rw [h1]

theorem prelude_any (hp user pw : ByteArray) (tls : Bool) (db : Int) (w : World) (h0 : -9223372036854775808 ≤ db) (h1 : db ≤ 9223372036854775807) (ht : Tab w) :
    Calls Tryd.prog 12 #[.agg #[.string hp, .bool tls, .string user, .string pw, .int .i64 db]] w fun e w' => ∃ v, e = .returned v ∧ Cmds w' v (authCmds user pw ++ selCmds db) ∧ Below w.heap.size w w' := by
  unfold authCmds selCmds
  cases hd : (db == 0) with
  | true =>
    have hd0 : db = 0 := by simpa using hd
    subst hd0
    cases hu : (user.toList == []) with
    | true =>
      cases hpw : (pw.toList == []) with
      | true => exact prel_n0 hp user pw tls w hu hpw
      | false => exact prel_p0 hp user pw tls w hu hpw
    | false => exact prel_u0 hp user pw tls w hu
  | false =>
    cases hu : (user.toList == []) with
    | true =>
      cases hpw : (pw.toList == []) with
      | true => exact prel_nd hp user pw tls db w hu hpw hd h0 h1 ht
      | false => exact prel_pd hp user pw tls db w hu hpw hd h0 h1 ht
    | false => exact prel_ud hp user pw tls db w hu hd h0 h1 ht

set_option maxHeartbeats 400000 in
theorem addr_any (hp user pw : ByteArray) (tls : Bool) (db : Int) (w : World) :
    Calls Tryd.prog 7 #[.string hp, .bool tls, .string user, .string pw, .int .i64 db] w fun e w' =>
      e = .returned (.agg #[.string hp, .bool tls, .string user, .string pw, .int .i64 db]) ∧ w' = w.alloc (.cells #[.string hp, .bool tls, .string user, .string pw, .int .i64 db] 26) := by
  go_enter Tryd.func7, Tryd.ntmps7
  go_wp2
  exact bodyPost_ret (v := .agg #[.string hp, .bool tls, .string user, .string pw, .int .i64 db]) (by simp [results, Tryd.results7, go_sem]) rfl ⟨rfl, rfl⟩

set_option maxHeartbeats 400000 in
theorem zzprel_any (hp user pw : ByteArray) (tls : Bool) (db : Int) (w : World) (H0 : Hid (-9223372036854775808 ≤ db)) (H1 : Hid (db ≤ 9223372036854775807)) (HT : Hid (Tab w)) :
    Calls Tryd.prog 6 #[.agg #[.string hp, .bool tls, .string user, .string pw, .int .i64 db]] w fun e w' => ∃ v, e = .returned v ∧ Cmds w' v (authCmds user pw ++ selCmds db) ∧ Below w.heap.size w w' := by
  go_enter Tryd.func6, Tryd.ntmps6
  go_wp2_with fail
  have hb : Below w.heap.size w (w.alloc (.cells #[.string hp, .bool tls, .string user, .string pw, .int .i64 db] 26)) := (Below.refl _ w).alloc (Nat.le_refl _) _
  refine (prelude_any hp user pw tls db _ (unhide H0) (unhide H1) ((unhide HT).later hb)).mono ?_
  rintro e w' ⟨v, rfl, hc, hb2⟩
  have HB := hide (hb.trans (hb2.mono hb.size))
  have HC := hide hc
  clear hc hb2 hb
  go_wp2
  go_ret
  exact ⟨v, rfl, unhide HC, unhide HB⟩

/-! ### What a list of commands holds, written out -/

theorem cmd3 {w : World} {u : Value} {a b c : ByteArray} (h : CmdAt w u [a, b, c]) : ∃ q cap, u = .slice (some ⟨q, 0, none⟩) 3 cap ∧ w.cell? ⟨q, 0, none⟩ = some (.string a) ∧ w.cell? ⟨q, 1, none⟩ = some (.string b) ∧ w.cell? ⟨q, 2, none⟩ = some (.string c) := by
  obtain ⟨q, cap, hu, hc⟩ := h
  exact ⟨q, cap, hu, hc 0 a rfl, hc 1 b rfl, hc 2 c rfl⟩
theorem cmd2 {w : World} {u : Value} {a b : ByteArray} (h : CmdAt w u [a, b]) : ∃ q cap, u = .slice (some ⟨q, 0, none⟩) 2 cap ∧ w.cell? ⟨q, 0, none⟩ = some (.string a) ∧ w.cell? ⟨q, 1, none⟩ = some (.string b) := by
  obtain ⟨q, cap, hu, hc⟩ := h
  exact ⟨q, cap, hu, hc 0 a rfl, hc 1 b rfl⟩
theorem cmds0 {w : World} {v : Value} (h : Cmds w v []) : v = .slice none 0 0 := by
  rcases h with ⟨_, h⟩ | ⟨g, cap, hne, _⟩
  · exact h
  · exact absurd rfl hne
theorem cmds1 {w : World} {v : Value} {c : List ByteArray} (h : Cmds w v [c]) : ∃ g cap u, v = .slice (some ⟨g, 0, none⟩) 1 cap ∧ w.cell? ⟨g, 0, none⟩ = some u ∧ CmdAt w u c := by
  rcases h with ⟨h, _⟩ | ⟨g, cap, _, hv, hc⟩
  · cases h
  · obtain ⟨u, hu, hcu⟩ := hc 0 c rfl
    exact ⟨g, cap, u, hv, hu, hcu⟩
theorem cmds2 {w : World} {v : Value} {c d : List ByteArray} (h : Cmds w v [c, d]) : ∃ g cap u u', v = .slice (some ⟨g, 0, none⟩) 2 cap ∧ w.cell? ⟨g, 0, none⟩ = some u ∧ w.cell? ⟨g, 1, none⟩ = some u' ∧ CmdAt w u c ∧ CmdAt w u' d := by
  rcases h with ⟨h, _⟩ | ⟨g, cap, _, hv, hc⟩
  · cases h
  · obtain ⟨u, hu, hcu⟩ := hc 0 c rfl
    obtain ⟨u', hu', hcu'⟩ := hc 1 d rfl
    exact ⟨g, cap, u, u', hv, hu, hu', hcu, hcu'⟩

end Go.Proofs.Qxb6632655aDoor
