/-
  THE WALKS over the two zzBytes functions: are the strings together within 1<<20 bytes?
-/
import Derived.Test.Qxb6632655aDoorCmds
namespace Go.Proofs.Qxb6632655aDoor
open Go.RowKit

set_option maxHeartbeats 400000 in
theorem bytes5_small (hp user pw : ByteArray) (tls : Bool) (db : Int) (w : World) (h : (hp.size : Int) + (user.size : Int) + (pw.size : Int) ≤ 1048576) :
    Calls Tryd.prog 5 #[.string hp, .bool tls, .string user, .string pw, .int .i64 db] w fun e w' => e = .returned (.bool true) ∧ w' = w := by
  have h1 : (hp.size : Int) ≤ 1048576 := by omega
  have h2 : (user.size : Int) ≤ 1048576 := by omega
  have h3 : (pw.size : Int) ≤ 1048576 := by omega
  have h4 : (hp.size : Int) + (user.size : Int) ≤ 1048576 := by omega
  go_enter Tryd.func5, Tryd.ntmps5
  go_wp2
  go_ret
  exact ⟨rfl, rfl⟩

set_option maxHeartbeats 400000 in
theorem bytes5_big (hp user pw : ByteArray) (tls : Bool) (db : Int) (w : World) (h : 1048576 < (hp.size : Int) + (user.size : Int) + (pw.size : Int)) :
    Calls Tryd.prog 5 #[.string hp, .bool tls, .string user, .string pw, .int .i64 db] w fun e w' => e = .returned (.bool false) ∧ w' = w := by
  go_enter Tryd.func5, Tryd.ntmps5
  go_wp2
  all_goals first | (exfalso; omega) | (go_ret; exact ⟨rfl, rfl⟩)

set_option maxHeartbeats 400000 in
theorem bytes10_small (hp user pw : ByteArray) (tls : Bool) (db : Int) (w : World) (h : (hp.size : Int) + (user.size : Int) + (pw.size : Int) ≤ 1048576) :
    Calls Tryd.prog 10 #[.string hp, .bool tls, .string user, .string pw, .int .i64 db] w fun e w' => e = .returned (.bool true) ∧ w' = w := by
  have h1 : (hp.size : Int) ≤ 1048576 := by omega
  have h2 : (user.size : Int) ≤ 1048576 := by omega
  have h3 : (pw.size : Int) ≤ 1048576 := by omega
  have h4 : (hp.size : Int) + (user.size : Int) ≤ 1048576 := by omega
  go_enter Tryd.func10, Tryd.ntmps10
  go_wp2
  go_ret
  exact ⟨rfl, rfl⟩

set_option maxHeartbeats 400000 in
theorem bytes10_big (hp user pw : ByteArray) (tls : Bool) (db : Int) (w : World) (h : 1048576 < (hp.size : Int) + (user.size : Int) + (pw.size : Int)) :
    Calls Tryd.prog 10 #[.string hp, .bool tls, .string user, .string pw, .int .i64 db] w fun e w' => e = .returned (.bool false) ∧ w' = w := by
  go_enter Tryd.func10, Tryd.ntmps10
  go_wp2
  all_goals first | (exfalso; omega) | (go_ret; exact ⟨rfl, rfl⟩)

end Go.Proofs.Qxb6632655aDoor
