/-
  THE WALKS over the two zzBytes functions: some bool; nothing turns.
-/
import Derived.Test.Qxb6634908aBase
namespace Go.Proofs.Qxb6634908a
open Go.RowKit

def SomeBool (e : Ending) : Prop := ∃ q, e = .returned (.bool q)

set_option maxRecDepth 100000 in
set_option maxHeartbeats 1000000 in
theorem bytes5_any (l : List ByteArray) (a : Option Addr) (cap n : Nat) (w : World) (HN : Hid (2 * n = l.length)) (hlen : (n : Int) ≤ 9223372036854775807) (HA : Hid (StrAt w a l)) :
    Calls Try.prog 5 #[.slice a n cap] w fun e w' => SomeBool e ∧ w' = w := by
  go_enter Try.func5, Try.ntmps5
  go_wp2
  all_goals first | (go_ret; exact ⟨⟨_, rfl⟩, rfl⟩) | skip
  go_loopw [3, 4] (fun t i wr => ∃ (T : Int) (k : Nat), 0 ≤ T ∧ T ≤ 1048576 ∧ k ≤ n ∧ t = .int .i64 T ∧ i = .int .i64 (k : Int) ∧ wr = w) (fun _ i _ => n - (intOf i).toNat)
  case atStart => exact ⟨_, 0, by omega, by omega, Nat.zero_le _, rfl, rfl, rfl⟩
  case round =>
    obtain ⟨T, k, hT0, hT1, hk, rfl, rfl, hw⟩ := hrel
    obtain rfl := hw.symm
    by_cases hkn : k < n
    · obtain ⟨b, off, x, y, rfl, hc, hc', hx, hy⟩ := (unhide HA).pair k (by have := unhide HN; omega)
      clear hx hy HA HN
      go_wp2
      all_goals first | (go_ret; exact ⟨⟨_, rfl⟩, rfl⟩) | skip
      go_roundw
      case rel => exact ⟨_, k + 1, by omega, by omega, by omega, rfl, by go_num, trivial⟩
      case measure => simp [intOf]; omega
    · go_wp2
      go_ret
      exact ⟨⟨_, rfl⟩, rfl⟩
set_option maxRecDepth 100000 in
set_option maxHeartbeats 1000000 in
theorem bytes11_any (l : List ByteArray) (a : Option Addr) (cap n : Nat) (kk : Int) (w : World) (HN : Hid (2 * n = l.length)) (hlen : (n : Int) ≤ 9223372036854775807) (HA : Hid (StrAt w a l)) :
    Calls Try.prog 11 #[.slice a n cap, .int .i64 kk] w fun e w' => SomeBool e ∧ w' = w := by
  go_enter Try.func11, Try.ntmps11
  go_wp2
  all_goals first | (go_ret; exact ⟨⟨_, rfl⟩, rfl⟩) | skip
  go_loopw [5, 6] (fun t i wr => ∃ (T : Int) (k : Nat), 0 ≤ T ∧ T ≤ 1048576 ∧ k ≤ n ∧ t = .int .i64 T ∧ i = .int .i64 (k : Int) ∧ wr = w) (fun _ i _ => n - (intOf i).toNat)
  case atStart => exact ⟨_, 0, by omega, by omega, Nat.zero_le _, rfl, rfl, rfl⟩
  case round =>
    obtain ⟨T, k, hT0, hT1, hk, rfl, rfl, hw⟩ := hrel
    obtain rfl := hw.symm
    by_cases hkn : k < n
    · obtain ⟨b, off, x, y, rfl, hc, hc', hx, hy⟩ := (unhide HA).pair k (by have := unhide HN; omega)
      clear hx hy HA HN
      go_wp2
      all_goals first | (go_ret; exact ⟨⟨_, rfl⟩, rfl⟩) | skip
      go_roundw
      case rel => exact ⟨_, k + 1, by omega, by omega, by omega, rfl, by go_num, trivial⟩
      case measure => simp [intOf]; omega
    · go_wp2
      go_ret
      exact ⟨⟨_, rfl⟩, rfl⟩
end Go.Proofs.Qxb6634908a
