/-
  THE WALKS over zzEq (two rows of the same bytes) and the two zzBytes functions.
-/
import Derived.Test.Qxb6634834aFmtBase
import Derived.Deep.QuietTactic
import Derived.BigQuiet
namespace Go.Proofs.Qxb6634834aFmt
open Go.RowKit

set_option maxHeartbeats 400000 in
theorem eq_any (l : List Int) (b off b' off' cap cap' n : Nat) (w : World) (HN : Hid (n = l.length)) (hlen : (n : Int) ≤ 4000000)
    (HA : Hid (BAt w b off l)) (HB : Hid (BAt w b' off' l)) :
    Calls Tryf.prog 8 #[.slice (some ⟨b, off, none⟩) n cap, .slice (some ⟨b', off', none⟩) n cap'] w fun e w' => e = .returned (.bool true) ∧ ∃ m, w' = w.drewN m := by
  go_enter Tryf.func8, Tryf.ntmps8
  go_wp2
  go_loopw [5] (fun i wr => ∃ k m : Nat, k ≤ n ∧ i = .int .i64 (k : Int) ∧ wr = w.drewN m) (fun i _ => n - (intOf i).toNat)
  case atStart => exact ⟨0, 0, Nat.zero_le _, rfl, rfl⟩
  case round =>
    obtain ⟨k, m, hk, rfl, rfl⟩ := hrel
    by_cases hlt : k < n
    · obtain ⟨x, hx⟩ : ∃ x, l[k]? = some x := ⟨l[k]'(by rw [← unhide HN]; exact hlt), List.getElem?_eq_getElem _⟩
      have ha := unhide HA k x hx
      have hb := unhide HB k x hx
      have hki : (k : Int) < (n : Int) := by omega
      clear hx HA HB HN
      go_wp2
      go_quiet (fail)
      go_wp2
      go_roundw
      case rel => exact ⟨k + 1, m + nq, by omega, by go_num, rfl⟩
      case measure => simp [intOf]; omega
    · go_wp2
      go_ret
      exact ⟨rfl, m, rfl⟩

set_option maxHeartbeats 400000 in
theorem bytes9_small (a : Option Addr) (n cap : Nat) (w : World) (h : (n : Int) ≤ 1048576) :
    Calls Tryf.prog 9 #[.slice a n cap] w fun e w' => e = .returned (.bool true) ∧ w' = w := by
  go_enter Tryf.func9, Tryf.ntmps9
  go_wp2
  go_ret
  exact ⟨rfl, rfl⟩

set_option maxHeartbeats 400000 in
theorem bytes9_big (a : Option Addr) (n cap : Nat) (w : World) (h : 1048576 < (n : Int)) :
    Calls Tryf.prog 9 #[.slice a n cap] w fun e w' => e = .returned (.bool false) ∧ w' = w := by
  go_enter Tryf.func9, Tryf.ntmps9
  go_wp2
  go_ret
  exact ⟨rfl, rfl⟩

set_option maxHeartbeats 400000 in
theorem bytes5_small (a a' : Option Addr) (n cap n' cap' : Nat) (w : World) (h : (n : Int) + (n' : Int) ≤ 1048576) :
    Calls Tryf.prog 5 #[.slice a n cap, .slice a' n' cap'] w fun e w' => e = .returned (.bool true) ∧ w' = w := by
  have h1 : (n : Int) ≤ 1048576 := by omega
  have h2 : (n' : Int) ≤ 1048576 := by omega
  go_enter Tryf.func5, Tryf.ntmps5
  go_wp2
  go_ret
  exact ⟨rfl, rfl⟩

set_option maxHeartbeats 400000 in
theorem bytes5_big (a a' : Option Addr) (n cap n' cap' : Nat) (w : World) (h : 1048576 < (n : Int) + (n' : Int)) :
    Calls Tryf.prog 5 #[.slice a n cap, .slice a' n' cap'] w fun e w' => e = .returned (.bool false) ∧ w' = w := by
  go_enter Tryf.func5, Tryf.ntmps5
  go_wp2
  all_goals first | (exfalso; omega) | (go_ret; exact ⟨rfl, rfl⟩)

end Go.Proofs.Qxb6634834aFmt
