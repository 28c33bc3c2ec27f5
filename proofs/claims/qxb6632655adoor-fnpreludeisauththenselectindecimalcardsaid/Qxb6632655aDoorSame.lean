/-
  THE WALK over rnSameCmd: two slices of the same strings.
-/
import Derived.Test.Qxb6632655aDoorCmds
import Derived.Deep.QuietTactic
import Derived.BigQuiet
namespace Go.Proofs.Qxb6632655aDoor
open Go.RowKit

set_option maxHeartbeats 400000 in
theorem same_any (c : List ByteArray) (b b' cap cap' : Nat) (w : World) (hlen : (c.length : Int) ≤ 9223372036854775807)
    (HA : Hid (∀ (j : Nat) s, c[j]? = some s → w.cell? ⟨b, j, none⟩ = some (.string s))) (HB : Hid (∀ (j : Nat) s, c[j]? = some s → w.cell? ⟨b', j, none⟩ = some (.string s))) :
    Calls Tryd.prog 9 #[.slice (some ⟨b, 0, none⟩) c.length cap, .slice (some ⟨b', 0, none⟩) c.length cap'] w fun e w' => e = .returned (.bool true) ∧ ∃ n, w' = w.drewN n := by
  go_enter Tryd.func9, Tryd.ntmps9
  go_wp2
  go_loopw [5] (fun i wr => ∃ k n : Nat, k ≤ c.length ∧ i = .int .i64 (k : Int) ∧ wr = w.drewN n) (fun i _ => c.length - (intOf i).toNat)
  case atStart => exact ⟨0, 0, Nat.zero_le _, rfl, rfl⟩
  case round =>
    obtain ⟨k, n, hk, rfl, rfl⟩ := hrel
    by_cases hlt : k < c.length
    · obtain ⟨s, hs⟩ : ∃ s, c[k]? = some s := ⟨c[k], List.getElem?_eq_getElem hlt⟩
      have ha := unhide HA k s hs
      have hb := unhide HB k s hs
      have hki : (k : Int) < (c.length : Int) := by omega
      clear hs HA HB
      go_wp2
      go_quiet (fail)
      go_wp2
      go_roundw
      case rel => exact ⟨k + 1, n + nq, by omega, by go_num, rfl⟩
      case measure => simp [intOf]; omega
    · go_wp2
      go_ret
      exact ⟨rfl, n, rfl⟩

end Go.Proofs.Qxb6632655aDoor
