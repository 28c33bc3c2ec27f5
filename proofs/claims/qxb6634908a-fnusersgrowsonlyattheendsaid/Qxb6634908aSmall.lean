/-
  THE WALKS over zzFirstIndex, zzContains, zzSameStrings.
-/
import Derived.Test.Qxb6634908aBase
namespace Go.Proofs.Qxb6634908a
open Go.RowKit

theorem str_eq {y x : ByteArray} (h : (y.toList == x.toList) = true) : y = x := by
  rw [beq_iff_eq, ByteArray.toList_eq, ByteArray.toList_eq] at h
  exact ByteArray.ext (Array.toList_inj.mp h)
theorem str_ne {y x : ByteArray} (h : (y.toList == x.toList) = false) : ¬ y = x := by
  rintro rfl; simp at h

/-- What zzFirstIndex answers. -/
def IsIx (l : List ByteArray) (x : ByteArray) (r : Int) : Prop := (r = -1 ∧ ¬ x ∈ l) ∨ ∃ i : Nat, r = (i : Int) ∧ First l x i

theorem ix_found {l : List ByteArray} {x y : ByteArray} {k : Nat} (hk : k < l.length) (hf : ∀ j, j < k → l[j]? ≠ some x) (hy : l.getD k ByteArray.empty = y) (e : y = x) : IsIx l x (k : Int) := by
  refine .inr ⟨k, rfl, ?_, hf⟩
  rw [← e, ← hy]; simp [List.getD, List.getElem?_eq_getElem hk]
theorem ix_none {l : List ByteArray} {x : ByteArray} {k : Nat} (hk : k = l.length) (hf : ∀ j, j < k → l[j]? ≠ some x) : IsIx l x (-1) := by
  refine .inl ⟨rfl, fun hx => ?_⟩
  obtain ⟨j, hj, e⟩ := List.mem_iff_getElem.1 hx
  exact hf j (by omega) (by rw [List.getElem?_eq_getElem hj, e])
theorem ix_next {l : List ByteArray} {x y : ByteArray} {k : Nat} (hk : k < l.length) (hf : ∀ j, j < k → l[j]? ≠ some x) (hy : l.getD k ByteArray.empty = y) (e : ¬ y = x) : ∀ j, j < k + 1 → l[j]? ≠ some x := by
  intro j hj
  by_cases h : j < k
  · exact hf j h
  · have : j = k := by omega
    subst this
    intro h2
    apply e
    rw [← hy]; simp [List.getD, h2]

set_option maxHeartbeats 400000 in
theorem firstIndex_any (l : List ByteArray) (x : ByteArray) (a : Option Addr) (cap n : Nat) (w : World) (HN : Hid (n = l.length)) (hlen : (n : Int) ≤ 4000000) (HA : Hid (StrAt w a l)) :
    Calls Try.prog 9 #[.slice a n cap, .string x] w fun e w' => ∃ r : Int, e = .returned (.int .i64 r) ∧ IsIx l x r ∧ w' = w := by
  go_enter Try.func9, Try.ntmps9
  go_wp2
  go_loopw [5] (fun i wr => ∃ k : Nat, k ≤ n ∧ i = .int .i64 (k : Int) ∧ Hid (∀ j, j < k → l[j]? ≠ some x) ∧ wr = w) (fun i _ => n - (intOf i).toNat)
  case atStart => exact ⟨0, Nat.zero_le _, rfl, hide (fun j hj => absurd hj (by omega)), rfl⟩
  case round =>
    obtain ⟨k, hk, rfl, HF, hw⟩ := hrel
    obtain rfl := hw.symm
    by_cases hkn : k < n
    · obtain ⟨b, off, rfl, hc⟩ := (unhide HA).at k (by have := unhide HN; omega)
      obtain ⟨y, hy⟩ : ∃ y, l.getD k ByteArray.empty = y := ⟨_, rfl⟩
      rw [hy] at hc
      have Hy := hide hy
      clear hy
      go_wp2
      · go_ret
        exact ⟨_, rfl, ix_found (by have := unhide HN; omega) (unhide HF) (unhide Hy) (str_eq (by assumption)), rfl⟩
      · have hne : ¬ y = x := str_ne (by assumption)
        have HF' := hide (ix_next (by have := unhide HN; omega) (unhide HF) (unhide Hy) hne)
        go_roundw
        case rel => exact ⟨k + 1, by omega, by go_num, HF', trivial⟩
        case measure => simp [intOf]; omega
    · go_wp2
      go_ret
      exact ⟨_, rfl, ix_none (by have := unhide HN; omega) (unhide HF), rfl⟩

theorem IsIx.range {l : List ByteArray} {x : ByteArray} {r : Int} (h : IsIx l x r) : -1 ≤ r ∧ r ≤ l.length := by
  rcases h with ⟨rfl, _⟩ | ⟨i, rfl, hf, _⟩
  · omega
  · have := (List.getElem?_eq_some_iff.1 hf).1
    omega
theorem IsIx.mem {l : List ByteArray} {x : ByteArray} {r : Int} (h : IsIx l x r) : decide (0 ≤ r) = inB x l := by
  rcases h with ⟨rfl, h⟩ | ⟨i, rfl, hf, _⟩
  · rw [inB_false h]; rfl
  · rw [inB_true (List.mem_of_getElem? hf)]; simp

set_option maxHeartbeats 400000 in
theorem contains_any (l : List ByteArray) (x : ByteArray) (a : Option Addr) (cap n : Nat) (w : World) (HN : Hid (n = l.length)) (hlen : (n : Int) ≤ 4000000) (HA : Hid (StrAt w a l)) :
    Calls Try.prog 10 #[.slice a n cap, .string x] w fun e w' => e = .returned (.bool (inB x l)) ∧ w' = w := by
  go_enter Try.func10, Try.ntmps10
  go_wp2_with fail
  refine (firstIndex_any l x a cap n w HN hlen HA).mono ?_
  rintro e w0 ⟨r, rfl, hr, hw0⟩
  obtain rfl := hw0.symm
  have hm := hr.mem
  have HR := hide hr
  clear hr
  have HM := hide hm
  clear hm
  go_wp2
  go_ret
  exact ⟨congrArg (fun b => Ending.returned (Value.bool b)) (unhide HM), rfl⟩

set_option maxHeartbeats 400000 in
theorem same_any (l : List ByteArray) (a a' : Option Addr) (cap cap' n : Nat) (w : World) (HN : Hid (n = l.length)) (hlen : (n : Int) ≤ 4000000) (HA : Hid (StrAt w a l)) (HB : Hid (StrAt w a' l)) :
    Calls Try.prog 12 #[.slice a n cap, .slice a' n cap'] w fun e w' => e = .returned (.bool true) ∧ ∃ m, w' = w.drewN m := by
  have hne : ((n : Int) != (n : Int)) = false := by simp
  go_enter Try.func12, Try.ntmps12
  go_wp2
  go_loopw [5] (fun i wr => ∃ k m : Nat, k ≤ n ∧ i = .int .i64 (k : Int) ∧ wr = w.drewN m) (fun i _ => n - (intOf i).toNat)
  case atStart => exact ⟨0, 0, Nat.zero_le _, rfl, rfl⟩
  case round =>
    obtain ⟨k, m, hk, rfl, rfl⟩ := hrel
    by_cases hkn : k < n
    · obtain ⟨b, off, rfl, hc⟩ := (unhide HA).at k (by have := unhide HN; omega)
      obtain ⟨b', off', rfl, hc'⟩ := (unhide HB).at k (by have := unhide HN; omega)
      obtain ⟨y, hy⟩ : ∃ y, l.getD k ByteArray.empty = y := ⟨_, rfl⟩
      rw [hy] at hc hc'
      have hyy : (y.toList != y.toList) = false := by simp
      have hki : (k : Int) < (n : Int) := by omega
      clear hy HA HB HN
      go_wp2
      go_quiet (fail)
      go_wp2
      go_roundw
      case rel => exact ⟨k + 1, m + nq, by omega, by go_num, rfl⟩
      case measure => simp [intOf]; omega
    · go_wp2
      go_ret
      exact ⟨rfl, m, rfl⟩

end Go.Proofs.Qxb6634908a
