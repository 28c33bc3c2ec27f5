/-
  THE WALK over zzNames: all names, in order.
-/
import Derived.Test.Qxb6634908aBase
namespace Go.Proofs.Qxb6634908a
open Go.RowKit

theorem take_pair {ns : List ByteArray} {k : Nat} {x y : ByteArray} (hx : ns[2 * k]? = some x) (hy : ns[2 * k + 1]? = some y) :
    (ns.take (2 * k)).map Value.string ++ [.string x] ++ [.string y] = (ns.take (2 * (k + 1))).map Value.string := by
  have e : 2 * (k + 1) = 2 * k + 1 + 1 := by omega
  rw [e, List.take_add_one, List.take_add_one, hx, hy]
  simp

theorem row_turn {w : World} {base e k : Nat} {v : Value} {xs ys : List Value} (h : w.ownsRow base e 1 v (2 * k + 1 + 1) xs) (hx : xs = ys) : w.ownsRow base e 1 v (2 * (k + 1)) ys := by
  subst hx; exact h

set_option maxRecDepth 100000 in
set_option maxHeartbeats 1000000 in
theorem names_any (ns : List ByteArray) (a : Option Addr) (n cap : Nat) (w : World) (HN : Hid (2 * n = ns.length)) (hn : (n : Int) ≤ 4096) (HA : Hid (StrAt w a ns)) :
    Calls Try.prog 6 #[.slice a n cap] w fun e w' => ∃ a' cap', e = .returned (.slice a' (2 * n) cap') ∧ StrAt w' a' ns ∧ Below w.heap.size w w' := by
  obtain ⟨i0, hi, hz0, hz1, hz2⟩ := info_parts info9
  go_enter Try.func6, Try.ntmps6
  go_wp2_with (first | (at_make; go_must (refine wpList_make_own _ rfl _ _ 26 rfl w.heap.size 9 i0 (.string ByteArray.empty) 1 Try.underlying26 hi hz0 hz1 .i64 .i64 _ (2 * n) rfl rfl (by omega) (by rw [hz2]; omega) (by unfold maxLen; omega) (Nat.le_refl _) ?_; intro w1 hown1 hgrow1)) | go_in)
  have HO1 := hide hown1
  have HB1 := hide ((Below.refl w.heap.size w).grown hgrow1 (Nat.le_refl _) (fun k hk => by cases hk))
  clear hown1 hgrow1
  go_loopw [3, 4] (fun v i wr => ∃ k : Nat, k ≤ n ∧ i = .int .i64 (k : Int) ∧ Hid (wr.ownsRow w.heap.size 9 1 v (2 * k) ((ns.take (2 * k)).map Value.string)) ∧ Hid (Below w.heap.size w wr)) (fun _ i _ => n - (intOf i).toNat)
  case atStart => exact ⟨0, Nat.zero_le _, rfl, HO1, HB1⟩
  case round =>
    obtain ⟨k, hk, rfl, HO, HB⟩ := hrel
    by_cases hkn : k < n
    · obtain ⟨b, off, x, y, rfl, hc0, hc0', hx, hy⟩ := (unhide HA).pair k (by have := unhide HN; omega)
      have HX := hide (take_pair hx hy)
      clear hx hy
      have hc := cell_stays (unhide HB) hc0
      have hc' := cell_stays (unhide HB) hc0'
      have HC0 := hide hc0'
      clear hc0 hc0'
      go_wp2_with (first
        | (at_builtin; refine wpList_append_own _ rfl (.tmp 15) (.tmp 21) 26 rfl w.heap.size 9 i0 (.string ByteArray.empty) 1 16 Try.underlying26 hi hz0 hz1 hz2 rfl (by decide) _ _ _ rfl ((unhide HO).alloc _) ⟨wr.heap.size, 0, none⟩ 1 1 [.string x] rfl rfl (cell_one_new _ _ _) (strs_oneCell [x]) (by unfold maxLen; omega) (by omega) (by have := (unhide HB).size; simp; omega) ?_; intro v1 w2 hown2 hgrow2 hnil2; have hb2 := (((unhide HB).alloc (unhide HB).size _).grown hgrow2 (by have := (unhide HB).size; simp; omega) (fun j hj => ((unhide HO).lt j hj).1)); have hc2 := cell_stays hb2 (unhide HC0))
        | (at_builtin; refine wpList_append_own _ rfl (.tmp 23) (.tmp 29) 26 rfl w.heap.size 9 i0 (.string ByteArray.empty) 1 16 Try.underlying26 hi hz0 hz1 hz2 rfl (by decide) _ _ _ rfl (hown2.alloc _) ⟨w2.heap.size, 0, none⟩ 1 1 [.string y] rfl rfl (cell_one_new _ _ _) (strs_oneCell [y]) (by unfold maxLen; omega) (by omega) (by have := hb2.size; simp; omega) ?_; intro v3 w3 hown3 hgrow3 hnil3)
        | go_in)
      have HO3 := hide (row_turn hown3 (unhide HX))
      have HB3 := hide ((hb2.alloc hb2.size _).grown hgrow3 (by have := hb2.size; simp; omega) (fun j hj => (hown2.lt j hj).1))
      go_roundw
      case rel => exact ⟨k + 1, by omega, by go_num, HO3, HB3⟩
      case measure => simp [intOf]; omega
    · go_wp2
      go_ret
      have hkk : k = n := by omega
      subst hkk
      have hf := unhide HO
      rw [unhide HN, List.take_length] at hf
      obtain ⟨a', cap', rfl⟩ := own_slice hf
      exact ⟨a', cap', by rw [← unhide HN]; rfl, StrAt.of_own hf, unhide HB⟩

end Go.Proofs.Qxb6634908a
