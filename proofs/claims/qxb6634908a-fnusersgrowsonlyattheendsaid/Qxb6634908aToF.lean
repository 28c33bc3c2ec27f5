/-
  THE WALK over zzToFollows: the same pairs in a row of the call's own.
-/
import Derived.Test.Qxb6634908aBase
import Derived.Deep.OwnRows
import Derived.Lib.LazyBuf
namespace Go.Proofs.Qxb6634908a
open Go.RowKit Go.Deep

theorem make36 (n : Nat) (hn : (n : Int) ≤ 4096) (wx : World) : (Instr.makeSlice 29 (.int .i64 (n : Int)) (.int .i64 (n : Int))).run Try.prog wx = .ok (.slice (some ⟨wx.heap.size, 0, none⟩) n n) (wx.alloc (.cells (madeCells #[.string ByteArray.empty, .string ByteArray.empty] (n * 2)) 36)) := by
  obtain ⟨i0, hi, hz0, hz1, hz2⟩ := info_parts info36
  have h := run_make (P := Try.prog) wx 29 36 i0 _ Try.underlying29 hi hz0 .i64 .i64 (n : Int) (n : Int) (by omega) (Int.le_refl _) (by rw [hz2]; omega) (by omega)
  have hcl : (Value.agg #[Value.string ByteArray.empty, Value.string ByteArray.empty]).cells = #[.string ByteArray.empty, .string ByteArray.empty] := by simp [Value.cells]
  rw [hz1, hcl] at h
  simpa using h

def fillF (ns : List ByteArray) (K : Nat) : Nat → Value := fun j => if j < K then .string (ns.getD j ByteArray.empty) else .string ByteArray.empty

theorem made_at (n j : Nat) (hj : j < n * 2) : (madeCells #[Value.string ByteArray.empty, Value.string ByteArray.empty] (n * 2))[j]? = some (.string ByteArray.empty) := by
  have h2 : j % 2 = 0 ∨ j % 2 = 1 := by omega
  rcases h2 with h | h <;> simp [madeCells, hj, h]

theorem fill_start (w : World) (ns : List ByteArray) (n : Nat) : (w.alloc (.cells (madeCells #[.string ByteArray.empty, .string ByteArray.empty] (n * 2)) 36)).rowIs w.heap.size 36 (n * 2) (fillF ns 0) := by
  refine ⟨_, blk_alloc_new _ _, size_madeCells _ _, fun i hi => ?_⟩
  rw [made_at n i hi]; simp [fillF]

theorem fill_step {w : World} {g n k : Nat} {ns : List ByteArray} {x y : ByteArray} (h : w.rowIs g 36 (n * 2) (fillF ns (k * 2))) (hx : ns[2 * k]? = some x) (hy : ns[2 * k + 1]? = some y) :
    ((w.setCell ⟨g, k * 2, none⟩ (.string x)).setCell ⟨g, k * 2 + 1, none⟩ (.string y)).rowIs g 36 (n * 2) (fillF ns ((k + 1) * 2)) := by
  refine ((h.set (k * 2) (.string x)).set (k * 2 + 1) (.string y)).congr (fun i hi => ?_)
  unfold fillF
  have hx' : ns.getD (k * 2) ByteArray.empty = x := by rw [Nat.mul_comm]; simp [List.getD, hx]
  have hy' : ns.getD (k * 2 + 1) ByteArray.empty = y := by rw [Nat.mul_comm]; simp [List.getD, hy]
  by_cases e1 : i = k * 2 + 1
  · rw [if_pos e1, if_pos (by omega), e1, hy']
  · rw [if_neg e1]
    by_cases e2 : i = k * 2
    · rw [if_pos e2, if_pos (by omega), e2, hx']
    · rw [if_neg e2]
      by_cases e3 : i < k * 2
      · rw [if_pos e3, if_pos (by omega)]
      · rw [if_neg e3, if_neg (by omega)]

theorem fill_done {w : World} {g n : Nat} {ns : List ByteArray} (h : w.rowIs g 36 (n * 2) (fillF ns (n * 2))) (hn : 2 * n = ns.length) : StrAt w (some ⟨g, 0, none⟩) ns := by
  intro j x hj
  have hjl := (List.getElem?_eq_some_iff.1 hj).1
  refine ⟨g, 0, rfl, ?_⟩
  rw [Nat.zero_add, h.cell (i := j) (by omega)]
  unfold fillF
  rw [if_pos (by omega)]
  simp [List.getD, hj]

theorem below_two {w wr : World} (h : Below w.heap.size w wr) (i j : Nat) (u v : Value) : Below w.heap.size w (((wr.setCell ⟨w.heap.size, i, none⟩ u).setCell ⟨w.heap.size, j, none⟩ v).drew) := by
  refine ⟨h.os, h.tape, h.output, ?_, fun k hk => ?_⟩
  · show w.heap.size ≤ ((wr.setCell ⟨w.heap.size, i, none⟩ u).setCell ⟨w.heap.size, j, none⟩ v).heap.size
    rw [nblk_setCell, nblk_setCell]; exact h.size
  · show ((wr.setCell ⟨w.heap.size, i, none⟩ u).setCell ⟨w.heap.size, j, none⟩ v).heap[k]? = _
    rw [blk_setCell_other _ _ _ _ (by show k ≠ w.heap.size; omega), blk_setCell_other _ _ _ _ (by show k ≠ w.heap.size; omega)]
    exact h.block k hk

set_option maxRecDepth 100000 in
set_option maxHeartbeats 1000000 in
theorem toF_some (ns : List ByteArray) (ad : Addr) (n cap : Nat) (w : World) (HN : Hid (2 * n = ns.length)) (hn : (n : Int) ≤ 4096) (HA : Hid (StrAt w (some ad) ns)) :
    Calls Try.prog 8 #[.slice (some ad) n cap] w fun e w' => ∃ g cap', e = .returned (.slice (some ⟨g, 0, none⟩) n cap') ∧ n ≤ cap' ∧ StrAt w' (some ⟨g, 0, none⟩) ns ∧ Below w.heap.size w w' := by
  have hmk := make36 n hn
  have hnil := fun (wx : World) => run_eql_slice_nil (P := Try.prog) wx
  go_enter Try.func8, Try.ntmps8
  go_wp2
  have HF0 := hide (fill_start w ns n)
  have HB0 := hide ((Below.refl w.heap.size w).alloc (Nat.le_refl _) (.cells (madeCells #[.string ByteArray.empty, .string ByteArray.empty] (n * 2)) 36))
  go_loopw [4] (fun i wr => ∃ k : Nat, k ≤ n ∧ i = .int .i64 (k : Int) ∧ Hid (wr.rowIs w.heap.size 36 (n * 2) (fillF ns (k * 2))) ∧ Hid (Below w.heap.size w wr)) (fun i _ => n - (intOf i).toNat)
  case atStart => exact ⟨0, Nat.zero_le _, rfl, HF0, HB0⟩
  case round =>
    obtain ⟨k, hk, rfl, HF, HB⟩ := hrel
    by_cases hkn : k < n
    · obtain ⟨b, off, x, y, he, hc0, hc0', hx, hy⟩ := (unhide HA).pair k (by have := unhide HN; omega)
      cases he
      have hc := cell_stays (unhide HB) hc0
      have hc' := cell_stays (unhide HB) hc0'
      have HX := hide hx
      have HY := hide hy
      obtain ⟨o1, ho1⟩ : ∃ o, fillF ns (k * 2) (k * 2) = o := ⟨_, rfl⟩
      obtain ⟨o2, ho2⟩ : ∃ o, fillF ns (k * 2) (k * 2 + 1) = o := ⟨_, rfl⟩
      have hg := (unhide HF).cell (i := k * 2) (by omega)
      have hg' := (unhide HF).cell (i := k * 2 + 1) (by omega)
      have hz := (unhide HF).frozen (k * 2)
      have hz' := (unhide HF).frozen (k * 2 + 1)
      rw [ho1] at hg
      rw [ho2] at hg'
      have hbg : b < w.heap.size := World.block_lt_of_cell? w _ hc0
      have hki : (k : Int) < (n : Int) := by omega
      clear hc0 hc0' hx hy ho1 ho2
      go_wp2
      go_region
      have HF' := hide ((fill_step (unhide HF) (unhide HX) (unhide HY)).drew)
      have HB' := hide (below_two (unhide HB) (k * 2) (k * 2 + 1) (.string x) (.string y))
      go_wp2
      go_roundw
      case rel => exact ⟨k + 1, by omega, by go_num, HF', HB'⟩
      case measure => simp [intOf]; omega
    · go_wp2
      go_ret
      have hkk : k = n := by omega
      subst hkk
      exact ⟨_, _, rfl, Nat.le_refl _, fill_done (unhide HF) (unhide HN), unhide HB⟩

set_option maxRecDepth 100000 in
theorem toF_nil (w : World) : Calls Try.prog 8 #[.slice none 0 0] w fun e w' => e = .returned (.slice none 0 0) ∧ w' = w := by
  have hnil := fun (wx : World) => run_eql_slice_nil (P := Try.prog) wx
  go_enter Try.func8, Try.ntmps8
  go_wp2
  go_ret
  exact ⟨rfl, rfl⟩

end Go.Proofs.Qxb6634908a
