/-
  A ROW OF DECIMAL DIGITS LAID FROM ITS END: plain facts on an array of cells, and what 'string(buf[i:])' makes of it.
-/
import Derived.Test.Qxb6632655aDoorRows
import Derived.Lib.ItoaNum
import Derived.Laws.BytesArg
import Derived.Laws.NewBlocks
namespace Go.Proofs.Qxb6632655aDoor
open Go.Lib

/-- The last j cells of a row of sz cells hold the last j digits of N. -/
def DecRow (sz N j : Nat) (cs : Array Value) : Prop :=
  cs.size = sz ∧ ∀ t, t < j → cs[sz - 1 - t]? = some (.int .u8 ((48 + N / 10 ^ t % 10 : Nat) : Int))

theorem DecRow.start {sz N : Nat} {cs : Array Value} (h : cs.size = sz) : DecRow sz N 0 cs :=
  ⟨h, fun _ ht => absurd ht (Nat.not_lt_zero _)⟩

theorem DecRow.step {sz N j : Nat} {cs : Array Value} (h : DecRow sz N j cs) (hj : j < sz) :
    DecRow sz N (j + 1) (cs.setIfInBounds (sz - 1 - j) (.int .u8 ((48 + N / 10 ^ j % 10 : Nat) : Int))) := by
  obtain ⟨hs, hc⟩ := h
  refine ⟨by simp [hs], fun t ht => ?_⟩
  rw [Array.getElem?_setIfInBounds]
  by_cases e : t = j
  · subst e
    rw [if_pos rfl, if_pos (by omega)]
  · rw [if_neg (by omega)]
    exact hc t (by omega)

/-- 'string(buf[sz-j:])'. -/
theorem DecRow.text {P : Program} {sz N j : Nat} {cs : Array Value} (h : DecRow sz N j cs) (hj : j ≤ sz) (hn : nDigits N = j) (w : World) (T src e dst cap : Nat)
    (hs : P.underlying src = some (.slice e)) (he : P.underlying e = some (.int .u8)) (hd : P.underlying dst = some .string) :
    (convert src dst (.slice (some ⟨w.heap.size, sz - j, none⟩) j cap)).run P (w.alloc (.cells cs T)) = .ok (.string ⟨(decDigits N).toArray⟩) (w.alloc (.cells cs T)) := by
  obtain ⟨hsz, hc⟩ := h
  have key := run_convert_bytes_arg (P := P) (w.alloc (.cells cs T)) src e hs he w.heap.size (sz - j) j cap ((List.range j).map fun t => ((48 + N / 10 ^ (j - 1 - t) % 10 : Nat) : Int)) (by simp)
    (by
      intro i hi
      rw [World.cell?_alloc_at _ _ _ _ rfl]
      have h1 := hc (j - 1 - i) (by omega)
      rw [show sz - 1 - (j - 1 - i) = sz - j + i by omega] at h1
      rw [h1]
      simp [hi]) dst hd
  rw [key]
  have e : strOfNums ((List.range j).map fun t => ((48 + N / 10 ^ (j - 1 - t) % 10 : Nat) : Int)) = ⟨(decDigits N).toArray⟩ := by
    unfold strOfNums
    rw [decDigits_eq, hn, List.map_map]
    rfl
  rw [e]

/-- How many digits, from the loop's own end. -/
theorem digits_end {N j : Nat} (h1 : N / 10 ^ j = 0) (h2 : 10 ^ (j - 1) ≤ N) (h3 : 1 ≤ j) : nDigits N = j := by
  obtain ⟨k, rfl⟩ : ∃ k, j = k + 1 := ⟨j - 1, by omega⟩
  refine nDigits_unique k N (by simpa using h2) ?_
  have hp : 0 < 10 ^ (k + 1) := Nat.pow_pos (by decide)
  exact (Nat.div_eq_zero_iff_lt hp).1 h1

theorem div_pow_succ (N j : Nat) : N / 10 ^ j / 10 = N / 10 ^ (j + 1) := by
  rw [Nat.div_div_eq_div_mul, Nat.pow_succ]

theorem pow_le_of_div_pos {N j : Nat} (h : 1 ≤ N / 10 ^ j) : 10 ^ j ≤ N := by
  have hp : 0 < 10 ^ j := Nat.pow_pos (by decide)
  exact (Nat.one_le_div_iff hp).1 h

end Go.Proofs.Qxb6632655aDoor
