/-
  THE ARGUMENT: a slice of pairs of strings, opened.
-/
import Derived.Test.Qxb6634908aLaw3
import Derived.ProofKit
import Derived.Deep.SlicePairs
namespace Go.Proofs.Qxb6634908a
open Go.ChangeShapes Go.WideShapes Go.ChangeAt Go.RowKit Go.Deep

theorem Try.own : ownKnob Try.prog.godebug = none := by kernel_rfl
theorem Try.laidOut : laidOutB Try.prog = true := by kernel_rfl
theorem Try.cells9 : Try.prog.cellsOf 9 = 1 := by kernel_rfl
theorem Try.cells25 : Try.prog.cellsOf 25 = 2 := by kernel_rfl

theorem open_pairs {H : Type} {enc : TypeId × Value → H} {W : World} {fuel : Nat} {a0 : Option Addr} {len cap : Nat} {d : DataW H} {p : List MemPlace}
    (hf : DataW.trod enc Try.prog W 0 (fun _ => true) true fuel 22 (Value.cells (.slice a0 len cap)).toList = some (d, p)) :
    ∃ ns : List ByteArray, 2 * len = ns.length ∧ StrAt W a0 ns ∧ (∀ s ∈ ns, s.size ≤ maxLen) ∧ (a0 = none → len = 0 ∧ cap = 0) ∧ len ≤ maxLen := by
  rcases open_slice_pairs Try.underlying22 Try.underlying25 Try.cells25 rfl rfl Try.cells9 Try.cells9 hf with ⟨hcs, hx⟩ | ⟨a, len', cap', m, n, V0, V1, D0, D1, P0, P1, hcs, _, hl, hm, hmm, hx, hel⟩
  · simp [Value.cells] at hcs
    obtain ⟨rfl, rfl, rfl⟩ := hcs
    exact ⟨[], rfl, StrAt.nil _ _, fun s hs => by simp at hs, fun _ => ⟨rfl, rfl⟩, Nat.zero_le _⟩
  · simp [Value.cells] at hcs
    obtain ⟨rfl, rfl, rfl⟩ := hcs
    have hlm : len ≤ m := by rw [hmm]; split <;> omega
    have each : ∀ j, j < 2 * len → ∃ s : ByteArray, W.cell? (a.add j) = some (.string s) ∧ s.size ≤ maxLen := by
      intro j hj
      obtain ⟨i, hi⟩ : ∃ i, j = i * 2 ∨ j = i * 2 + 1 := ⟨j / 2, by omega⟩
      obtain ⟨c0, c1, t0, t1⟩ := hel i (by omega)
      obtain ⟨s0, e0, _, z0⟩ := DataW.trod_string Try.underlying9 t0
      obtain ⟨s1, e1, _, z1⟩ := DataW.trod_string Try.underlying9 t1
      simp only [List.cons.injEq, and_true] at e0 e1
      rcases hi with rfl | rfl
      · exact ⟨s0, by rw [c0, e0], z0⟩
      · exact ⟨s1, by rw [c1, e1], z1⟩
    obtain ⟨S, hS⟩ := choose_lt each
    refine ⟨(List.range (2 * len)).map S, by simp, ?_, ?_, (fun h => by cases h), Nat.le_trans hl hm⟩
    · intro j x hj
      have hjl : j < 2 * len := by have := (List.getElem?_eq_some_iff.1 hj).1; simpa using this
      have hxe : S j = x := by simpa [hjl] using hj
      have h0 := (hS 0 (by omega)).1
      rw [Addr.add_zero'] at h0
      have hsp := World.cell?_spot h0
      obtain ⟨b, off, sp⟩ := a
      simp only at hsp
      subst hsp
      refine ⟨b, off, rfl, ?_⟩
      have := (hS j hjl).1
      rw [add_off] at this
      rw [this, hxe]
    · intro s hs
      obtain ⟨j, hj, rfl⟩ := List.mem_map.1 hs
      exact (hS j (by simpa using hj)).2

end Go.Proofs.Qxb6634908a
