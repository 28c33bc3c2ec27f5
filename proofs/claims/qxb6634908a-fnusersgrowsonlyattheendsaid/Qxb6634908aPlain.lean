/-
  THE PLAIN LAW: the order of first occurrence, with no Go in sight.
-/
import Derived.Test.Qxb6634908aRows
namespace Go.Proofs.Qxb6634908a
open Classical

/-- The names in the order of their first occurrence, each once. -/
noncomputable def addNew (acc : List ByteArray) (x : ByteArray) : List ByteArray := if x ∈ acc then acc else acc ++ [x]
noncomputable def ded (l : List ByteArray) : List ByteArray := l.foldl addNew []

theorem ded_nil : ded [] = [] := rfl
theorem ded_snoc (l : List ByteArray) (x : ByteArray) : ded (l ++ [x]) = addNew (ded l) x := by simp [ded, List.foldl_append]

theorem snoc_cases {p : List ByteArray → Prop} (h0 : p []) (h1 : ∀ l x, p l → p (l ++ [x])) : ∀ l, p l := by
  intro l
  have : ∀ r : List ByteArray, p r.reverse := by
    intro r
    induction r with
    | nil => exact h0
    | cons a r ih => rw [List.reverse_cons]; exact h1 _ _ ih
  have h := this l.reverse
  rwa [List.reverse_reverse] at h

theorem mem_addNew {acc : List ByteArray} {x y : ByteArray} : y ∈ addNew acc x ↔ y ∈ acc ∨ y = x := by
  unfold addNew
  split
  · constructor
    · exact .inl
    · rintro (h | rfl) <;> assumption
  · simp

theorem mem_ded (l : List ByteArray) (y : ByteArray) : y ∈ ded l ↔ y ∈ l := by
  refine snoc_cases (p := fun l => y ∈ ded l ↔ y ∈ l) (by simp [ded]) (fun l x ih => ?_) l
  rw [ded_snoc, mem_addNew, ih]; simp

theorem ded_take_succ (l : List ByteArray) (k : Nat) (hk : k < l.length) : ded (l.take (k + 1)) = addNew (ded (l.take k)) (l.getD k ByteArray.empty) := by
  rw [List.take_add_one, List.getElem?_eq_getElem hk, Option.toList_some, ded_snoc]
  simp [List.getD, List.getElem?_eq_getElem hk]

theorem ded_take_le (l : List ByteArray) (k : Nat) : (ded (l.take k)).length ≤ k := by
  have h : ∀ m : List ByteArray, (ded m).length ≤ m.length := by
    intro m
    refine snoc_cases (p := fun m => (ded m).length ≤ m.length) (by simp [ded]) (fun l x ih => ?_) m
    rw [ded_snoc]; unfold addNew; split <;> simp <;> omega
  have := h (l.take k)
  rw [List.length_take] at this; omega

/-- i is the first place of x. -/
def First (l : List ByteArray) (x : ByteArray) (i : Nat) : Prop := l[i]? = some x ∧ ∀ j, j < i → l[j]? ≠ some x

theorem first_old {l : List ByteArray} {x y : ByteArray} {p : Nat} (hy : y ∈ l) (h : First (l ++ [x]) y p) : First l y p ∧ p < l.length := by
  obtain ⟨j, hj, e⟩ := List.mem_iff_getElem.1 hy
  have hj' : (l ++ [x])[j]? = some y := by rw [List.getElem?_append_left hj, List.getElem?_eq_getElem hj, e]
  have hp : p < l.length := by
    by_cases hlt : j < p
    · exact absurd hj' (h.2 j hlt)
    · omega
  refine ⟨⟨?_, fun i hi => ?_⟩, hp⟩
  · have := h.1; rwa [List.getElem?_append_left hp] at this
  · have := h.2 i hi; rwa [List.getElem?_append_left (by omega)] at this

theorem first_new {l : List ByteArray} {x : ByteArray} {p : Nat} (hx : ¬ x ∈ l) (h : First (l ++ [x]) x p) : l.length ≤ p := by
  by_cases hp : p < l.length
  · have := h.1
    rw [List.getElem?_append_left hp] at this
    exact absurd (List.mem_of_getElem? this) hx
  · omega

/-- The first places rise along the list. -/
theorem ded_rises (l : List ByteArray) : (ded l).Pairwise (fun x y => ∀ p q, First l x p → First l y q → p < q) := by
  refine snoc_cases (p := fun l => (ded l).Pairwise (fun x y => ∀ p q, First l x p → First l y q → p < q)) (by simp [ded]) (fun l x ih => ?_) l
  rw [ded_snoc]
  have ih' : (ded l).Pairwise (fun a b => ∀ p q, First (l ++ [x]) a p → First (l ++ [x]) b q → p < q) :=
    List.Pairwise.imp_of_mem (fun ha hb h p q hp hq => h p q (first_old ((mem_ded l _).1 ha) hp).1 (first_old ((mem_ded l _).1 hb) hq).1) ih
  unfold addNew
  split
  · exact ih'
  · rename_i hx
    rw [List.pairwise_append]
    refine ⟨ih', List.pairwise_singleton _ _, fun y hy z hz => ?_⟩
    rw [List.mem_singleton] at hz
    subst hz
    have hz' : ¬ z ∈ l := fun h => hx ((mem_ded l z).2 h)
    intro p q hp hq
    have h1 := (first_old ((mem_ded l y).1 hy) hp).2
    have h2 := first_new hz' hq
    omega

theorem ded_step (l : List ByteArray) (i : Nat) (x y : ByteArray) (hx : (ded l)[i]? = some x) (hy : (ded l)[i + 1]? = some y) {p q : Nat} (hp : First l x p) (hq : First l y q) : p < q := by
  obtain ⟨h1, e1⟩ := List.getElem?_eq_some_iff.1 hx
  obtain ⟨h2, e2⟩ := List.getElem?_eq_some_iff.1 hy
  have := List.pairwise_iff_getElem.1 (ded_rises l) i (i + 1) h1 h2 (by omega)
  rw [e1, e2] at this
  exact this p q hp hq

/-- Those of b that are not in a, in b's order. -/
noncomputable def notIn (a b : List ByteArray) : List ByteArray := b.filter (fun x => !(decide (x ∈ a)))

theorem notIn_succ (a b : List ByteArray) (k : Nat) (hk : k < b.length) : notIn a (b.take (k + 1)) = if b.getD k ByteArray.empty ∈ a then notIn a (b.take k) else notIn a (b.take k) ++ [b.getD k ByteArray.empty] := by
  rw [List.take_add_one, List.getElem?_eq_getElem hk, Option.toList_some]
  unfold notIn
  rw [List.filter_append]
  have e : b.getD k ByteArray.empty = b[k] := by simp [List.getD, List.getElem?_eq_getElem hk]
  rw [e]
  by_cases h : b[k] ∈ a
  · simp [h]
  · simp [h]

theorem ded_append (a b : List ByteArray) : ded (a ++ b) = ded a ++ notIn (ded a) (ded b) := by
  refine snoc_cases (p := fun b => ded (a ++ b) = ded a ++ notIn (ded a) (ded b)) (by simp [ded_nil, notIn]) (fun b x ih => ?_) b
  rw [← List.append_assoc, ded_snoc, ih, ded_snoc]
  by_cases h1 : x ∈ ded a
  · have e1 : addNew (ded a ++ notIn (ded a) (ded b)) x = ded a ++ notIn (ded a) (ded b) := by
      unfold addNew; rw [if_pos (by simp [h1])]
    rw [e1]
    unfold addNew
    split
    · rfl
    · simp [notIn, h1]
  · by_cases h2 : x ∈ ded b
    · have e1 : addNew (ded a ++ notIn (ded a) (ded b)) x = ded a ++ notIn (ded a) (ded b) := by
        unfold addNew; rw [if_pos (by simp [notIn, h1, h2])]
      rw [e1]
      unfold addNew
      rw [if_pos h2]
    · have e1 : addNew (ded a ++ notIn (ded a) (ded b)) x = ded a ++ notIn (ded a) (ded b) ++ [x] := by
        unfold addNew; rw [if_neg (by simp [notIn, h1, h2])]
      rw [e1]
      unfold addNew
      rw [if_neg h2]
      simp [notIn, h1]

end Go.Proofs.Qxb6634908a
