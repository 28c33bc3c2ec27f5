/-
  THE PLAIN LAW: the order of first occurrence, with no Go in sight.
-/
import Derived.Test.Qxb6634908aRows
namespace Go.Proofs.Qxb6634908a

/-- Is the name on the list? -/
def inB (x : ByteArray) (l : List ByteArray) : Bool := l.any (fun y => y.data.toList == x.data.toList)
theorem bytes_ext {x y : ByteArray} (h : x.data.toList = y.data.toList) : x = y := by
  cases x; cases y
  simp only at h
  rw [Array.toList_inj.1 h]
theorem inB_iff {x : ByteArray} {l : List ByteArray} : inB x l = true ↔ x ∈ l := by
  unfold inB
  rw [List.any_eq_true]
  constructor
  · rintro ⟨y, hy, e⟩
    rw [← bytes_ext (beq_iff_eq.1 e)]; exact hy
  · intro h
    exact ⟨x, h, beq_self_eq_true _⟩
theorem inB_true {x : ByteArray} {l : List ByteArray} (h : x ∈ l) : inB x l = true := inB_iff.2 h
theorem inB_false {x : ByteArray} {l : List ByteArray} (h : ¬ x ∈ l) : inB x l = false := by
  rw [← Bool.not_eq_true]; exact fun e => h (inB_iff.1 e)

/-- The names in the order of their first occurrence, each once. -/
def addNew (acc : List ByteArray) (x : ByteArray) : List ByteArray := if inB x acc then acc else acc ++ [x]
theorem addNew_old {acc : List ByteArray} {x : ByteArray} (h : x ∈ acc) : addNew acc x = acc := by
  unfold addNew; rw [if_pos (inB_true h)]
theorem addNew_new {acc : List ByteArray} {x : ByteArray} (h : ¬ x ∈ acc) : addNew acc x = acc ++ [x] := by
  unfold addNew; rw [inB_false h]; rfl
def ded (l : List ByteArray) : List ByteArray := l.foldl addNew []

theorem ded_nil : ded [] = [] := rfl
theorem ded_snoc (l : List ByteArray) (x : ByteArray) : ded (l ++ [x]) = addNew (ded l) x := by simp [ded, List.foldl_append]

theorem snoc_cases {p : List ByteArray → Prop} (h0 : p []) (h1 : ∀ l x, p l → p (l ++ [x])) : ∀ l, p l := by
  intro l
  have : ∀ r : List ByteArray, p r.reverse := by
    intro r
    induction r with
    | nil => exact h0
    | cons a r ih => rw [List.reverse_cons]; exact h1 _ _ ih
  have h := this l.reverse
  rwa [List.reverse_reverse] at h

theorem mem_addNew {acc : List ByteArray} {x y : ByteArray} : y ∈ addNew acc x ↔ y ∈ acc ∨ y = x := by
  by_cases hx : x ∈ acc
  · rw [addNew_old hx]
    constructor
    · exact .inl
    · rintro (h | rfl) <;> assumption
  · rw [addNew_new hx]; simp

theorem mem_ded (l : List ByteArray) (y : ByteArray) : y ∈ ded l ↔ y ∈ l := by
  refine snoc_cases (p := fun l => y ∈ ded l ↔ y ∈ l) (by simp [ded]) (fun l x ih => ?_) l
  rw [ded_snoc, mem_addNew, ih]; simp

theorem ded_take_succ (l : List ByteArray) (k : Nat) (hk : k < l.length) : ded (l.take (k + 1)) = addNew (ded (l.take k)) (l.getD k ByteArray.empty) := by
  rw [List.take_add_one, List.getElem?_eq_getElem hk, Option.toList_some, ded_snoc]
  simp [List.getD, List.getElem?_eq_getElem hk]

theorem ded_take_le (l : List ByteArray) (k : Nat) : (ded (l.take k)).length ≤ k := by
  have h : ∀ m : List ByteArray, (ded m).length ≤ m.length := by
    intro m
    refine snoc_cases (p := fun m => (ded m).length ≤ m.length) (by simp [ded]) (fun l x ih => ?_) m
    rw [ded_snoc]
    by_cases hx : x ∈ ded l
    · rw [addNew_old hx]; simp; omega
    · rw [addNew_new hx]; simp; omega
  have := h (l.take k)
  rw [List.length_take] at this; omega

/-- i is the first place of x. -/
def First (l : List ByteArray) (x : ByteArray) (i : Nat) : Prop := l[i]? = some x ∧ ∀ j, j < i → l[j]? ≠ some x

theorem first_old {l : List ByteArray} {x y : ByteArray} {p : Nat} (hy : y ∈ l) (h : First (l ++ [x]) y p) : First l y p ∧ p < l.length := by
  obtain ⟨j, hj, e⟩ := List.mem_iff_getElem.1 hy
  have hj' : (l ++ [x])[j]? = some y := by rw [List.getElem?_append_left hj, List.getElem?_eq_getElem hj, e]
  have hp : p < l.length := by
    by_cases hlt : j < p
    · exact absurd hj' (h.2 j hlt)
    · omega
  refine ⟨⟨?_, fun i hi => ?_⟩, hp⟩
  · have := h.1; rwa [List.getElem?_append_left hp] at this
  · have := h.2 i hi; rwa [List.getElem?_append_left (by omega)] at this

theorem first_new {l : List ByteArray} {x : ByteArray} {p : Nat} (hx : ¬ x ∈ l) (h : First (l ++ [x]) x p) : l.length ≤ p := by
  by_cases hp : p < l.length
  · have := h.1
    rw [List.getElem?_append_left hp] at this
    exact absurd (List.mem_of_getElem? this) hx
  · omega

/-- The first places rise along the list. -/
theorem ded_rises (l : List ByteArray) : (ded l).Pairwise (fun x y => ∀ p q, First l x p → First l y q → p < q) := by
  refine snoc_cases (p := fun l => (ded l).Pairwise (fun x y => ∀ p q, First l x p → First l y q → p < q)) (by simp [ded]) (fun l x ih => ?_) l
  rw [ded_snoc]
  have ih' : (ded l).Pairwise (fun a b => ∀ p q, First (l ++ [x]) a p → First (l ++ [x]) b q → p < q) :=
    List.Pairwise.imp_of_mem (fun ha hb h p q hp hq => h p q (first_old ((mem_ded l _).1 ha) hp).1 (first_old ((mem_ded l _).1 hb) hq).1) ih
  by_cases hx : x ∈ ded l
  · rw [addNew_old hx]; exact ih'
  · rw [addNew_new hx, List.pairwise_append]
    refine ⟨ih', List.pairwise_singleton _ _, fun y hy z hz => ?_⟩
    rw [List.mem_singleton] at hz
    subst hz
    have hz' : ¬ z ∈ l := fun h => hx ((mem_ded l z).2 h)
    intro p q hp hq
    have h1 := (first_old ((mem_ded l y).1 hy) hp).2
    have h2 := first_new hz' hq
    omega

theorem ded_step (l : List ByteArray) (i : Nat) (x y : ByteArray) (hx : (ded l)[i]? = some x) (hy : (ded l)[i + 1]? = some y) {p q : Nat} (hp : First l x p) (hq : First l y q) : p < q := by
  obtain ⟨h1, e1⟩ := List.getElem?_eq_some_iff.1 hx
  obtain ⟨h2, e2⟩ := List.getElem?_eq_some_iff.1 hy
  have := List.pairwise_iff_getElem.1 (ded_rises l) i (i + 1) h1 h2 (by omega)
  rw [e1, e2] at this
  exact this p q hp hq

/-- Those of b that are not in a, in b's order. -/
def notIn (a b : List ByteArray) : List ByteArray := b.filter (fun x => !(inB x a))

theorem notIn_snoc (a b : List ByteArray) (x : ByteArray) : notIn a (b ++ [x]) = if inB x a then notIn a b else notIn a b ++ [x] := by
  unfold notIn
  rw [List.filter_append]
  cases h : inB x a <;> simp [h]

theorem notIn_succ (a b : List ByteArray) (k : Nat) (hk : k < b.length) : notIn a (b.take (k + 1)) = if inB (b.getD k ByteArray.empty) a then notIn a (b.take k) else notIn a (b.take k) ++ [b.getD k ByteArray.empty] := by
  rw [List.take_add_one, List.getElem?_eq_getElem hk, Option.toList_some, notIn_snoc]
  have e : b.getD k ByteArray.empty = b[k] := by simp [List.getD, List.getElem?_eq_getElem hk]
  rw [e]

theorem mem_notIn {a b : List ByteArray} {x : ByteArray} : x ∈ notIn a b ↔ x ∈ b ∧ ¬ x ∈ a := by
  unfold notIn
  rw [List.mem_filter]
  constructor
  · rintro ⟨h1, h2⟩
    refine ⟨h1, fun h => ?_⟩
    rw [inB_true h] at h2; cases h2
  · rintro ⟨h1, h2⟩
    exact ⟨h1, by rw [inB_false h2]; rfl⟩

theorem ded_append (a b : List ByteArray) : ded (a ++ b) = ded a ++ notIn (ded a) (ded b) := by
  refine snoc_cases (p := fun b => ded (a ++ b) = ded a ++ notIn (ded a) (ded b)) (by simp [ded_nil, notIn]) (fun b x ih => ?_) b
  rw [← List.append_assoc, ded_snoc, ih, ded_snoc]
  by_cases h1 : x ∈ ded a
  · rw [addNew_old (List.mem_append_left _ h1)]
    by_cases h2 : x ∈ ded b
    · rw [addNew_old h2]
    · rw [addNew_new h2, notIn_snoc, inB_true h1, if_pos rfl]
  · by_cases h2 : x ∈ ded b
    · rw [addNew_old (List.mem_append_right _ (mem_notIn.2 ⟨h2, h1⟩)), addNew_old h2]
    · rw [addNew_new (fun h => by
        rcases List.mem_append.1 h with h | h
        · exact h1 h
        · exact h2 (mem_notIn.1 h).1), addNew_new h2, notIn_snoc, inB_false h1]
      simp

end Go.Proofs.Qxb6634908a
