/-
  THE PLAIN LAWS on the messages' lists.
-/
import Derived.Test.Qxb6634834aFmtBase
namespace Go.Proofs.Qxb6634834aFmt

/-- The words of a TLV with two zero bytes and then X. -/
theorem tw2 (X : List Int) : tw (0 :: 0 :: X) = (X.length + 7) / 4 := by simp [tw]

/-- X and its padding. -/
def padded (X : List Int) : List Int := X ++ List.replicate (4 * tw (0 :: 0 :: X) - 4 - X.length) 0

theorem padded_length (X : List Int) : (padded X).length = 4 * tw (0 :: 0 :: X) - 4 := by
  rw [tw2]; simp [padded, tw2]; omega

theorem tlvL_two (typ : Int) (X : List Int) : tlvL typ (0 :: 0 :: X) = typ :: (tw (0 :: 0 :: X) : Int) :: 0 :: 0 :: padded X := by
  have h : 4 * tw (0 :: 0 :: X) - 2 - (X.length + 1 + 1) = 4 * tw (0 :: 0 :: X) - 4 - X.length := by omega
  simp [tlvL, padded, h]

theorem bareL_eq (X : List Int) : bareL X = 1 :: (1 + (tw (0 :: 0 :: X) : Int)) :: 34 :: 99 :: 20 :: (tw (0 :: 0 :: X) : Int) :: 0 :: 0 :: padded X := by
  rw [bareL, tlvL_two]

theorem tw_nil : tw [0, 0] = 1 := rfl
theorem padded_nil : padded [] = [] := rfl

theorem fullL_nil (X : List Int) : fullL X [] = 1 :: (1 + (tw (0 :: 0 :: X) : Int) + 1) :: 34 :: 99 :: 21 :: (tw (0 :: 0 :: X) : Int) :: 0 :: 0 :: (padded X ++ [20, 1, 0, 0]) := by
  rw [fullL, tlvL_two, tlvL_two, tw_nil, padded_nil]
  simp

theorem bareL_length (X : List Int) : (bareL X).length = 4 + 4 * tw (0 :: 0 :: X) := by
  have := tw2 X
  rw [bareL_eq]; simp [padded_length]; omega

theorem bare_x (X : List Int) (k : Nat) (h : k < X.length) : (bareL X)[8 + k]? = some (X[k]) := by
  rw [bareL_eq, Nat.add_comm 8 k]
  simp [padded, List.getElem?_append_left h, h]

theorem bare_zero (X : List Int) (k : Nat) (h1 : 8 + X.length ≤ k) (h2 : k < 4 + 4 * tw (0 :: 0 :: X)) : (bareL X)[k]? = some 0 := by
  obtain ⟨j, rfl⟩ : ∃ j, k = j + 8 := ⟨k - 8, by omega⟩
  rw [bareL_eq]
  simp only [List.getElem?_cons_succ, padded]
  rw [List.getElem?_append_right (by omega), List.getElem?_replicate, if_pos (by omega)]

theorem full_bare (X : List Int) (k : Nat) (h : k < 4 + 4 * tw (0 :: 0 :: X)) (h1 : k ≠ 1) (h4 : k ≠ 4) : ∃ x, (fullL X [])[k]? = some x ∧ (bareL X)[k]? = some x := by
  have hl := bareL_length X
  refine ⟨(bareL X)[k]'(by omega), ?_, List.getElem?_eq_getElem _⟩
  rw [← List.getElem?_eq_getElem]
  have hp := padded_length X
  rw [bareL_eq, fullL_nil]
  match k, h1, h4, h with
  | 0, _, _, _ => rfl
  | 2, _, _, _ => rfl
  | 3, _, _, _ => rfl
  | 5, _, _, _ => rfl
  | 6, _, _, _ => rfl
  | 7, _, _, _ => rfl
  | j + 8, _, _, h =>
    simp only [List.getElem?_cons_succ]
    rw [List.getElem?_append_left (by omega)]

theorem full_tail (X : List Int) (j : Nat) : (fullL X [])[4 + 4 * tw (0 :: 0 :: X) + j]? = ([20, 1, 0, 0] : List Int)[j]? := by
  have hp := padded_length X
  have ht := tw2 X
  obtain ⟨m, hm⟩ : ∃ m, 4 + 4 * tw (0 :: 0 :: X) + j = m + 8 := ⟨4 * tw (0 :: 0 :: X) - 4 + j, by omega⟩
  rw [hm, fullL_nil]
  simp only [List.getElem?_cons_succ]
  rw [List.getElem?_append_right (by omega)]
  congr 1
  omega

theorem splice_all (n : Nat) (l : List Int) (h : n = l.length) : splice (List.replicate n (Value.int .u8 0)) 0 (l.map (Value.int .u8)) = l.map (Value.int .u8) := by
  subst h; simp [splice]

end Go.Proofs.Qxb6634834aFmt
