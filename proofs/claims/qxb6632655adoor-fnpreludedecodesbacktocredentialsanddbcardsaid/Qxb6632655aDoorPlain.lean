/-
  The plain mathematics of decimal numerals: nothing of the program stands in it.
-/
import Derived.Lib.ItoaNum
namespace Go.Proofs.Qxb6632655aDoor
open Go.Lib

/-- What a row of decimal digits is worth, read from the left. -/
def val (l : List UInt8) : Nat := l.foldl (fun a c => a * 10 + (c.toNat - 48)) 0

theorem val_nil : val [] = 0 := rfl
theorem val_snoc (l : List UInt8) (c : UInt8) : val (l ++ [c]) = val l * 10 + (c.toNat - 48) := by
  simp [val]

theorem ofNat_toNat_digit (d : Nat) (h : d < 10) : (UInt8.ofNat (48 + d)).toNat = 48 + d := by
  simp; omega

theorem val_decDigits (u : Nat) : val (decDigits u) = u := by
  induction u using Nat.strongRecOn with
  | _ u ih =>
    by_cases h : u < 10
    · rw [decDigits, dif_pos h]
      have := ofNat_toNat_digit u h
      simp only [val, List.foldl_cons, List.foldl_nil, this]
      omega
    · rw [decDigits, dif_neg h, val_snoc, ih (u / 10) (by omega), ofNat_toNat_digit _ (by omega)]
      omega

theorem dec_range (u : Nat) : ∀ c ∈ decDigits u, 48 ≤ c.toNat ∧ c.toNat ≤ 57 := by
  induction u using Nat.strongRecOn with
  | _ u ih =>
    intro c hc
    by_cases h : u < 10
    · rw [decDigits, dif_pos h] at hc
      rw [List.mem_singleton] at hc
      subst hc
      rw [ofNat_toNat_digit _ h]; omega
    · rw [decDigits, dif_neg h, List.mem_append, List.mem_singleton] at hc
      rcases hc with hc | hc
      · exact ih (u / 10) (by omega) c hc
      · subst hc
        rw [ofNat_toNat_digit _ (by omega)]; omega

theorem dec_ne_nil (u : Nat) : decDigits u ≠ [] := by
  intro h
  have := decDigits_length u
  have := nDigits_pos u
  rw [h] at *
  simp at *
  omega

theorem dec_head (u : Nat) (h1 : 1 ≤ u) : ∀ c, (decDigits u).head? = some c → c.toNat ≠ 48 := by
  induction u using Nat.strongRecOn with
  | _ u ih =>
    intro c hc
    by_cases h : u < 10
    · rw [decDigits, dif_pos h] at hc
      simp only [List.head?_cons, Option.some.injEq] at hc
      subst hc
      rw [ofNat_toNat_digit _ h]; omega
    · rw [decDigits, dif_neg h, List.head?_append] at hc
      cases hh : (decDigits (u / 10)).head? with
      | none => exact absurd (List.head?_eq_none_iff.1 hh) (dec_ne_nil _)
      | some x =>
        rw [hh] at hc
        simp only [Option.some_or, Option.some.injEq] at hc
        subst hc
        exact ih (u / 10) (by omega) (by omega) x hh

theorem dec_len1 (u : Nat) (h : 1 < (decDigits u).length) : 1 ≤ u := by
  rw [decDigits_length] at h
  by_cases h1 : u < 10
  · rw [nDigits_small h1] at h; omega
  · omega

theorem foldl_ge (l : List UInt8) (a : Nat) : a ≤ l.foldl (fun a c => a * 10 + (c.toNat - 48)) a := by
  induction l generalizing a with
  | nil => exact Nat.le_refl _
  | cons c l ih => exact Nat.le_trans (by omega) (ih (a * 10 + (c.toNat - 48)))

theorem val_take_le (l : List UInt8) (k : Nat) : val (l.take k) ≤ val l := by
  have h : l = l.take k ++ l.drop k := (List.take_append_drop k l).symm
  have e : val l = (l.drop k).foldl (fun a c => a * 10 + (c.toNat - 48)) (val (l.take k)) := by
    have e2 : val l = val (l.take k ++ l.drop k) := congrArg val h
    rw [e2]
    unfold val
    rw [List.foldl_append]
  rw [e]
  exact foldl_ge _ _

theorem decDigits_inj {a b : Nat} (h : decDigits a = decDigits b) : a = b := by
  rw [← val_decDigits a, ← val_decDigits b, h]

theorem val_take_succ (l : List UInt8) (k : Nat) (h : k < l.length) : val (l.take (k + 1)) = val (l.take k) * 10 + (l[k].toNat - 48) := by
  rw [List.take_succ_eq_append_getElem h, val_snoc]

end Go.Proofs.Qxb6632655aDoor
