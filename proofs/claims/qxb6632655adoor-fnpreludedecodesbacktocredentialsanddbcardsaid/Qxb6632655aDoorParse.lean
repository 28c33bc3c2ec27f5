/-
  THE WALK over rnParseDec at a canonical numeral.
-/
import Derived.Test.Qxb6632655aDoorCmds
import Derived.Test.Qxb6632655aDoorPlain
import Derived.Lib.IndexBytes
import Derived.Lib.ItoaLen
namespace Go.Proofs.Qxb6632655aDoor
open Go.RowKit

theorem ret2_i64 {a b : Int} {c : Bool} (h : a = b) : Ending.returned (.tuple #[.int .i64 a, .bool c]) = .returned (.tuple #[.int .i64 b, .bool c]) := by rw [h]

set_option maxHeartbeats 400000 in
theorem parse_pos (s : ByteArray) (w : World) (l : List UInt8) (n : Nat) (hn1 : 1 ≤ n) (hn2 : n ≤ 20) (hs : s.size = n)
    (hm : ∀ h : 0 < s.size, (((s[0]'h).toNat : Int) == 45) = false) (hz : ∀ h : 0 < s.size, (((s[0]'h).toNat : Int) == 48) = false)
    (HL : Hid (l.length = n)) (HD : Hid (∀ (k : Nat) (h : k < s.size) (h' : k < l.length), s[k]'h = l[k]))
    (HR : Hid (∀ c ∈ l, 48 ≤ c.toNat ∧ c.toNat ≤ 57)) (HV : Hid (val l ≤ 9223372036854775807)) :
    Calls Tryd.prog 11 #[.string s] w fun e w' => e = .returned (.tuple #[.int .i64 ((val l : Int)), .bool true]) ∧ w' = w := by
  go_enter Tryd.func11, Tryd.ntmps11
  go_wp2
  go_loop [5, 6] (fun i v => ∃ (k : Nat) (x : Int), k ≤ n ∧ i = .int .i64 ((k : Int)) ∧ v = .int .i64 (-x) ∧ Hid (x = (val (l.take k) : Int))) (fun i _ => (n) - (intOf i).toNat)
  case atStart => exact ⟨0, 0, Nat.zero_le _, rfl, rfl, rfl⟩
  case round =>
    obtain ⟨k, x, hk, rfl, rfl, HX⟩ := hrel
    clear hm hz
    by_cases hlt : k < n
    · have hkl : k < l.length := by rw [unhide HL]; exact hlt
      have hks : k < s.size := by omega
      obtain ⟨c, hc⟩ : ∃ c, c = s[k]'hks := ⟨_, rfl⟩
      have hcl : c = l[k] := hc.trans (unhide HD k hks hkl)
      have hr := unhide HR l[k] (List.getElem_mem hkl)
      rw [← hcl] at hr
      have hvs : val (l.take (k + 1)) = val (l.take k) * 10 + (c.toNat - 48) := by rw [hcl]; exact val_take_succ l k hkl
      have hb := val_take_le l (k + 1)
      have hV := unhide HV
      have hx := unhide HX
      have hx0 : 0 ≤ x := by omega
      have hx1 : x * 10 + ((c.toNat : Int) - 48) ≤ 9223372036854775808 := by omega
      have hc1 : (48 : Int) ≤ (c.toNat : Int) := by omega
      have hc2 : (c.toNat : Int) ≤ 57 := by omega
      have HS := hide (show x * 10 + ((c.toNat : Int) - 48) = (val (l.take (k + 1)) : Int) by omega)
      have hcs : s[k]'hks = c := hc.symm
      clear hr hvs hb hV hx hcl hc hkl HX HD HR HV HL
      go_wp2
      go_round
      case rel => exact ⟨k + 1, x * 10 + ((c.toNat : Int) - 48), by omega, by go_num, by go_num, unhide HS⟩
      case measure => simp [intOf]; omega
    · have hkk : k = n := by omega
      have hx : x = (val l : Int) := by rw [unhide HX, hkk, List.take_of_length_le (Nat.le_of_eq (unhide HL))]
      have hV := unhide HV
      have hx0 : 0 ≤ x := by omega
      have hx1 : x ≤ 9223372036854775807 := by omega
      have HE := hide hx
      clear hx hV HX HD HR HV HL hkk
      go_wp2
      go_ret2
      exact ⟨ret2_i64 (by rw [← unhide HE]), rfl⟩

set_option maxHeartbeats 400000 in
theorem parse_neg (s : ByteArray) (w : World) (l : List UInt8) (n : Nat) (hn1 : 1 ≤ n) (hn2 : n ≤ 20) (hs : s.size = n + 1)
    (hm : ∀ h : 0 < s.size, (((s[0]'h).toNat : Int) == 45) = true) (hz : ∀ h : 1 < s.size, (((s[1]'h).toNat : Int) == 48) = false)
    (HL : Hid (l.length = n)) (HD : Hid (∀ (k : Nat) (h : 1 + k < s.size) (h' : k < l.length), s[1 + k]'h = l[k]))
    (HR : Hid (∀ c ∈ l, 48 ≤ c.toNat ∧ c.toNat ≤ 57)) (HV : Hid (val l ≤ 9223372036854775808)) :
    Calls Tryd.prog 11 #[.string s] w fun e w' => e = .returned (.tuple #[.int .i64 (-(val l : Int)), .bool true]) ∧ w' = w := by
  go_enter Tryd.func11, Tryd.ntmps11
  go_wp2
  go_loop [5, 6] (fun i v => ∃ (k : Nat) (x : Int), k ≤ n ∧ i = .int .i64 (1 + (k : Int)) ∧ v = .int .i64 (-x) ∧ Hid (x = (val (l.take k) : Int))) (fun i _ => (n + 1) - (intOf i).toNat)
  case atStart => exact ⟨0, 0, Nat.zero_le _, rfl, rfl, rfl⟩
  case round =>
    obtain ⟨k, x, hk, rfl, rfl, HX⟩ := hrel
    clear hm hz
    by_cases hlt : k < n
    · have hkl : k < l.length := by rw [unhide HL]; exact hlt
      have hks : 1 + k < s.size := by omega
      obtain ⟨c, hc⟩ : ∃ c, c = s[1 + k]'hks := ⟨_, rfl⟩
      have hcl : c = l[k] := hc.trans (unhide HD k hks hkl)
      have hr := unhide HR l[k] (List.getElem_mem hkl)
      rw [← hcl] at hr
      have hvs : val (l.take (k + 1)) = val (l.take k) * 10 + (c.toNat - 48) := by rw [hcl]; exact val_take_succ l k hkl
      have hb := val_take_le l (k + 1)
      have hV := unhide HV
      have hx := unhide HX
      have hx0 : 0 ≤ x := by omega
      have hx1 : x * 10 + ((c.toNat : Int) - 48) ≤ 9223372036854775808 := by omega
      have hc1 : (48 : Int) ≤ (c.toNat : Int) := by omega
      have hc2 : (c.toNat : Int) ≤ 57 := by omega
      have HS := hide (show x * 10 + ((c.toNat : Int) - 48) = (val (l.take (k + 1)) : Int) by omega)
      have hcs : s[1 + k]'hks = c := hc.symm
      clear hr hvs hb hV hx hcl hc hkl HX HD HR HV HL
      go_wp2
      go_round
      case rel => exact ⟨k + 1, x * 10 + ((c.toNat : Int) - 48), by omega, by go_num, by go_num, unhide HS⟩
      case measure => simp [intOf]; omega
    · have hkk : k = n := by omega
      have hx : x = (val l : Int) := by rw [unhide HX, hkk, List.take_of_length_le (Nat.le_of_eq (unhide HL))]
      have hV := unhide HV
      have hx0 : 0 ≤ x := by omega
      have hx1 : x ≤ 9223372036854775808 := by omega
      have HE := hide hx
      clear hx hV HX HD HR HV HL hkk
      go_wp2
      go_ret2
      exact ⟨ret2_i64 (by rw [← unhide HE]), rfl⟩

theorem numB_size (n : Int) : (numB n).size = (Lib.itoa n).length := by simp [numB, ByteArray.size]
theorem numB_get (n : Int) (k : Nat) (h : k < (numB n).size) (h' : k < (Lib.itoa n).length) : (numB n)[k]'h = (Lib.itoa n)[k] := by
  have e : (numB n)[k]'h = ((Lib.itoa n).toArray)[k]'(by simpa using h') := rfl
  rw [e]; simp

theorem digits_le20 (u : Nat) (h : u ≤ 9223372036854775808) : (Lib.decDigits u).length ≤ 20 := by
  rw [Lib.decDigits_length]; exact Lib.nDigits_le20 u (by omega)

/-- rnParseDec reads strconv.Itoa's text of every int but 0 back. -/
theorem parse_numB (db : Int) (w : World) (hd : db ≠ 0) (h0 : -9223372036854775808 ≤ db) (h1 : db ≤ 9223372036854775807) :
    Calls Tryd.prog 11 #[.string (numB db)] w fun e w' => e = .returned (.tuple #[.int .i64 db, .bool true]) ∧ w' = w := by
  by_cases hneg : db < 0
  · obtain ⟨u, rfl⟩ : ∃ u : Nat, db = -(u : Int) := ⟨db.natAbs, by omega⟩
    have hi : Lib.itoa (-(u : Int)) = 45 :: Lib.decDigits u := Lib.itoa_neg u (by omega)
    have hl1 := Lib.nDigits_pos u
    have hdl := Lib.decDigits_length u
    have hl2 := digits_le20 u (by omega)
    have hsz : (numB (-(u : Int))).size = (Lib.decDigits u).length + 1 := by rw [numB_size, hi]; rfl
    have key := parse_neg (numB (-(u : Int))) w (Lib.decDigits u) (Lib.decDigits u).length (by omega) hl2 hsz
      (by
        intro h
        rw [numB_get _ 0 h (by rw [hi]; simp)]
        simp [hi])
      (by
        intro h
        rw [numB_get _ 1 h (by rw [hi]; simp; omega)]
        have hne := dec_head u (by omega) (Lib.decDigits u)[0] (by rw [List.head?_eq_getElem?]; exact List.getElem?_eq_getElem (by omega))
        simp only [hi, List.getElem_cons_succ]
        rw [beq_eq_false_iff_ne]
        omega)
      rfl
      (by
        intro k h h'
        rw [numB_get _ (1 + k) h (by rw [hi]; simp; omega)]
        simp only [hi, Nat.add_comm 1 k, List.getElem_cons_succ])
      (dec_range u) (by show val (Lib.decDigits u) ≤ _; rw [val_decDigits]; omega)
    rw [val_decDigits] at key
    exact key
  · obtain ⟨u, rfl⟩ : ∃ u : Nat, db = (u : Int) := ⟨db.toNat, by omega⟩
    have hi : Lib.itoa (u : Int) = Lib.decDigits u := Lib.itoa_nonneg u
    have hl1 := Lib.nDigits_pos u
    have hdl := Lib.decDigits_length u
    have hl2 := digits_le20 u (by omega)
    have hsz : (numB (u : Int)).size = (Lib.decDigits u).length := by rw [numB_size, hi]
    have hfirst : ∀ h : 0 < (numB (u : Int)).size, (numB (u : Int))[0]'h = (Lib.decDigits u)[0]'(by omega) := by
      intro h
      rw [numB_get _ 0 h (by rw [hi]; omega)]
      simp only [hi]
    have key := parse_pos (numB (u : Int)) w (Lib.decDigits u) (Lib.decDigits u).length (by omega) hl2 hsz
      (by
        intro h
        rw [hfirst h]
        have hr := dec_range u (Lib.decDigits u)[0] (List.getElem_mem (by omega))
        rw [beq_eq_false_iff_ne]
        omega)
      (by
        intro h
        rw [hfirst h]
        have hne := dec_head u (by omega) (Lib.decDigits u)[0] (by rw [List.head?_eq_getElem?]; exact List.getElem?_eq_getElem (by omega))
        rw [beq_eq_false_iff_ne]
        omega)
      rfl
      (by
        intro k h h'
        rw [numB_get _ k h (by rw [hi]; exact h')]
        simp only [hi])
      (dec_range u) (by show val (Lib.decDigits u) ≤ _; rw [val_decDigits]; omega)
    rw [val_decDigits] at key
    exact key

end Go.Proofs.Qxb6632655aDoor
