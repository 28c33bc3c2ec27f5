/-
  THE WALK over parseLinkTypeName: at "Ethernet"; at "link type " and a canonical numeral.
-/
import Derived.Test.Qxb6632539aFmtPlain
import Derived.Test.Qxb6632539aFmtString
import Derived.Lib.IndexBytes
namespace Go.Proofs.Qxb6632539aFmt
open Go.RowKit Go.Extern.Stop Go.Stop Go.Extern

set_option maxHeartbeats 400000 in
theorem parse_one (w : World) :
    Calls Tryf.prog 7 #[.string ethBytes] w fun e w' => e = .returned (.tuple #[.int .u16 1, .bool true]) ∧ w' = w := by
  unfold ethBytes
  go_enter Tryf.func7, Tryf.ntmps7
  go_wp2
  go_ret2
  exact ⟨rfl, rfl⟩

theorem hide {p : Prop} (h : p) : Hid p := h
theorem unhide {p : Prop} (h : Hid p) : p := h
theorem ret2_u16 {a b : Int} {c : Bool} (h : a = b) : Ending.returned (.tuple #[.int .u16 a, .bool c]) = .returned (.tuple #[.int .u16 b, .bool c]) := by rw [h]

set_option maxHeartbeats 400000 in
theorem parse_num (s D : ByteArray) (w : World) (l : List UInt8) (hl : 10 < s.size) (hl2 : s.size ≤ 15)
    (hne : (s.toList == [69, 116, 104, 101, 114, 110, 101, 116]) = false)
    (hpre : ((s.extract 0 10).toList == [108, 105, 110, 107, 32, 116, 121, 112, 101, 32]) = true)
    (hD : s.extract 10 s.size = D) (hDs : D.size = s.size - 10)
    (hh : 1 < s.size - 10 → ∀ h : 0 < D.size, (((D[0]'h).toNat : Int) == 48) = false)
    (hlen : l.length = s.size - 10)
    (hd : ∀ (k : Nat) (h : k < D.size) (h' : k < l.length), D[k]'h = l[k])
    (hr : ∀ c ∈ l, 48 ≤ c.toNat ∧ c.toNat ≤ 57) (hv : (val l : Int) ≤ 65535) :
    Calls Tryf.prog 7 #[.string s] w fun e w' => e = .returned (.tuple #[.int .u16 (val l), .bool true]) ∧ w' = w := by
  have HD := hide hd; clear hd
  have HL := hide hlen; clear hlen
  have HR := hide hr; clear hr
  by_cases h1 : 1 < s.size - 10
  · have hh' := hh h1
    clear hh
    go_enter Tryf.func7, Tryf.ntmps7
    go_wp2
    go_loop [5, 6] (fun v i => ∃ k : Nat, k ≤ s.size - 10 ∧ i = .int .i64 k ∧ v = .int .u32 (val (l.take k))) (fun _ i => (s.size - 10) - (intOf i).toNat)
    case atStart => exact ⟨0, Nat.zero_le _, rfl, rfl⟩
    case round =>
      obtain ⟨k, hk, rfl, rfl⟩ := hrel
      have hb0 := val_take_le l k
      have hb : (val (l.take k) : Int) ≤ 65535 := by omega
      clear hb0
      by_cases hlt : k < s.size - 10
      · have hkl : k < l.length := by rw [unhide HL]; exact hlt
        have HV : Hid (∀ h : k < D.size, (48 ≤ (D[k]'h).toNat ∧ (D[k]'h).toNat ≤ 57) ∧ val (l.take (k + 1)) = val (l.take k) * 10 + ((D[k]'h).toNat - 48)) := by
          intro h
          rw [unhide HD k h hkl]
          exact ⟨unhide HR l[k] (List.getElem_mem hkl), val_take_succ l k hkl⟩
        clear hne hpre hh' hkl hD
        go_wp2
        all_goals have hx := unhide HV (by omega)
        all_goals first | (exfalso; clear HV HR HD HL; omega) | skip
        go_round
        case rel => exact ⟨k + 1, by omega, by go_num, by rw [hx.2]; go_num⟩
        case measure => simp [intOf]; omega
      · have hkk : k = s.size - 10 := by omega
        have HE : Hid (l.take k = l) := by rw [hkk]; exact List.take_of_length_le (Nat.le_of_eq (unhide HL))
        clear hne hpre hh' hD hkk
        go_wp2
        go_ret2
        exact ⟨ret2_u16 (by rw [unhide HE]), rfl⟩
  · have h2 : s.size - 10 ≤ 1 := by omega
    clear hh h1
    go_enter Tryf.func7, Tryf.ntmps7
    go_wp2
    go_loop [5, 6] (fun v i => ∃ k : Nat, k ≤ s.size - 10 ∧ i = .int .i64 k ∧ v = .int .u32 (val (l.take k))) (fun _ i => (s.size - 10) - (intOf i).toNat)
    case atStart => exact ⟨0, Nat.zero_le _, rfl, rfl⟩
    case round =>
      obtain ⟨k, hk, rfl, rfl⟩ := hrel
      have hb0 := val_take_le l k
      have hb : (val (l.take k) : Int) ≤ 65535 := by omega
      clear hb0
      by_cases hlt : k < s.size - 10
      · have hkl : k < l.length := by rw [unhide HL]; exact hlt
        have HV : Hid (∀ h : k < D.size, (48 ≤ (D[k]'h).toNat ∧ (D[k]'h).toNat ≤ 57) ∧ val (l.take (k + 1)) = val (l.take k) * 10 + ((D[k]'h).toNat - 48)) := by
          intro h
          rw [unhide HD k h hkl]
          exact ⟨unhide HR l[k] (List.getElem_mem hkl), val_take_succ l k hkl⟩
        clear hne hpre hkl hD
        go_wp2
        all_goals have hx := unhide HV (by omega)
        all_goals first | (exfalso; clear HV HR HD HL; omega) | skip
        go_round
        case rel => exact ⟨k + 1, by omega, by go_num, by rw [hx.2]; go_num⟩
        case measure => simp [intOf]; omega
      · have hkk : k = s.size - 10 := by omega
        have HE : Hid (l.take k = l) := by rw [hkk]; exact List.take_of_length_le (Nat.le_of_eq (unhide HL))
        clear hne hpre hD hkk
        go_wp2
        go_ret2
        exact ⟨ret2_u16 (by rw [unhide HE]), rfl⟩

/-- "link type ". -/
def pre : List UInt8 := [108, 105, 110, 107, 32, 116, 121, 112, 101, 32]

/-- AT THE TEXT THAT String WRITES. -/
theorem parse_text (s : ByteArray) (u : Nat) (w : World) (hu : u ≤ 65535) (hs : s.data.toList = pre ++ Lib.decDigits u) :
    Calls Tryf.prog 7 #[.string s] w fun e w' => e = .returned (.tuple #[.int .u16 (u : Int), .bool true]) ∧ w' = w := by
  have hn := nDigits_le5 u hu
  have hn1 := Lib.nDigits_pos u
  have hdl := Lib.decDigits_length u
  have hsz : s.size = 10 + Lib.nDigits u := by
    have h : s.size = s.data.toList.length := by simp
    rw [h, hs, List.length_append, hdl]; rfl
  have hDl : (s.extract 10 s.size).data.toList = Lib.decDigits u := by
    rw [Lib.extract_to_end, hs]; rfl
  have hDs : (s.extract 10 s.size).size = Lib.nDigits u := by simp; omega
  have hget : ∀ (k : Nat) (h : k < (s.extract 10 s.size).size) (h' : k < (Lib.decDigits u).length), (s.extract 10 s.size)[k]'h = (Lib.decDigits u)[k] := by
    intro k h h'
    have e : (s.extract 10 s.size)[k]'h = (s.extract 10 s.size).data.toList[k]'(by simpa using h) := by
      rw [Array.getElem_toList]; rfl
    rw [e]
    simp only [hDl]
  have key := parse_num s (s.extract 10 s.size) w (Lib.decDigits u) (by omega) (by omega)
    (by
      rw [Lib.toList_data, hs]
      have hc : (pre ++ Lib.decDigits u == [69, 116, 104, 101, 114, 110, 101, 116]) = false := rfl
      exact hc)
    (by
      rw [Lib.toList_data, Lib.extract_data, hs]
      have hc : (List.take (10 - 0) (List.drop 0 (pre ++ Lib.decDigits u)) == [108, 105, 110, 107, 32, 116, 121, 112, 101, 32]) = true := rfl
      exact hc)
    rfl (by omega)
    (by
      intro h1 h
      have h' : 0 < (Lib.decDigits u).length := by omega
      rw [hget 0 h h']
      have hne := dec_head u (dec_len1 u (by omega)) (Lib.decDigits u)[0] (by rw [List.head?_eq_getElem?]; exact List.getElem?_eq_getElem h')
      rw [beq_eq_false_iff_ne]
      omega)
    (by omega) hget (dec_range u) (by rw [val_decDigits]; omega)
  rw [val_decDigits] at key
  exact key

end Go.Proofs.Qxb6632539aFmt
