/-
  THE WALKS over zzDecimal and linkTypeNameModel.
-/
import Derived.Test.Qxb6632539aFmtParse
import Derived.Test.Qxb6632539aFmtDigits
namespace Go.Proofs.Qxb6632539aFmt
open Go.RowKit Go.Extern.Stop Go.Stop Go.Extern

theorem quo10 (u : Nat) (h : u ≤ 65535) : IntKind.u16.wrap ((u : Int).tdiv 10) = ((u / 10 : Nat) : Int) := by
  rw [Int.tdiv_eq_ediv_of_nonneg (by omega)]
  simp [IntKind.wrap, IntKind.signed, IntKind.bits]
  omega

theorem arrLen : Tryf.prog.arrayLen 32 = 5 := by kernel_rfl
theorem arrElem : Tryf.prog.elem 32 = 5 := by kernel_rfl
theorem sizeElem (w : World) : (sizeOf 5).run Tryf.prog w = .ok 1 w := by kernel_rfl

theorem slice_tail (b k : Nat) (h : k < 5) (w : World) :
    (Instr.sliceAt 32 (.pointer (some ⟨b, 0, none⟩)) (some (.int .i64 (k : Int))) none none).run Tryf.prog w = .ok (.slice (some ⟨b, k, none⟩) (5 - k) (5 - k)) w := by
  rw [run_sliceAt_array_l w 32 ⟨b, 0, none⟩ (by kernel_rfl) .i64 k (by omega) (by rw [arrLen]; omega), arrElem, sizeElem, arrLen]
  simp only [Result.andThen, slicedAt, Int.toNat_natCast]
  rw [if_neg (by omega)]
  simp [Addr.add]
  exact fun h => h.symm

set_option maxHeartbeats 400000 in
theorem dec_any (N : Nat) (w : World) (h0 : 1 ≤ N) (h1 : N ≤ 65535) :
    Calls Tryf.prog 9 #[.int .u16 (N : Int)] w fun e w' => e = .returned (.string ⟨(Lib.decDigits N).toArray⟩) ∧ ∃ cs, w' = w.alloc (.cells cs 32) := by
  have hn0 : ((N : Int) == 0) = false := by rw [beq_eq_false_iff_ne]; omega
  have HN := hide h1
  clear h1
  go_enter Tryf.func9, Tryf.ntmps9
  go_wp2
  go_loopw [0, 4] (fun n i wr => ∃ (cs : Array Value) (j u k : Nat), Hid (DecRow 5 N j cs ∧ j ≤ 5 ∧ (1 ≤ j → 10 ^ (j - 1) ≤ N) ∧ u = N / 10 ^ j ∧ k + j = 5) ∧ n = .int .u16 (u : Int) ∧ i = .int .i64 (k : Int) ∧ wr = w.alloc (.cells cs 32)) (fun n _ _ => (intOf n).toNat)
  case atStart => exact ⟨_, 0, N, 5, ⟨DecRow.start rfl, by omega, by omega, by simp, rfl⟩, rfl, rfl, rfl⟩
  case round =>
    obtain ⟨cs, j, u, k, HR, rfl, rfl, rfl⟩ := hrel
    have hu5 : (u : Int) ≤ 65535 := by
      have h2 := (unhide HR).2.2.2.1
      have h3 := unhide HN
      have := Nat.div_le_self N (10 ^ j)
      omega
    have hq := quo10 u (by omega)
    have hk5 : k ≤ 5 := by have := (unhide HR).2.2.2.2; omega
    by_cases hlt : 1 ≤ u
    · have hk1 : 1 ≤ k := by
        obtain ⟨_, hj, _, hu, hkj⟩ := unhide HR
        have h2 := pow_le_of_div_pos (hu ▸ hlt)
        have h3 := unhide HN
        rcases Nat.lt_or_ge 4 j with h | h
        · have : 10 ^ 5 ≤ 10 ^ j := Nat.pow_le_pow_right (by decide) h
          omega
        · omega
      obtain ⟨old, hold⟩ : ∃ old, cs[k - 1]? = some old := ⟨cs[k - 1]'(by have := (unhide HR).1.1; omega), Array.getElem?_eq_getElem _⟩
      have HS : Hid (DecRow 5 N (j + 1) (cs.setIfInBounds (k - 1) (.int .u8 (48 + (u : Int) % 10))) ∧ j + 1 ≤ 5 ∧ (1 ≤ j + 1 → 10 ^ (j + 1 - 1) ≤ N) ∧ u / 10 = N / 10 ^ (j + 1) ∧ (k - 1) + (j + 1) = 5) := by
        obtain ⟨hr, hj, _, hu, hkj⟩ := unhide HR
        refine ⟨?_, by omega, fun _ => by simpa using pow_le_of_div_pos (hu ▸ hlt), by rw [hu, div_pow_succ], by omega⟩
        have h := hr.step (show j < 5 by omega)
        rw [← hu, show 5 - 1 - j = k - 1 by omega] at h
        have e : ((48 + u % 10 : Nat) : Int) = 48 + (u : Int) % 10 := by omega
        rw [e] at h
        exact h
      clear HR HN
      go_wp2
      go_roundw
      case rel => exact ⟨_, j + 1, u / 10, k - 1, HS, by go_num, by go_num, rfl⟩
      case measure => simp [intOf]; omega
    · have hu0 : u = 0 := by omega
      subst hu0
      obtain ⟨hr, hj, hp, hu, hkj⟩ := unhide HR
      have hj1 : 1 ≤ j := by
        rcases Nat.eq_zero_or_pos j with h | h
        · subst h; simp at hu; omega
        · exact h
      have hsl := slice_tail w.heap.size k (by omega)
      have htx := hr.text (P := Tryf.prog) (by omega) (digits_end hu.symm (hp hj1) hj1) w 32 33 5 9 (5 - k) Tryf.underlying33 Tryf.underlying5 Tryf.underlying9
      rw [show 5 - j = k by omega, show j = 5 - k by omega] at htx
      clear hr hj hp hu hkj hj1 HR HN hq
      go_wp2
      go_ret
      exact ⟨rfl, _, rfl⟩

set_option maxHeartbeats 400000 in
theorem dec_zero (w : World) :
    Calls Tryf.prog 9 #[.int .u16 0] w fun e w' => e = .returned (.string ⟨#[48]⟩) ∧ w' = w := by
  go_enter Tryf.func9, Tryf.ntmps9
  go_wp2
  go_ret
  exact ⟨rfl, rfl⟩

/-- The documented name of a link type. -/
def nameOf (N : Nat) : ByteArray := if N = 1 then ethBytes else ⟨(pre ++ Lib.decDigits N).toArray⟩

theorem nameOf_one : nameOf 1 = ethBytes := rfl
theorem nameOf_other {N : Nat} (h : N ≠ 1) : nameOf N = ⟨(pre ++ Lib.decDigits N).toArray⟩ := if_neg h

theorem nameOf_inj {a b : Nat} (h : nameOf a = nameOf b) : a = b := by
  by_cases ha : a = 1
  · by_cases hb : b = 1
    · rw [ha, hb]
    · exfalso
      rw [ha, nameOf_one, nameOf_other hb] at h
      have h2 : ethBytes.data.toList.head? = (pre ++ Lib.decDigits b).head? := by rw [h]
      revert h2
      simp [pre, ethBytes]
  · by_cases hb : b = 1
    · exfalso
      rw [hb, nameOf_one, nameOf_other ha] at h
      have h2 : ethBytes.data.toList.head? = (pre ++ Lib.decDigits a).head? := by rw [← h]
      revert h2
      simp [pre, ethBytes]
    · rw [nameOf_other ha, nameOf_other hb] at h
      have h2 : pre ++ Lib.decDigits a = pre ++ Lib.decDigits b := by
        have h3 := congrArg (fun x : ByteArray => x.data.toList) h
        simpa using h3
      exact decDigits_inj (List.append_cancel_left h2)

theorem dec_all (N : Nat) (w : World) (h1 : N ≤ 65535) :
    Calls Tryf.prog 9 #[.int .u16 (N : Int)] w fun e w' => e = .returned (.string ⟨(Lib.decDigits N).toArray⟩) ∧ w.Extends w' := by
  rcases Nat.eq_zero_or_pos N with h | h
  · subst h
    refine (dec_zero w).mono fun e w' ⟨he, hw⟩ => ?_
    subst he; subst hw
    refine ⟨?_, World.Extends.refl _⟩
    rw [Lib.decDigits_one (by decide)]
    rfl
  · refine (dec_any N w h h1).mono fun e w' ⟨he, cs, hw⟩ => ?_
    subst he; subst hw
    exact ⟨rfl, (World.Extends.refl w).alloc _⟩

set_option maxHeartbeats 400000 in
theorem model_one (w : World) :
    Calls Tryf.prog 6 #[.int .u16 1] w fun e w' => e = .returned (.string ethBytes) ∧ w.Extends w' := by
  go_enter Tryf.func6, Tryf.ntmps6
  go_wp2
  go_ret
  exact ⟨rfl, World.Extends.refl _⟩

set_option maxHeartbeats 400000 in
theorem model_other (N : Nat) (w : World) (h1 : N ≤ 65535) (hne : ((N : Int) == 1) = false) :
    Calls Tryf.prog 6 #[.int .u16 (N : Int)] w fun e w' => e = .returned (.string ⟨(pre ++ Lib.decDigits N).toArray⟩) ∧ w.Extends w' := by
  have hlen : (Lib.decDigits N).length ≤ 5 := by rw [Lib.decDigits_length]; exact nDigits_le5 N h1
  have HN := hide h1
  clear h1
  go_enter Tryf.func6, Tryf.ntmps6
  go_wp2_with fail
  refine (dec_all N _ (unhide HN)).mono ?_
  rintro e w1 ⟨rfl, hx⟩
  go_wp2
  go_ret
  exact ⟨rfl, hx⟩

end Go.Proofs.Qxb6632539aFmt
