/-
  THE WALK over rnDecimal: the decimal text of every int, as strconv.Itoa gives it.
-/
import Derived.Test.Qxb6632655aDoorCmds
import Derived.Test.Qxb6632655aDoorDigits
import Derived.Lib.ItoaLen
namespace Go.Proofs.Qxb6632655aDoor
open Go.RowKit

theorem quo10 (u : Nat) (h : (u : Int) ≤ 18446744073709551615) : IntKind.u64.wrap ((u : Int).tdiv 10) = ((u / 10 : Nat) : Int) := by
  rw [Int.tdiv_eq_ediv_of_nonneg (by omega)]
  simp only [IntKind.wrap, IntKind.signed, IntKind.bits]
  simp
  omega

theorem arrLen : Tryd.prog.arrayLen 35 = 24 := by kernel_rfl
theorem arrElem : Tryd.prog.elem 35 = 5 := by kernel_rfl
theorem sizeElem (w : World) : (sizeOf 5).run Tryd.prog w = .ok 1 w := by kernel_rfl

theorem slice_tail (b k : Nat) (h : k < 24) (w : World) :
    (Instr.sliceAt 35 (.pointer (some ⟨b, 0, none⟩)) (some (.int .i64 (k : Int))) none none).run Tryd.prog w = .ok (.slice (some ⟨b, k, none⟩) (24 - k) (24 - k)) w := by
  rw [run_sliceAt_array_l w 35 ⟨b, 0, none⟩ (by kernel_rfl) .i64 k (by omega) (by rw [arrLen]; omega), arrElem, sizeElem, arrLen]
  simp only [Result.andThen, slicedAt, Int.toNat_natCast]
  rw [if_neg (by omega)]
  simp [Addr.add]
  exact fun h => h.symm

/-- 'string(buf[sz-j-1:])' behind 'buf[sz-j-1] = '-''. -/
theorem DecRow.text_neg {P : Program} {sz N j : Nat} {cs : Array Value} (h : DecRow sz N j cs) (hj : j + 1 ≤ sz) (hn : Lib.nDigits N = j) (w : World) (T src e dst cap : Nat)
    (hs : P.underlying src = some (.slice e)) (he : P.underlying e = some (.int .u8)) (hd : P.underlying dst = some .string) :
    (convert src dst (.slice (some ⟨w.heap.size, sz - j - 1, none⟩) (j + 1) cap)).run P (w.alloc (.cells (cs.setIfInBounds (sz - j - 1) (.int .u8 45)) T)) = .ok (.string ⟨(45 :: Lib.decDigits N).toArray⟩) (w.alloc (.cells (cs.setIfInBounds (sz - j - 1) (.int .u8 45)) T)) := by
  obtain ⟨hsz, hc⟩ := h
  have key := run_convert_bytes_arg (P := P) (w.alloc (.cells (cs.setIfInBounds (sz - j - 1) (.int .u8 45)) T)) src e hs he w.heap.size (sz - j - 1) (j + 1) cap (45 :: (List.range j).map fun t => ((48 + N / 10 ^ (j - 1 - t) % 10 : Nat) : Int)) (by simp)
    (by
      intro i hi
      rw [World.cell?_alloc_at _ _ _ _ rfl, Array.getElem?_setIfInBounds]
      rcases Nat.eq_zero_or_pos i with h0 | h0
      · subst h0
        rw [if_pos (by omega), if_pos (by omega)]
        simp
      · rw [if_neg (by omega)]
        have h1 := hc (j - i) (by omega)
        rw [show sz - 1 - (j - i) = sz - j - 1 + i by omega] at h1
        rw [h1]
        obtain ⟨t, rfl⟩ : ∃ t, i = t + 1 := ⟨i - 1, by omega⟩
        have ht : t < j := by omega
        simp [ht]
        have e1 : j - (t + 1) = j - 1 - t := by omega
        rw [e1]) dst hd
  rw [key]
  have e : strOfNums (45 :: (List.range j).map fun t => ((48 + N / 10 ^ (j - 1 - t) % 10 : Nat) : Int)) = ⟨(45 :: Lib.decDigits N).toArray⟩ := by
    unfold strOfNums
    rw [Lib.decDigits_eq, hn, List.map_cons, List.map_map]
    rfl
  rw [e]

theorem pow_gt (j N : Nat) (hN : N ≤ 9223372036854775808) (h : 10 ^ j ≤ N) : j ≤ 18 := by
  rcases Nat.lt_or_ge 18 j with hlt | hge
  · have : 10 ^ 19 ≤ 10 ^ j := Nat.pow_le_pow_right (by decide) hlt
    omega
  · exact hge

def DecRel (N j u k : Nat) (cs : Array Value) : Prop :=
  DecRow 24 N j cs ∧ u = N / 10 ^ j ∧ k + j = 24 ∧ (1 ≤ j → 1 ≤ u)

set_option maxHeartbeats 400000 in
theorem decimal_pos (N : Nat) (w : World) (h1 : (N : Int) ≤ 9223372036854775807) :
    Calls Tryd.prog 8 #[.int .i64 (N : Int)] w fun e w' => e = .returned (.string (numB (N : Int))) ∧ ∃ cs, w' = w.alloc (.cells cs 35) := by
  have hn : decide ((N : Int) < (0 : Int)) = false := by simp
  go_enter Tryd.func8, Tryd.ntmps8
  go_wp2
  go_loopw [4, 6] (fun n i wr => ∃ (cs : Array Value) (j u k : Nat), Hid (DecRel N j u k cs) ∧ n = .int .u64 (u : Int) ∧ i = .int .i64 (k : Int) ∧ wr = w.alloc (.cells cs 35)) (fun n _ _ => (intOf n).toNat)
  case atStart => exact ⟨_, 0, N, 24, ⟨DecRow.start rfl, by simp, rfl, by omega⟩, by go_num, rfl, rfl⟩
  case round =>
    obtain ⟨cs, j, u, k, HR, rfl, rfl, rfl⟩ := hrel
    have HN := hide h1
    have hu5 : (u : Int) ≤ 9223372036854775808 := by
      have h2 := (unhide HR).2.1
      have := Nat.div_le_self N (10 ^ j)
      omega
    have hq := quo10 u (by omega)
    have hj18 : j ≤ 18 := by
      obtain ⟨_, hu, hkj, hp⟩ := unhide HR
      rcases Nat.eq_zero_or_pos j with h | h
      · omega
      · exact pow_gt j N (by omega) (pow_le_of_div_pos (hu ▸ hp h))
    have hk2 : 6 ≤ k := by have := (unhide HR).2.2.1; omega
    have hk24 : k ≤ 24 := by have := (unhide HR).2.2.1; omega
    obtain ⟨old, hold⟩ : ∃ old, cs[k - 1]? = some old := ⟨cs[k - 1]'(by have := (unhide HR).1.1; omega), Array.getElem?_eq_getElem _⟩
    have hstep := (unhide HR).1.step (show j < 24 by omega)
    rw [← (unhide HR).2.1, show 24 - 1 - j = k - 1 by have := (unhide HR).2.2.1; omega, show ((48 + u % 10 : Nat) : Int) = 48 + (u : Int) % 10 by omega] at hstep
    have HST := hide hstep
    clear h1 hstep hj18
    by_cases hz : u / 10 = 0
    · have hnd : Lib.nDigits N = j + 1 := by
        obtain ⟨_, hu, hkj, hp⟩ := unhide HR
        rcases Nat.eq_zero_or_pos j with h | h
        · subst h
          simp at hu
          exact Lib.nDigits_small (by omega)
        · refine digits_end (by rw [← div_pow_succ, ← hu]; exact hz) ?_ (by omega)
          simpa using pow_le_of_div_pos (hu ▸ hp h)
      have hkj := (unhide HR).2.2.1
      have hsl := slice_tail w.heap.size (k - 1) (by omega)
      rw [show ((k - 1 : Nat) : Int) = (k : Int) - 1 by omega] at hsl
      have htx := (unhide HST).text (P := Tryd.prog) (by omega) hnd w 35 36 5 9 (24 - (k - 1)) Tryd.underlying36 Tryd.underlying5 Tryd.underlying9
      rw [show 24 - (j + 1) = k - 1 by omega, show j + 1 = 24 - (k - 1) by omega] at htx
      have HE := hide (Lib.itoa_nonneg N)
      clear HR HST HN hnd hkj
      go_wp2
      go_ret
      refine ⟨?_, _, rfl⟩
      rw [numB, unhide HE]
      rfl
    · have HS : Hid (DecRel N (j + 1) (u / 10) (k - 1) (cs.setIfInBounds (k - 1) (.int .u8 (48 + (u : Int) % 10)))) := by
        obtain ⟨_, hu, hkj, hp⟩ := unhide HR
        exact ⟨unhide HST, by rw [hu, div_pow_succ], by omega, fun _ => by omega⟩
      clear HR HST HN
      go_wp2
      go_roundw
      case rel => exact ⟨_, j + 1, u / 10, k - 1, HS, by go_num, by go_num, rfl⟩
      case measure => simp [intOf]; omega

set_option maxHeartbeats 400000 in
theorem decimal_neg (N : Nat) (w : World) (h0 : 1 ≤ N) (h1 : (N : Int) ≤ 9223372036854775808) :
    Calls Tryd.prog 8 #[.int .i64 (-(N : Int))] w fun e w' => e = .returned (.string (numB (-(N : Int)))) ∧ ∃ cs, w' = w.alloc (.cells cs 35) := by
  have hn : decide ((-(N : Int)) < (0 : Int)) = true := by simp; omega
  go_enter Tryd.func8, Tryd.ntmps8
  go_wp2
  go_loopw [4, 6] (fun n i wr => ∃ (cs : Array Value) (j u k : Nat), Hid (DecRel N j u k cs) ∧ n = .int .u64 (u : Int) ∧ i = .int .i64 (k : Int) ∧ wr = w.alloc (.cells cs 35)) (fun n _ _ => (intOf n).toNat)
  case atStart => exact ⟨_, 0, N, 24, ⟨DecRow.start rfl, by simp, rfl, by omega⟩, by go_num, rfl, rfl⟩
  case round =>
    obtain ⟨cs, j, u, k, HR, rfl, rfl, rfl⟩ := hrel
    have HN := hide h1
    have hu5 : (u : Int) ≤ 9223372036854775808 := by
      have h2 := (unhide HR).2.1
      have := Nat.div_le_self N (10 ^ j)
      omega
    have hq := quo10 u (by omega)
    have hj18 : j ≤ 18 := by
      obtain ⟨_, hu, hkj, hp⟩ := unhide HR
      rcases Nat.eq_zero_or_pos j with h | h
      · omega
      · exact pow_gt j N (by omega) (pow_le_of_div_pos (hu ▸ hp h))
    have hk2 : 6 ≤ k := by have := (unhide HR).2.2.1; omega
    have hk24 : k ≤ 24 := by have := (unhide HR).2.2.1; omega
    obtain ⟨old, hold⟩ : ∃ old, cs[k - 1]? = some old := ⟨cs[k - 1]'(by have := (unhide HR).1.1; omega), Array.getElem?_eq_getElem _⟩
    have hstep := (unhide HR).1.step (show j < 24 by omega)
    rw [← (unhide HR).2.1, show 24 - 1 - j = k - 1 by have := (unhide HR).2.2.1; omega, show ((48 + u % 10 : Nat) : Int) = 48 + (u : Int) % 10 by omega] at hstep
    have HST := hide hstep
    clear h1 hstep hj18
    by_cases hz : u / 10 = 0
    · have hnd : Lib.nDigits N = j + 1 := by
        obtain ⟨_, hu, hkj, hp⟩ := unhide HR
        rcases Nat.eq_zero_or_pos j with h | h
        · subst h
          simp at hu
          exact Lib.nDigits_small (by omega)
        · refine digits_end (by rw [← div_pow_succ, ← hu]; exact hz) ?_ (by omega)
          simpa using pow_le_of_div_pos (hu ▸ hp h)
      have hkj := (unhide HR).2.2.1
      obtain ⟨old2, hold2⟩ : ∃ old2, (cs.setIfInBounds (k - 1) (.int .u8 (48 + (u : Int) % 10)))[k - 1 - 1]? = some old2 := ⟨(cs.setIfInBounds (k - 1) (.int .u8 (48 + (u : Int) % 10)))[k - 1 - 1]'(by have := (unhide HST).1; omega), Array.getElem?_eq_getElem _⟩
      have hsl := slice_tail w.heap.size (k - 1 - 1) (by omega)
      rw [show ((k - 1 - 1 : Nat) : Int) = (k : Int) - 1 - 1 by omega] at hsl
      have htx := (unhide HST).text_neg (P := Tryd.prog) (by omega) hnd w 35 36 5 9 (24 - (k - 1 - 1)) Tryd.underlying36 Tryd.underlying5 Tryd.underlying9
      rw [show 24 - (j + 1) - 1 = k - 1 - 1 by omega, show j + 1 + 1 = 24 - (k - 1 - 1) by omega] at htx
      have HE := hide (Lib.itoa_neg N h0)
      clear HR HST HN hnd hkj
      go_wp2
      go_ret
      refine ⟨?_, _, rfl⟩
      rw [numB, unhide HE]
      rfl
    · have HS : Hid (DecRel N (j + 1) (u / 10) (k - 1) (cs.setIfInBounds (k - 1) (.int .u8 (48 + (u : Int) % 10)))) := by
        obtain ⟨_, hu, hkj, hp⟩ := unhide HR
        exact ⟨unhide HST, by rw [hu, div_pow_succ], by omega, fun _ => by omega⟩
      clear HR HST HN
      go_wp2
      go_roundw
      case rel => exact ⟨_, j + 1, u / 10, k - 1, HS, by go_num, by go_num, rfl⟩
      case measure => simp [intOf]; omega

theorem decimal_any (db : Int) (w : World) (h0 : -9223372036854775808 ≤ db) (h1 : db ≤ 9223372036854775807) :
    Calls Tryd.prog 8 #[.int .i64 db] w fun e w' => e = .returned (.string (numB db)) ∧ ∃ cs, w' = w.alloc (.cells cs 35) := by
  by_cases hneg : db < 0
  · obtain ⟨u, rfl⟩ : ∃ u : Nat, db = -(u : Int) := ⟨db.natAbs, by omega⟩
    exact decimal_neg u w (by omega) (by omega)
  · obtain ⟨u, rfl⟩ : ∃ u : Nat, db = (u : Int) := ⟨db.toNat, by omega⟩
    exact decimal_pos u w h1

end Go.Proofs.Qxb6632655aDoor
