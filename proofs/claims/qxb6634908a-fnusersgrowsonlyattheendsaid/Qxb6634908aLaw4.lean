/-
  THE LAW FnUsersGrowsOnlyAtTheEnd: its walk.
-/
import Derived.Test.Qxb6634908aLaw3
namespace Go.Proofs.Qxb6634908a
open Go.RowKit

theorem toF_room (ns : List ByteArray) (a : Option Addr) (n cap : Nat) (w : World) (HN : Hid (2 * n = ns.length)) (hn : (n : Int) ≤ 4096) (HA : Hid (StrAt w a ns)) (HE : Hid (a = none → n = 0 ∧ cap = 0)) :
    Calls Try.prog 8 #[.slice a n cap] w fun e w' => ∃ a' cap', e = .returned (.slice a' n cap') ∧ n ≤ cap' ∧ StrAt w' a' ns ∧ Below w.heap.size w w' := by
  cases a with
  | none =>
    obtain ⟨rfl, rfl⟩ := unhide HE rfl
    refine (toF_nil w).mono ?_
    rintro e w' ⟨rfl, rfl⟩
    exact ⟨none, 0, rfl, Nat.le_refl _, unhide HA, Below.refl _ _⟩
  | some ad =>
    refine (toF_some ns ad n cap w HN hn HA).mono ?_
    rintro e w' ⟨g, c, rfl, h0, h1, h2⟩
    exact ⟨_, c, rfl, h0, h1, h2⟩

theorem size36 (w : World) : (sizeOf 36).run Try.prog w = .ok 2 w := by kernel_rfl
theorem elem29 : Try.prog.elem 29 = 36 := by kernel_rfl
theorem und29 : Try.prog.underlying 29 = some (.slice (Try.prog.elem 29)) := by rw [elem29]; exact Try.underlying29

/-- in[:k]. -/
theorem slice_head (a : Option Addr) (n c k : Nat) (hk : k ≤ c) (w : World) : (Instr.slice 29 (.slice a n c) none (some (.int .i64 (k : Int))) none).run Try.prog w = .ok (.slice a k c) w := by
  rw [run_slice_h w 29 a n c und29 .i64 (k : Int) (by omega) (by omega), elem29, size36]
  simp only [Result.andThen, sliced, Int.toNat_natCast, Nat.zero_mul, Nat.sub_zero]
  cases a with
  | none => simp
  | some ad => simp [Addr.add_zero']

/-- in[k:]. -/
def tailA (a : Option Addr) (c k : Nat) : Option Addr := if c = k then a else a.map (·.add (k * 2))
theorem slice_tail (a : Option Addr) (n c k : Nat) (hk : k ≤ n) (w : World) : (Instr.slice 29 (.slice a n c) (some (.int .i64 (k : Int))) none none).run Try.prog w = .ok (.slice (tailA a c k) (n - k) (c - k)) w := by
  rw [run_slice_l w 29 a n c und29 .i64 (k : Int) (by omega) (by omega), elem29, size36]
  simp only [Result.andThen, sliced, Int.toNat_natCast, tailA]

theorem StrAt.take {w : World} {a : Option Addr} {l : List ByteArray} (h : StrAt w a l) (k : Nat) : StrAt w a (l.take k) := by
  intro j x hj
  rw [List.getElem?_take] at hj
  split at hj
  · exact h j x hj
  · cases hj

theorem StrAt.tail {w : World} {a : Option Addr} {l : List ByteArray} {n c k : Nat} (h : StrAt w a l) (hn : 2 * n = l.length) (hc : n ≤ c) : StrAt w (tailA a c k) (l.drop (2 * k)) := by
  intro j x hj
  rw [List.getElem?_drop] at hj
  have hl := (List.getElem?_eq_some_iff.1 hj).1
  obtain ⟨b, off, rfl, hcell⟩ := h (2 * k + j) x hj
  refine ⟨b, off + k * 2, ?_, ?_⟩
  · unfold tailA
    rw [if_neg (by omega), Option.map_some, add_off]
  · have e : off + k * 2 + j = off + (2 * k + j) := by omega
    rw [e]; exact hcell

/-- What 'want' holds behind i names of suf. -/
def wantL (A B : List ByteArray) (i : Nat) : List ByteArray := A ++ notIn A (B.take i)
theorem wantL_zero (A B : List ByteArray) : wantL A B 0 = A := by simp [wantL, notIn]
theorem wantL_old {A B : List ByteArray} {i : Nat} {z : ByteArray} (hz : B[i]? = some z) (h : z ∈ A) : wantL A B (i + 1) = wantL A B i := by
  have hl := (List.getElem?_eq_some_iff.1 hz).1
  have e : B.getD i ByteArray.empty = z := by simp [List.getD, hz]
  unfold wantL
  rw [notIn_succ A B i hl, e, inB_true h, if_pos rfl]
theorem wantL_new {A B : List ByteArray} {i : Nat} {z : ByteArray} (hz : B[i]? = some z) (h : ¬ z ∈ A) : wantL A B (i + 1) = wantL A B i ++ [z] := by
  have hl := (List.getElem?_eq_some_iff.1 hz).1
  have e : B.getD i ByteArray.empty = z := by simp [List.getD, hz]
  unfold wantL
  rw [notIn_succ A B i hl, e, inB_false h, List.append_assoc]
  rfl
theorem wantL_le (A B : List ByteArray) (i : Nat) : (wantL A B i).length ≤ A.length + B.length := by
  unfold wantL notIn
  rw [List.length_append]
  have := List.length_filter_le (fun x => !(inB x A)) (B.take i)
  rw [List.length_take] at this
  omega
theorem wantL_all (ns : List ByteArray) (k : Nat) : wantL (ded (ns.take k)) (ded (ns.drop k)) (ded (ns.drop k)).length = ded ns := by
  unfold wantL
  rw [List.take_length, ← ded_append, List.take_append_drop]

theorem row_snoc {w : World} {base e m : Nat} {v : Value} {l l' : List ByteArray} {z : ByteArray} (h : w.ownsRow base e 1 v (m + 1) (l.map Value.string ++ [.string z])) (hm : m = l.length) (hl : l' = l ++ [z]) : w.ownsRow base e 1 v l'.length (l'.map Value.string) := by
  subst hm; subst hl
  simpa using h

theorem row_take {w : World} {base e k : Nat} {v : Value} {l : List ByteArray} {z : ByteArray} (h : w.ownsRow base e 1 v (k + 1) ((l.take k).map Value.string ++ [.string z])) (hz : l[k]? = some z) : w.ownsRow base e 1 v (k + 1) ((l.take (k + 1)).map Value.string) := by
  have e : (l.take (k + 1)).map Value.string = (l.take k).map Value.string ++ [.string z] := by rw [List.take_add_one, hz]; simp
  rw [e]; exact h
theorem row_start {w : World} {base e k : Nat} {v : Value} {A B : List ByteArray} (h : w.ownsRow base e 1 v k ((A.take k).map Value.string)) (hk : k = A.length) : w.ownsRow base e 1 v (wantL A B 0).length ((wantL A B 0).map Value.string) := by
  subst hk
  rw [wantL_zero]
  rw [List.take_length] at h
  exact h

theorem row_old {w : World} {base e : Nat} {v : Value} {l l' : List ByteArray} (h : w.ownsRow base e 1 v l.length (l.map Value.string)) (hl : l' = l) : w.ownsRow base e 1 v l'.length (l'.map Value.string) := by
  subst hl; exact h

set_option maxRecDepth 100000 in
set_option maxHeartbeats 4000000 in
theorem law4_small (ns : List ByteArray) (a : Option Addr) (n cap : Nat) (kk : Int) (w : World) (HN : Hid (2 * n = ns.length)) (hn : (n : Int) ≤ 4096) (HA : Hid (StrAt w a ns)) (HZ : Hid (∀ s ∈ ns, s.size ≤ maxLen)) (HE : Hid (a = none → n = 0 ∧ cap = 0)) :
    Calls Try.prog 4 #[.slice a n cap, .int .i64 kk] w fun e w' => e = .returned (.bool true) ∧ Below w.heap.size w w' := by
  obtain ⟨i0, hi, hz0, hz1, hz2⟩ := info_parts info9
  go_enter Try.func4, Try.ntmps4
  go_wp2_with fail
  refine (bytes11_any ns a cap n kk w HN (by omega) HA).mono ?_
  rintro e w0 ⟨⟨q, rfl⟩, hw0⟩
  obtain rfl := hw0.symm
  clear hw0
  have HB0 := hide (Below.refl w.heap.size w)
  cases q with
  | false =>
    go_wp2
    go_ret
    exact ⟨rfl, unhide HB0⟩
  | true =>
    go_wp2
    go_loopw [5, 6] (fun t i wr => ∃ (T : Int) (k : Nat), k ≤ n ∧ t = .int .i64 T ∧ i = .int .i64 (k : Int) ∧ Hid (Below w.heap.size w wr)) (fun _ i _ => n - (intOf i).toNat)
    case atStart => exact ⟨0, 0, Nat.zero_le _, rfl, rfl, HB0⟩
    case round =>
      obtain ⟨T, k, hk, rfl, rfl, HB⟩ := hrel
      by_cases hkn : k < n
      · obtain ⟨b, off, x, y, rfl, hc0, hc0', hx, hy⟩ := (unhide HA).pair k (by have := unhide HN; omega)
        have hc := cell_stays (unhide HB) hc0
        have hc' := cell_stays (unhide HB) hc0'
        have hki : (k : Int) < (n : Int) := by omega
        clear hc0 hc0' hx hy HA HZ HN HE
        go_wp2
        go_quiet (fail)
        go_wp2
        · go_ret
          exact ⟨rfl, below_drewN (unhide HB) _⟩
        · go_roundw
          case rel => exact ⟨_, k + 1, by omega, rfl, by go_num, hide (below_drewN (unhide HB) _)⟩
          case measure => simp [intOf]; omega
      · by_cases hneg : kk < 0
        · go_wp2
          go_ret
          exact ⟨rfl, unhide HB⟩
        · by_cases hbig : (n : Int) < kk
          · go_wp2
            go_ret
            exact ⟨rfl, unhide HB⟩
          · obtain ⟨K, rfl⟩ : ∃ K : Nat, kk = (K : Int) := ⟨kk.toNat, by omega⟩
            have hKn : K ≤ n := by omega
            go_wp2_with fail
            clear hk hkn hneg hbig
            refine (toF_room ns a n cap wr HN hn (hide ((unhide HA).stays (unhide HB))) HE).mono ?_
            rintro e w1 ⟨a1, c1, rfl, hr1, hs1, hb1⟩
            have HS1 := hide hs1
            have HB1 := hide ((unhide HB).trans (hb1.mono (unhide HB).size))
            clear hs1 hb1 HB HE
            have hsl1 := slice_head a1 n c1 K (by omega)
            have hsl2 := slice_tail a1 n c1 K hKn
            obtain ⟨a2, ha2⟩ : ∃ a2, tailA a1 c1 K = a2 := ⟨_, rfl⟩
            rw [ha2] at hsl2
            obtain ⟨n2, hn2⟩ : ∃ n2, n - K = n2 := ⟨_, rfl⟩
            obtain ⟨c2, hc2⟩ : ∃ c2, c1 - K = c2 := ⟨_, rfl⟩
            rw [hn2, hc2] at hsl2
            have hn2' : (n2 : Int) ≤ 4096 := by omega
            have hK' : (K : Int) ≤ 4096 := by omega
            have HNA : Hid (2 * K = (ns.take (2 * K)).length) := hide (by have := unhide HN; rw [List.length_take]; omega)
            have HNB : Hid (2 * n2 = (ns.drop (2 * K)).length) := hide (by have := unhide HN; rw [List.length_drop]; omega)
            have HZA : Hid (∀ s ∈ ns.take (2 * K), s.size ≤ maxLen) := hide (fun s hs => unhide HZ s (List.mem_of_mem_take hs))
            have HZB : Hid (∀ s ∈ ns.drop (2 * K), s.size ≤ maxLen) := hide (fun s hs => unhide HZ s (List.mem_of_mem_drop hs))
            have HA2 := hide ha2
            have HR1 := hide hr1
            clear hn2 hc2 ha2 hr1
            go_wp2_with fail
            refine (users_any ns a1 n c1 w1 HN hn HS1 HZ).mono ?_
            rintro e w2 ⟨a3, c3, rfl, hs3, hb2⟩
            obtain ⟨d, hd⟩ : ∃ d, d = (ded ns).length := ⟨_, rfl⟩
            rw [← hd]
            have hdl : (d : Int) ≤ 8192 := by have := ded_le ns; have := unhide HN; omega
            have HD := hide hd
            have HS12 := hide ((unhide HS1).stays hb2)
            have HS3 := hide hs3
            have HB2 := hide ((unhide HB1).trans (hb2.mono (unhide HB1).size))
            clear hs3 hb2 HB1 HS1 hd
            go_wp2_with fail
            refine (users_any (ns.take (2 * K)) a1 K c1 w2 HNA hK' (hide ((unhide HS12).take (2 * K))) HZA).mono ?_
            rintro e w3 ⟨a4, c4, rfl, hs4, hb3⟩
            obtain ⟨A, hA⟩ : ∃ A, A = ded (ns.take (2 * K)) := ⟨_, rfl⟩
            rw [← hA] at hs4 ⊢
            obtain ⟨d1, hd1⟩ : ∃ d1, d1 = A.length := ⟨_, rfl⟩
            rw [← hd1]
            have hd1l : (d1 : Int) ≤ 8192 := by have := ded_take_le ns (2 * K); rw [← hA] at this; omega
            have HD1 := hide hd1
            have HA1 := hide hA
            have HS13 := hide ((unhide HS12).stays hb3)
            have HS33 := hide ((unhide HS3).stays hb3)
            have HS4 := hide hs4
            have HB3 := hide ((unhide HB2).trans (hb3.mono (unhide HB2).size))
            clear hs4 hb3 HB2 HS12 HS3 hd1 hA
            go_wp2_with fail
            have HT : Hid (StrAt w3 a2 (ns.drop (2 * K))) := hide (by rw [← unhide HA2]; exact (unhide HS13).tail (unhide HN) (unhide HR1))
            refine (users_any (ns.drop (2 * K)) a2 n2 c2 w3 HNB hn2' HT HZB).mono ?_
            rintro e w4 ⟨a5, c5, rfl, hs5, hb4⟩
            obtain ⟨B, hB⟩ : ∃ B, B = ded (ns.drop (2 * K)) := ⟨_, rfl⟩
            rw [← hB] at hs5 ⊢
            obtain ⟨d2, hd2⟩ : ∃ d2, d2 = B.length := ⟨_, rfl⟩
            rw [← hd2]
            have hd2l : (d2 : Int) ≤ 8192 := by have h1 := ded_le (ns.drop (2 * K)); have := unhide HNB; rw [← hB] at h1; omega
            have HW : Hid (wantL A B d2 = ded ns) := hide (by rw [hd2, hB, unhide HA1]; exact wantL_all ns (2 * K))
            have HD2 := hide hd2
            have HS34 := hide ((unhide HS33).stays hb4)
            have HS44 := hide ((unhide HS4).stays hb4)
            have HS5 := hide hs5
            have HB4 := hide ((unhide HB3).trans (hb4.mono (unhide HB3).size))
            clear hs5 hb4 HB3 HS13 HS33 HS4 hd2 hB HT HA1 HA2 HR1 HNA HNB HZA HZB hsl1 hsl2 hKn
            go_wp2_with (first | (at_make; go_must (refine wpList_make_own _ rfl _ _ 26 rfl w4.heap.size 9 i0 (.string ByteArray.empty) 1 Try.underlying26 hi hz0 hz1 .i64 .i64 _ (d1 + d2) rfl rfl (by omega) (by rw [hz2]; omega) (by unfold maxLen; omega) (Nat.le_refl _) ?_; intro w5 hown5 hgrow5)) | go_in)
            have HO5 : Hid (w5.ownsRow w4.heap.size 9 1 (.slice (some ⟨w4.heap.size, 0, none⟩) 0 (d1 + d2)) 0 ((A.take 0).map Value.string)) := hide hown5
            have HB5 := hide ((Below.refl w4.heap.size w4).grown hgrow5 (Nat.le_refl _) (fun k hk => by cases hk))
            clear hown5 hgrow5
            go_loopw [11, 12] (fun v i wr => ∃ k : Nat, k ≤ d1 ∧ i = .int .i64 (k : Int) ∧ Hid (wr.ownsRow w4.heap.size 9 1 v k ((A.take k).map Value.string)) ∧ Hid (Below w4.heap.size w4 wr)) (fun _ i _ => d1 - (intOf i).toNat)
            case atStart => exact ⟨0, Nat.zero_le _, rfl, HO5, HB5⟩
            case round =>
              obtain ⟨k, hk, rfl, HO, HBr⟩ := hrel
              by_cases hkd : k < d1
              · obtain ⟨b, off, z, rfl, hc, hz⟩ := ((unhide HS44).stays (unhide HBr)).atx k (by have := unhide HD1; omega)
                have HZN := hide hz
                clear hz
                go_wp2_with (first
                  | (at_builtin; go_must (refine wpList_append_own _ rfl (.tmp 78) (.tmp 83) 26 rfl w4.heap.size 9 i0 (.string ByteArray.empty) 1 16 Try.underlying26 hi hz0 hz1 hz2 rfl (by decide) _ _ _ rfl ((unhide HO).alloc _) ⟨wr.heap.size, 0, none⟩ 1 1 [.string z] rfl rfl (cell_one_new _ _ _) (strs_oneCell [z]) (by unfold maxLen; omega) (by omega) (by have := (unhide HBr).size; simp; omega) ?_; intro v6 w6 hown6 hgrow6 hnil6))
                  | go_in)
                have HO6 := hide (row_take hown6 (unhide HZN))
                have HB6 := hide (((unhide HBr).alloc (unhide HBr).size _).grown hgrow6 (by have := (unhide HBr).size; simp; omega) (fun j hj => ((unhide HO).lt j hj).1))
                clear hown6 hgrow6 hnil6
                go_roundw
                case rel => exact ⟨k + 1, by omega, by go_num, HO6, HB6⟩
                case measure => simp [intOf]; omega
              · go_wp2_with fail
                have HO0 := hide (row_start (B := B) (unhide HO) (by have := unhide HD1; omega))
                clear hk hkd HO HO5 HB5
                go_loopw [11, 13] (fun v i wr => ∃ k : Nat, k ≤ d2 ∧ i = .int .i64 (k : Int) ∧ Hid (wr.ownsRow w4.heap.size 9 1 v (wantL A B k).length ((wantL A B k).map Value.string)) ∧ Hid (Below w4.heap.size w4 wr)) (fun _ i _ => d2 - (intOf i).toNat)
                case atStart => exact ⟨0, Nat.zero_le _, rfl, HO0, HBr⟩
                case round =>
                  obtain ⟨k, hk, rfl, HO, HBr⟩ := hrel
                  by_cases hkd : k < d2
                  · obtain ⟨b, off, z, rfl, hc, hz⟩ := ((unhide HS5).stays (unhide HBr)).atx k (by have := unhide HD2; omega)
                    have HZN := hide hz
                    clear hz
                    have hwl := wantL_le A B k
                    rw [← unhide HD1, ← unhide HD2] at hwl
                    go_wp2_with fail
                    refine (contains_any A z a4 c4 d1 wr HD1 (by omega) (hide ((unhide HS44).stays (unhide HBr)))).mono ?_
                    rintro e w6 ⟨rfl, hw6⟩
                    obtain rfl := hw6.symm
                    clear hw6
                    by_cases hin : z ∈ A
                    · rw [inB_true hin]
                      have HO' := hide (row_old (unhide HO) (wantL_old (unhide HZN) hin))
                      clear hin
                      go_wp2
                      go_roundw
                      case rel => exact ⟨k + 1, by omega, by go_num, HO', HBr⟩
                      case measure => simp [intOf]; omega
                    · rw [inB_false hin]
                      have HWN := hide (wantL_new (unhide HZN) hin)
                      clear hin
                      go_wp2_with (first
                        | (at_builtin; go_must (refine wpList_append_own _ rfl (.tmp 98) (.tmp 103) 26 rfl w4.heap.size 9 i0 (.string ByteArray.empty) 1 16 Try.underlying26 hi hz0 hz1 hz2 rfl (by decide) _ _ _ rfl ((unhide HO).alloc _) ⟨wr.heap.size, 0, none⟩ 1 1 [.string z] rfl rfl (cell_one_new _ _ _) (strs_oneCell [z]) (by unfold maxLen; omega) (by omega) (by have := (unhide HBr).size; simp; omega) ?_; intro v6 w6 hown6 hgrow6 hnil6))
                        | go_in)
                      have HO6 := hide (row_snoc hown6 rfl (unhide HWN))
                      have HB6 := hide (((unhide HBr).alloc (unhide HBr).size _).grown hgrow6 (by have := (unhide HBr).size; simp; omega) (fun j hj => ((unhide HO).lt j hj).1))
                      clear hown6 hgrow6 hnil6
                      go_roundw
                      case rel => exact ⟨k + 1, by omega, by go_num, HO6, HB6⟩
                      case measure => simp [intOf]; omega
                  · have hkk : k = d2 := by omega
                    have hO := row_old (unhide HO) ((unhide HW).symm.trans (by rw [hkk]))
                    rw [← unhide HD] at hO
                    obtain ⟨a6, c6, rfl⟩ := own_slice hO
                    have HS6 := hide (StrAt.of_own hO)
                    have HS36 := hide ((unhide HS34).stays (unhide HBr))
                    have HB6 := hide ((unhide HB4).trans ((unhide HBr).mono (unhide HB4).size))
                    clear hO hkk
                    go_wp2_with fail
                    clear hk hkd HO HO0 HS34 HS44 HS5 HB4
                    refine (same_any (ded ns) a3 a6 c3 c6 d wr HD (by omega) HS36 HS6).mono ?_
                    rintro e w7 ⟨rfl, m7, hw7⟩
                    have HB7 : Hid (Below w.heap.size w w7) := hide (by rw [hw7]; exact below_drewN (unhide HB6) _)
                    have HS7 : Hid (StrAt w7 a3 (ded ns)) := hide (by rw [hw7]; exact (unhide HS36).drew _)
                    have HA7 := hide ((unhide HA).stays (unhide HB7))
                    clear hw7 HS6 HS36 HB6 HA
                    go_wp2_with fail
                    go_loopw [14] (fun i wx => ∃ k : Nat, k ≤ n ∧ i = .int .i64 (k : Int) ∧ wx = w7) (fun i _ => n - (intOf i).toNat)
                    case atStart => exact ⟨0, Nat.zero_le _, rfl, rfl⟩
                    case round =>
                      obtain ⟨k, hk, rfl, hw⟩ := hrel
                      obtain rfl := hw.symm
                      clear hw
                      by_cases hkd : k < n
                      · obtain ⟨b, off, x, y, rfl, hc, hc', hx, hy⟩ := (unhide HA7).pair k (by have := unhide HN; omega)
                        have hix : x ∈ ded ns := (mem_ded ns x).2 (List.mem_of_getElem? hx)
                        have hiy : y ∈ ded ns := (mem_ded ns y).2 (List.mem_of_getElem? hy)
                        have HIX := hide (inB_true hix)
                        have HIY := hide (inB_true hiy)
                        clear hx hy hix hiy
                        go_wp2_with fail
                        refine (contains_any (ded ns) x a3 c3 d w7 HD (by omega) HS7).mono ?_
                        rintro e w8 ⟨rfl, hw8⟩
                        obtain rfl := hw8.symm
                        clear hw8
                        rw [unhide HIX]
                        go_wp2_with fail
                        refine (contains_any (ded ns) y a3 c3 d w7 HD (by omega) HS7).mono ?_
                        rintro e w8 ⟨rfl, hw8⟩
                        obtain rfl := hw8.symm
                        clear hw8
                        rw [unhide HIY]
                        go_wp2
                        go_roundw
                        case rel => exact ⟨k + 1, by omega, by go_num, trivial⟩
                        case measure => simp [intOf]; omega
                      · go_wp2
                        go_ret
                        exact ⟨rfl, unhide HB7⟩

set_option maxRecDepth 100000 in
set_option maxHeartbeats 1000000 in
theorem law4_big (ns : List ByteArray) (a : Option Addr) (n cap : Nat) (kk : Int) (w : World) (HN : Hid (2 * n = ns.length)) (hn : 4096 < (n : Int)) (hm : (n : Int) ≤ 9223372036854775807) (HA : Hid (StrAt w a ns)) :
    Calls Try.prog 4 #[.slice a n cap, .int .i64 kk] w fun e w' => e = .returned (.bool true) ∧ Below w.heap.size w w' := by
  go_enter Try.func4, Try.ntmps4
  go_wp2_with fail
  refine (bytes11_any ns a cap n kk w HN hm HA).mono ?_
  rintro e w0 ⟨⟨q, rfl⟩, hw0⟩
  obtain rfl := hw0.symm
  clear hw0
  have HB0 := hide (Below.refl w.heap.size w)
  cases q with
  | false =>
    go_wp2
    go_ret
    exact ⟨rfl, unhide HB0⟩
  | true =>
    go_wp2
    go_ret
    exact ⟨rfl, unhide HB0⟩

end Go.Proofs.Qxb6634908a
