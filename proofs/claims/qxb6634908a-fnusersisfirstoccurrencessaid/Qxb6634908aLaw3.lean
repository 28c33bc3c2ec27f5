/-
  THE LAW FnUsersIsFirstOccurrences: its walk.
-/
import Derived.Test.Qxb6634908aSmall
import Derived.Test.Qxb6634908aZz
import Derived.Test.Qxb6634908aUsers
import Derived.Test.Qxb6634908aNames
import Derived.Test.Qxb6634908aToF
namespace Go.Proofs.Qxb6634908a
open Go.RowKit

theorem below_drewN {B : Nat} {a w : World} (h : Below B a w) (n : Nat) : Below B a (w.drewN n) := ⟨h.os, h.tape, h.output, h.size, h.block⟩

theorem toF_any (ns : List ByteArray) (a : Option Addr) (n cap : Nat) (w : World) (HN : Hid (2 * n = ns.length)) (hn : (n : Int) ≤ 4096) (HA : Hid (StrAt w a ns)) (HE : Hid (a = none → n = 0 ∧ cap = 0)) :
    Calls Try.prog 8 #[.slice a n cap] w fun e w' => ∃ a' cap', e = .returned (.slice a' n cap') ∧ StrAt w' a' ns ∧ Below w.heap.size w w' := by
  cases a with
  | none =>
    obtain ⟨rfl, rfl⟩ := unhide HE rfl
    refine (toF_nil w).mono ?_
    rintro e w' ⟨rfl, rfl⟩
    exact ⟨none, 0, rfl, unhide HA, Below.refl _ _⟩
  | some ad =>
    refine (toF_some ns ad n cap w HN hn HA).mono ?_
    rintro e w' ⟨g, c, rfl, _, h1, h2⟩
    exact ⟨_, c, rfl, h1, h2⟩

/-- What 'prev' holds ahead of name k. -/
def PrevIs (ns : List ByteArray) (k : Nat) (P : Int) : Prop := (k = 0 ∧ P = -1) ∨ ∃ (i q : Nat) (x : ByteArray), k = i + 1 ∧ P = (q : Int) ∧ (ded ns)[i]? = some x ∧ First ns x q

theorem prev_next {ns : List ByteArray} {k : Nat} {P r : Int} {z : ByteArray} (hp : PrevIs ns k P) (hz : (ded ns)[k]? = some z) (hr : IsIx ns z r) : P < r ∧ PrevIs ns (k + 1) r := by
  have hm : z ∈ ns := (mem_ded ns z).1 (List.mem_of_getElem? hz)
  rcases hr with ⟨_, h⟩ | ⟨q, rfl, hf⟩
  · exact absurd hm h
  · refine ⟨?_, .inr ⟨k, q, z, rfl, rfl, hz, hf⟩⟩
    rcases hp with ⟨_, rfl⟩ | ⟨i, p, x, rfl, rfl, hx, hfx⟩
    · omega
    · have := ded_step ns i x z hx hz hfx hf
      omega

theorem ded_le (ns : List ByteArray) : (ded ns).length ≤ ns.length := by
  have := ded_take_le ns ns.length
  rwa [List.take_length] at this

theorem StrAt.atx {w : World} {a : Option Addr} {l : List ByteArray} (h : StrAt w a l) (j : Nat) (hj : j < l.length) :
    ∃ b off z, a = some ⟨b, off, none⟩ ∧ w.cell? ⟨b, off + j, none⟩ = some (.string z) ∧ l[j]? = some z := by
  obtain ⟨b, off, ha, hc⟩ := h j l[j] (List.getElem?_eq_getElem hj)
  exact ⟨b, off, _, ha, hc, List.getElem?_eq_getElem hj⟩

set_option maxRecDepth 100000 in
set_option maxHeartbeats 1000000 in
theorem law3_small (ns : List ByteArray) (a : Option Addr) (n cap : Nat) (w : World) (HN : Hid (2 * n = ns.length)) (hn : (n : Int) ≤ 4096) (HA : Hid (StrAt w a ns)) (HZ : Hid (∀ s ∈ ns, s.size ≤ maxLen)) (HE : Hid (a = none → n = 0 ∧ cap = 0)) :
    Calls Try.prog 3 #[.slice a n cap] w fun e w' => e = .returned (.bool true) ∧ Below w.heap.size w w' := by
  go_enter Try.func3, Try.ntmps3
  go_wp2_with fail
  refine (bytes5_any ns a cap n w HN (by omega) HA).mono ?_
  rintro e w0 ⟨⟨q, rfl⟩, hw0⟩
  obtain rfl := hw0.symm
  clear hw0
  have HB0 := hide (Below.refl w.heap.size w)
  cases q with
  | false =>
    go_wp2
    go_ret
    exact ⟨rfl, unhide HB0⟩
  | true =>
    go_wp2
    go_loopw [3, 4] (fun t i wr => ∃ (T : Int) (k : Nat), k ≤ n ∧ t = .int .i64 T ∧ i = .int .i64 (k : Int) ∧ Hid (Below w.heap.size w wr)) (fun _ i _ => n - (intOf i).toNat)
    case atStart => exact ⟨0, 0, Nat.zero_le _, rfl, rfl, HB0⟩
    case round =>
      obtain ⟨T, k, hk, rfl, rfl, HB⟩ := hrel
      by_cases hkn : k < n
      · obtain ⟨b, off, x, y, rfl, hc0, hc0', hx, hy⟩ := (unhide HA).pair k (by have := unhide HN; omega)
        have hc := cell_stays (unhide HB) hc0
        have hc' := cell_stays (unhide HB) hc0'
        have hki : (k : Int) < (n : Int) := by omega
        clear hc0 hc0' hx hy HA HZ HN HE
        go_wp2
        go_quiet (fail)
        go_wp2
        · go_ret
          exact ⟨rfl, below_drewN (unhide HB) _⟩
        · go_roundw
          case rel => exact ⟨_, k + 1, by omega, rfl, by go_num, hide (below_drewN (unhide HB) _)⟩
          case measure => simp [intOf]; omega
      · go_wp2_with fail
        clear hk hkn
        refine (names_any ns a n cap wr HN hn (hide ((unhide HA).stays (unhide HB)))).mono ?_
        rintro e w1 ⟨a1, c1, rfl, hs1, hb1⟩
        obtain ⟨n2, hn2⟩ : ∃ n2, n2 = 2 * n := ⟨_, rfl⟩
        rw [← hn2]
        have hn2' : (n2 : Int) ≤ 8192 := by omega
        have HN2 : Hid (n2 = ns.length) := hide (by rw [hn2]; exact unhide HN)
        have HS1 := hide hs1
        have HB1 := hide ((unhide HB).trans (hb1.mono (unhide HB).size))
        clear hs1 hb1 HB hn2
        go_wp2_with fail
        refine (toF_any ns a n cap w1 HN hn (hide ((unhide HA).stays (unhide HB1))) HE).mono ?_
        rintro e w2 ⟨a2, c2, rfl, hs2, hb2⟩
        have HS12 := hide ((unhide HS1).stays hb2)
        have HS2 := hide hs2
        have HB2 := hide ((unhide HB1).trans (hb2.mono (unhide HB1).size))
        clear hs2 hb2 HB1 HS1
        go_wp2_with fail
        refine (users_any ns a2 n c2 w2 HN hn HS2 HZ).mono ?_
        rintro e w3 ⟨a3, c3, rfl, hs3, hb3⟩
        obtain ⟨d, hd⟩ : ∃ d, d = (ded ns).length := ⟨_, rfl⟩
        rw [← hd]
        have hdl : (d : Int) ≤ 8192 := by have := ded_le ns; have := unhide HN2; omega
        have HD := hide hd
        have HS13 := hide ((unhide HS12).stays hb3)
        have HS3 := hide hs3
        have HB3 := hide ((unhide HB2).trans (hb3.mono (unhide HB2).size))
        clear hs3 hb3 HB2 HS12 HS2 hd HA HE HZ HN
        go_wp2_with fail
        go_loopw [7, 8] (fun p i wr => ∃ (P : Int) (k : Nat), k ≤ d ∧ p = .int .i64 P ∧ i = .int .i64 (k : Int) ∧ Hid (PrevIs ns k P) ∧ wr = w3) (fun _ i _ => d - (intOf i).toNat)
        case atStart => exact ⟨-1, 0, Nat.zero_le _, rfl, rfl, hide (.inl ⟨rfl, rfl⟩), rfl⟩
        case round =>
          obtain ⟨P, k, hk, rfl, rfl, HP, hw⟩ := hrel
          obtain rfl := hw.symm
          clear hw
          by_cases hkd : k < d
          · obtain ⟨b, off, z, rfl, hc, hz⟩ := (unhide HS3).atx k (by have := unhide HD; omega)
            have HZ := hide hz
            clear hz
            go_wp2_with fail
            refine (firstIndex_any ns z a1 c1 n2 w3 HN2 (by omega) HS13).mono ?_
            rintro e w4 ⟨r, rfl, hr, hw4⟩
            obtain rfl := hw4.symm
            clear hw4
            obtain ⟨hlt, hpn⟩ := prev_next (unhide HP) (unhide HZ) hr
            have HPN := hide hpn
            clear hr hpn
            go_wp2
            go_roundw
            case rel => exact ⟨r, k + 1, by omega, rfl, by go_num, HPN, trivial⟩
            case measure => simp [intOf]; omega
          · go_wp2_with fail
            clear hk hkd HP
            go_loopw [10] (fun i wr => ∃ k : Nat, k ≤ n2 ∧ i = .int .i64 (k : Int) ∧ wr = w3) (fun i _ => n2 - (intOf i).toNat)
            case atStart => exact ⟨0, Nat.zero_le _, rfl, rfl⟩
            case round =>
              obtain ⟨k, hk, rfl, hw⟩ := hrel
              obtain rfl := hw.symm
              clear hw
              by_cases hkd : k < n2
              · obtain ⟨b, off, z, rfl, hc, hz⟩ := (unhide HS13).atx k (by have := unhide HN2; omega)
                have hin : z ∈ ded ns := (mem_ded ns z).2 (List.mem_of_getElem? hz)
                have HIN := hide hin
                clear hz hin
                go_wp2_with fail
                refine (contains_any (ded ns) z a3 c3 d w3 HD (by omega) HS3).mono ?_
                rintro e w4 ⟨rfl, hw4⟩
                obtain rfl := hw4.symm
                clear hw4
                rw [inB_true (unhide HIN)]
                go_wp2
                go_roundw
                case rel => exact ⟨k + 1, by omega, by go_num, trivial⟩
                case measure => simp [intOf]; omega
              · go_wp2
                go_ret
                exact ⟨rfl, unhide HB3⟩

set_option maxRecDepth 100000 in
set_option maxHeartbeats 1000000 in
theorem law3_big (ns : List ByteArray) (a : Option Addr) (n cap : Nat) (w : World) (HN : Hid (2 * n = ns.length)) (hn : 4096 < (n : Int)) (hm : (n : Int) ≤ 9223372036854775807) (HA : Hid (StrAt w a ns)) :
    Calls Try.prog 3 #[.slice a n cap] w fun e w' => e = .returned (.bool true) ∧ Below w.heap.size w w' := by
  go_enter Try.func3, Try.ntmps3
  go_wp2_with fail
  refine (bytes5_any ns a cap n w HN hm HA).mono ?_
  rintro e w0 ⟨⟨q, rfl⟩, hw0⟩
  obtain rfl := hw0.symm
  clear hw0
  have HB0 := hide (Below.refl w.heap.size w)
  cases q with
  | false =>
    go_wp2
    go_ret
    exact ⟨rfl, unhide HB0⟩
  | true =>
    go_wp2
    go_ret
    exact ⟨rfl, unhide HB0⟩

end Go.Proofs.Qxb6634908a
