/-
  THE WALK over social.Users: the names in the order of their first occurrence.
-/
import Derived.Test.Qxb6634908aBase
namespace Go.Proofs.Qxb6634908a
open Go.RowKit Go.Maps

/-- Behind K names: the set and the row hold those that were met. -/
def UInv (w : World) (ns : List ByteArray) (K : Nat) (v : Value) (wr : World) : Prop :=
  wr.ownsMap Try.prog 9 trueElem w.heap.size K (setS (ded (ns.take K))) ∧ wr.ownsRow (w.heap.size + 1) 9 1 v (ded (ns.take K)).length ((ded (ns.take K)).map Value.string) ∧
    Below w.heap.size w wr ∧ w.heap.size + 1 ≤ wr.heap.size

/-- The literal of two names, from the j-th on. -/
def LitAt (w : World) (G : Nat) (x y : ByteArray) (j : Nat) (v : Value) (wx : World) : Prop :=
  (∀ i z, j ≤ i → [x, y][i]? = some z → wx.cell? ⟨G, i, none⟩ = some (.string z)) ∧ (j = 0 → some G ≠ v.ownBlock) ∧ G < wx.heap.size ∧ w.heap.size < G

theorem UInv.start (w : World) (ns : List ByteArray) : UInv w ns 0 (.slice none 0 0) (w.alloc (.map #[] 0)) := by
  refine ⟨?_, ?_, (Below.refl _ _).alloc (Nat.le_refl _) _, by simp⟩
  · rw [List.take_zero, ded_nil, setS_nil]; exact World.ownsMap_made _ _ _ _
  · rw [List.take_zero, ded_nil]; exact World.ownsRow_nil _ _ _ _

theorem UInv.alloc {w : World} {ns : List ByteArray} {K : Nat} {v : Value} {wr : World} (h : UInv w ns K v wr) (o : Obj) : UInv w ns K v (wr.alloc o) :=
  ⟨h.1.alloc _, h.2.1.alloc _, h.2.2.1.alloc (by have := h.2.2.2; omega) _, by have := h.2.2.2; simp; omega⟩

/-- A name that was met: nothing turns. -/
theorem UInv.old {w : World} {ns : List ByteArray} {K : Nat} {v : Value} {wr : World} {x : ByteArray} (h : UInv w ns K v wr) (hx : ns[K]? = some x) (hm : x ∈ ded (ns.take K)) : UInv w ns (K + 1) v wr := by
  have hK : K < ns.length := (List.getElem?_eq_some_iff.1 hx).1
  have e : ded (ns.take (K + 1)) = ded (ns.take K) := by
    rw [ded_take_succ ns K hK]
    have : ns.getD K ByteArray.empty = x := by simp [List.getD, hx]
    rw [this, addNew_old hm]
  unfold UInv
  rw [e]
  exact ⟨h.1.mono (Nat.le_succ _), h.2⟩

/-- A new one. -/
theorem UInv.new {w : World} {ns : List ByteArray} {K : Nat} {v v2 : Value} {wr w1 w2 : World} {x : ByteArray} {o : Obj} (h : UInv w ns K v wr) (hx : ns[K]? = some x) (hm : ¬ x ∈ ded (ns.take K))
    (hown1 : w1.ownsMap Try.prog 9 trueElem w.heap.size (K + 1) ((setS (ded (ns.take K))).put (keyS x) (.agg []))) (hgrow1 : wr.grownBy w1 (some w.heap.size))
    (hown2 : w2.ownsRow (w.heap.size + 1) 9 1 v2 ((ded (ns.take K)).length + 1) ((ded (ns.take K)).map Value.string ++ [.string x])) (hgrow2 : (w1.alloc o).grownBy w2 v.ownBlock) : UInv w ns (K + 1) v2 w2 := by
  have hK : K < ns.length := (List.getElem?_eq_some_iff.1 hx).1
  have e : ded (ns.take (K + 1)) = ded (ns.take K) ++ [x] := by
    rw [ded_take_succ ns K hK]
    have : ns.getD K ByteArray.empty = x := by simp [List.getD, hx]
    rw [this, addNew_new hm]
  have s1 := hgrow1.size
  have s2 := hgrow2.size
  have s3 := h.2.2.2
  simp at s1 s2
  unfold UInv
  rw [e, setS_snoc]
  refine ⟨(hown1.alloc _).kept hgrow2 (row_ne h.2.1 (Nat.lt_succ_self _)), by simpa using hown2, ?_, by omega⟩
  exact ((h.2.2.1.grown hgrow1 h.2.2.1.size (fun j hj => by cases hj; exact Nat.le_refl _)).alloc (by omega) _).grown hgrow2 (by simp; omega) (fun j hj => Nat.le_trans (Nat.le_succ _) (h.2.1.lt j hj).1)

theorem cell_grown {w w' : World} {row : Option Nat} (hg : w.grownBy w' row) {b off : Nat} (hb : b < w.heap.size) (hne : some b ≠ row) : w'.cell? ⟨b, off, none⟩ = w.cell? ⟨b, off, none⟩ := by
  unfold World.cell?
  rw [hg.block b hb hne]

theorem LitAt.old {w : World} {G j : Nat} {x y : ByteArray} {v : Value} {wx : World} (h : LitAt w G x y j v wx) : LitAt w G x y (j + 1) v wx :=
  ⟨fun i z hi hz => h.1 i z (by omega) hz, fun h0 => by omega, h.2.2⟩

theorem LitAt.new {w : World} {G j : Nat} {x y : ByteArray} {v v2 : Value} {wx w1 w2 : World} {o : Obj} (h : LitAt w G x y j v wx) (hgrow1 : wx.grownBy w1 (some w.heap.size)) (hgrow2 : (w1.alloc o).grownBy w2 v.ownBlock) : LitAt w G x y (j + 1) v2 w2 := by
  have s1 := hgrow1.size
  have s2 := hgrow2.size
  simp at s1 s2
  have hG := h.2.2.1
  have hGw := h.2.2.2
  refine ⟨fun i z hi hz => ?_, fun h0 => by omega, by omega, hGw⟩
  by_cases hj : j = 0
  · rw [cell_grown hgrow2 (by simp; omega) (h.2.1 hj)]
    have e1 : (w1.alloc o).cell? ⟨G, i, none⟩ = w1.cell? ⟨G, i, none⟩ := cell_grown (World.grownBy_alloc w1 o none) (by omega) (by simp)
    rw [e1, cell_grown hgrow1 hG (by simp; omega)]
    exact h.1 i z (by omega) hz
  · exfalso
    have : i < 2 := (List.getElem?_eq_some_iff.1 hz).1
    omega

theorem UInv.row_lt {w : World} {ns : List ByteArray} {K : Nat} {v : Value} {wr : World} (h : UInv w ns K v wr) : ∀ b, v.ownBlock = some b → b < wr.heap.size := fun b hb => (h.2.1.lt b hb).2

theorem name_at {ns : List ByteArray} {k : Nat} {x y : ByteArray} (hx : ns[2 * k]? = some x) (hy : ns[2 * k + 1]? = some y) : ∀ j z, [x, y][j]? = some z → ns[2 * k + j]? = some z := by
  intro j z h
  match j, h with
  | 0, h => simp at h; subst h; exact hx
  | 1, h => simp at h; subst h; exact hy

theorem sizes_at {ns : List ByteArray} {k : Nat} {x y : ByteArray} (hz : ∀ s ∈ ns, s.size ≤ maxLen) (hx : ns[2 * k]? = some x) (hy : ns[2 * k + 1]? = some y) : ∀ z ∈ [x, y], z.size ≤ maxLen := by
  intro z h
  simp at h
  rcases h with rfl | rfl
  · exact hz _ (List.mem_of_getElem? hx)
  · exact hz _ (List.mem_of_getElem? hy)

theorem pick_at {ns : List ByteArray} {k j : Nat} {x y : ByteArray} (h : ∀ j z, [x, y][j]? = some z → ns[2 * k + j]? = some z) (hs : ∀ z ∈ [x, y], z.size ≤ maxLen) (hj : j < 2) : ∃ z, [x, y][j]? = some z ∧ ns[2 * k + j]? = some z ∧ z.size ≤ maxLen := by
  have e : [x, y][j]? = some ([x, y][j]'hj) := List.getElem?_eq_getElem hj
  exact ⟨_, e, h j _ e, hs _ (List.getElem_mem _)⟩

theorem new_block (w : World) (o : Obj) : (w.alloc o).heap[w.heap.size]? = some o := by
  show (w.heap.push o)[w.heap.size]? = some o
  simp

theorem lit_start (w wr : World) (x y : ByteArray) {v : Value} (hv : ∀ b, v.ownBlock = some b → b < wr.heap.size) (hw : w.heap.size + 1 ≤ wr.heap.size) :
    LitAt w (wr.heap.size + 1) x y 0 v ((wr.alloc (.cells #[.string x, .string y] 36)).alloc (.cells #[.string x, .string y] 9)) := by
  refine ⟨fun i z _ hz => ?_, fun _ h => ?_, by simp, by omega⟩
  · have hl := new_block (wr.alloc (.cells #[.string x, .string y] 36)) (.cells #[.string x, .string y] 9)
    have hs : (wr.alloc (.cells #[.string x, .string y] 36)).heap.size = wr.heap.size + 1 := by simp
    rw [hs] at hl
    rw [cell_of_row _ _ i _ _ _ hl]
    match i, hz with
    | 0, hz => simp at hz; subst hz; rfl
    | 1, hz => simp at hz; subst hz; rfl
  · have := hv _ h.symm
    omega

set_option maxRecDepth 100000 in
set_option maxHeartbeats 1000000 in
theorem users_any (ns : List ByteArray) (a : Option Addr) (n cap : Nat) (w : World) (HN : Hid (2 * n = ns.length)) (hn : (n : Int) ≤ 4096) (HA : Hid (StrAt w a ns)) (HZ : Hid (∀ s ∈ ns, s.size ≤ maxLen)) :
    Calls Try.prog 7 #[.slice a n cap] w fun e w' => ∃ a' cap', e = .returned (.slice a' (ded ns).length cap') ∧ StrAt w' a' (ded ns) ∧ Below w.heap.size w w' := by
  have hmm := @run_makeMap Try.prog
  obtain ⟨i0, hi, hz0, hz1, hz2⟩ := info_parts info9
  go_enter Try.func7, Try.ntmps7
  go_wp2
  go_loopw [4, 12] (fun v i wr => ∃ k : Nat, k ≤ n ∧ i = .int .i64 (k : Int) ∧ Hid (UInv w ns (2 * k) v wr)) (fun _ i _ => n - (intOf i).toNat)
  case atStart => exact ⟨0, Nat.zero_le _, rfl, hide (UInv.start w ns)⟩
  case round =>
    obtain ⟨k, hk, rfl, HU⟩ := hrel
    by_cases hkn : k < n
    · obtain ⟨b, off, x, y, rfl, hc0, hc0', hx, hy⟩ := (unhide HA).pair k (by have := unhide HN; omega)
      have hc := cell_stays (unhide HU).2.2.1 hc0
      have hc' := cell_stays (unhide HU).2.2.1 hc0'
      have HX := hide (name_at hx hy)
      have HS := hide (sizes_at (unhide HZ) hx hy)
      clear hc0 hc0' hx hy
      go_wp2
      have HU2 := hide (((unhide HU).alloc (.cells #[.string x, .string y] 36)).alloc (.cells #[.string x, .string y] 9))
      have HL2 := hide (lit_start w wr x y (fun b hb => (UInv.row_lt (unhide HU) b hb)) (unhide HU).2.2.2)
      clear hc hc' HU
      go_loopw [4, 22] (fun v i wx => ∃ j : Nat, j ≤ 2 ∧ i = .int .i64 (j : Int) ∧ Hid (UInv w ns (2 * k + j) v wx) ∧ Hid (LitAt w (wr.heap.size + 1) x y j v wx)) (fun _ i _ => 2 - (intOf i).toNat)
      case atStart => exact ⟨0, by omega, rfl, HU2, HL2⟩
      case round =>
        obtain ⟨j, hj, rfl, HV, HL⟩ := hrel
        by_cases hj2 : j < 2
        · obtain ⟨z, hz, hzn, hzs⟩ := pick_at (unhide HX) (unhide HS) hj2
          have hcz := (unhide HL).1 j z (Nat.le_refl _) hz
          have hkey : keyOf Try.prog 9 (.string z) = some (keyS z) := Go.WideMaps.keyOf_string_mk Try.underlying9 hzs
          have hdl := ded_take_le ns (2 * k + j)
          have HZN := hide hzn
          clear hz hzn hzs HX HS HZ HA HN
          by_cases hm : z ∈ ded (ns.take (2 * k + j))
          · have hq : Maps.has (setS (ded (ns.take (2 * k + j)))) (keyS z) = true := by rw [has_setS]; exact inB_true hm
            have HM := hide hm
            clear hm
            go_wp2_with (first
              | (at_lookup; refine wpList_lookup_true _ rfl _ _ 35 rfl 9 4 law9 Try.underlying35 (zero4 _) w.heap.size (2 * k + j) _ rfl (unhide HV).1 _ _ rfl hkey true hq ?_)
              | go_in)
            have HV' := hide ((unhide HV).old (unhide HZN) (unhide HM))
            have HL' := hide (unhide HL).old
            go_roundw
            case rel => exact ⟨j + 1, by omega, by go_num, HV', HL'⟩
            case measure => simp [intOf]; omega
          · have hq : Maps.has (setS (ded (ns.take (2 * k + j)))) (keyS z) = false := by rw [has_setS]; exact inB_false hm
            have HM := hide hm
            clear hm
            go_wp2_with (first
              | (at_lookup; refine wpList_lookup_true _ rfl _ _ 35 rfl 9 4 law9 Try.underlying35 (zero4 _) w.heap.size (2 * k + j) _ rfl (unhide HV).1 _ _ rfl hkey false hq ?_)
              | (at_mapUpdate; refine wpList_mapUpdate_own _ rfl _ _ _ 35 rfl 9 4 law9 Try.underlying35 trueElem w.heap.size (2 * k + j) _ rfl (unhide HV).1 (by unfold maxLen; omega) _ _ _ rfl rfl hkey _ [] trueElem_mk ?_; intro w1 hown1 hgrow1)
              | (at_builtin; go_must (refine wpList_append_own _ rfl _ _ 26 rfl (w.heap.size + 1) 9 i0 (.string ByteArray.empty) 1 16 Try.underlying26 hi hz0 hz1 hz2 rfl (by decide) _ _ _ rfl (((unhide HV).2.1.kept hgrow1 (Or.inr (row_ne (unhide HV).2.1 (Nat.lt_succ_self _)).symm)).alloc _) ⟨w1.heap.size, 0, none⟩ 1 1 [.string z] rfl rfl (cell_one_new _ _ _) (strs_oneCell [z]) (by unfold maxLen; omega) (by omega) (by have := hgrow1.size; have := (unhide HV).2.2.2; simp; omega) ?_; intro v' w2 hown' hgrow2 hnil2))
              | go_in)
            have HV' := hide ((unhide HV).new (unhide HZN) (unhide HM) hown1 hgrow1 hown' hgrow2)
            have HL' := hide ((unhide HL).new (v2 := v') hgrow1 hgrow2)
            go_roundw
            case rel => exact ⟨j + 1, by omega, by go_num, HV', HL'⟩
            case measure => simp [intOf]; omega
        · have hj22 : j = 2 := by omega
          subst hj22
          go_wp2
          go_roundw
          case rel => exact ⟨k + 1, by omega, by go_num, HV⟩
          case measure => simp [intOf]; omega
    · go_wp2
      go_ret
      have hkk : 2 * k = ns.length := by have := unhide HN; omega
      have hf := unhide HU
      unfold UInv at hf
      rw [hkk, List.take_length] at hf
      obtain ⟨a', cap', rfl⟩ := own_slice hf.2.1
      exact ⟨a', cap', rfl, StrAt.of_own hf.2.1, hf.2.2.1⟩

end Go.Proofs.Qxb6634908a
