/-
  BYTES IN MEMORY, and the plain lists of the messages.
-/
import Derived.Test.Qxb6634834aFmtRows
import Derived.WalkKit
import Derived.WalkSpells
import Derived.WalkLawsBesides
import Derived.Laws.CopyOwn
import Derived.Laws.AppendOwnNone
import Derived.Deep.DeepMust
namespace Go.Proofs.Qxb6634834aFmt
open Go.RowKit

theorem hide {p : Prop} (h : p) : Hid p := h
theorem unhide {p : Prop} (h : Hid p) : p := h

/-- The cells of block b from off on hold the bytes l. -/
def BAt (w : World) (b off : Nat) (l : List Int) : Prop := ∀ (j : Nat) x, l[j]? = some x → w.cell? ⟨b, off + j, none⟩ = some (.int .u8 x)

theorem cell_stays {w w' : World} (hb : Below w.heap.size w w') {a : Addr} {v : Value} (h : w.cell? a = some v) : w'.cell? a = some v :=
  (hb.cell (World.block_lt_of_cell? w a h)).trans h

theorem BAt.stays {w w' : World} {b off : Nat} {l : List Int} (h : BAt w b off l) (hb : Below w.heap.size w w') : BAt w' b off l :=
  fun j x hj => cell_stays hb (h j x hj)

theorem BAt.nil (w : World) (b off : Nat) : BAt w b off [] := fun j x hj => by simp at hj

theorem BAt.of_block {w : World} {b t : Nat} {cs : List Value} {l : List Int} (h : w.heap[b]? = some (.cells cs.toArray t (0, 0))) (hc : cs = l.map (Value.int .u8)) : BAt w b 0 l := by
  intro j x hj
  rw [Nat.zero_add, cell_of_row w b j _ _ _ h, hc]
  simp [hj]

/-- The sub-row from k on. -/
theorem BAt.drop {w : World} {b off : Nat} {l : List Int} (h : BAt w b off l) (k : Nat) : BAt w b (off + k) (l.drop k) := by
  intro j x hj
  have := h (k + j) x (by rw [List.getElem?_drop] at hj; exact hj)
  rw [Nat.add_assoc]
  exact this
theorem BAt.take {w : World} {b off : Nat} {l : List Int} (h : BAt w b off l) (k : Nat) : BAt w b off (l.take k) := by
  intro j x hj
  refine h j x ?_
  rw [List.getElem?_take] at hj
  split at hj
  · exact hj
  · cases hj

/-- A slice that the call itself made, its length its capacity, is its whole block. -/
theorem own_full {w : World} {base e g n : Nat} {xs : List Value} (h : w.ownsRow base e 1 (.slice (some ⟨g, 0, none⟩) n n) n xs) : w.heap[g]? = some (.cells xs.toArray e (0, 0)) := by
  rcases h.2 with ⟨h', _⟩ | ⟨g', cap', cur, h', _, hg, _, _, hs, ht⟩
  · cases h'
  · simp only [Value.slice.injEq, Option.some.injEq, Addr.mk.injEq, and_true, true_and] at h'
    obtain ⟨rfl, rfl⟩ := h'
    rw [hg]
    have : cur = xs.toArray := by
      rw [← ht, List.take_of_length_le (by simp [hs])]
    rw [this]

theorem own_bat {w : World} {base e g n cap : Nat} {l : List Int} (h : w.ownsRow base e 1 (.slice (some ⟨g, 0, none⟩) n cap) n (l.map (Value.int .u8))) : BAt w g 0 l := by
  intro j x hj
  have hlen := h.1
  have hjl : j < l.length := (List.getElem?_eq_some_iff.1 hj).1
  rw [Nat.zero_add, World.ownsRow.cellAt h j (by simp at hlen; omega)]
  simp [hj]

theorem own_bat' {w : World} {base e g n cap : Nat} {xs : List Value} {l : List Int} (h : w.ownsRow base e 1 (.slice (some ⟨g, 0, none⟩) n cap) n xs) (hx : xs = l.map (Value.int .u8)) : BAt w g 0 l := by
  subst hx; exact own_bat h

theorem own_shape {w : World} {base e n : Nat} {v : Value} {xs : List Value} (h : w.ownsRow base e 1 v n xs) (hn : 0 < n) : ∃ g cap, v = .slice (some ⟨g, 0, none⟩) n cap ∧ base ≤ g ∧ g < w.heap.size ∧ n ≤ cap := by
  rcases h.2 with ⟨_, h0⟩ | ⟨g, cap, cur, rfl, hb, hg, hcap, _⟩
  · omega
  · exact ⟨g, cap, rfl, hb, (Array.getElem?_eq_some_iff.1 hg).1, hcap⟩

theorem info5 : (Tryf.prog.info? 5).map (fun i => (i.zero, i.size, i.bytes)) = some (some (.int .u8 0), 1, 1) := by kernel_rfl
theorem size5 : (Tryf.prog.info? 5).map (·.size) = some 1 := by kernel_rfl

theorem add_off (b off j : Nat) : (⟨b, off, none⟩ : Addr).add j = ⟨b, off + j, none⟩ := by
  unfold Addr.add; split <;> simp_all

theorem made_own {w : World} {base n : Nat} {v : Value} (h : w.ownsRow base 5 1 v n (madeCells (Value.int .u8 0).cells (n * 1)).toList) : w.ownsRow base 5 1 v n (List.replicate n (.int .u8 0)) := by
  have e : (madeCells (Value.int .u8 0).cells (n * 1)).toList = List.replicate n (.int .u8 0) := by
    rw [Nat.mul_one]; exact toList_madeCells_one _ _
  rw [e] at h; exact h

/-- The built-in copy into a row that is known whole. -/
theorem copy_run {W w0 : World} {B g off dLen dCap sLen sCap : Nat} {a : Addr} {cur : List Value} {l : List Int} (hg : W.heap[g]? = some (.cells cur.toArray 5 (0, 0))) (hl : sLen = l.length) (hle : sLen ≤ dLen)
    (hsrc : ∀ (j : Nat) x, l[j]? = some x → W.cell? (a.add j) = some (.int .u8 x)) (hfit : off + l.length ≤ cur.length) (hb : Below B w0 W) (hBg : B ≤ g) :
    ∃ w2, (Builtin.copy_ #[22, 22] 3 #[.slice (some ⟨g, off, none⟩) dLen dCap, .slice (some a) sLen sCap]).run Tryf.prog W = .ok (.int .i64 (sLen : Int)) w2 ∧
      w2.heap[g]? = some (.cells (splice cur off (l.map (Value.int .u8))).toArray 5 (0, 0)) ∧ Below B w0 w2 := by
  have key := run_copy_row (P := Tryf.prog) W 22 22 3 5 g off dLen dCap a sLen sCap cur.toArray 5 (l.map (Value.int .u8)) Tryf.underlying22 size5 hg
    (by rw [List.length_map, ← hl]; exact (Nat.min_eq_left hle).symm)
    (by
      intro j v hj
      rw [List.getElem?_map, Option.map_eq_some_iff] at hj
      obtain ⟨x, hx, rfl⟩ := hj
      exact hsrc j x hx)
    (by simpa using hfit) (ints_oneCell .u8 l)
  have e1 : (List.take off cur.toArray.toList ++ List.map (Value.int .u8) l ++ List.drop (off + (List.map (Value.int .u8) l).length) cur.toArray.toList) = splice cur off (l.map (Value.int .u8)) := by
    simp [splice]
  rw [e1] at key
  refine ⟨W.setRow g (splice cur off (l.map (Value.int .u8))).toArray, ?_, setRow_heap W g _ _ 5 _ hg, below_setRow hb hBg _⟩
  rw [key, List.length_map, ← hl]
  rfl

/-! ### The plain lists -/

/-- How many words a TLV of body l takes. -/
def tw (l : List Int) : Nat := (l.length + 5) / 4
/-- newTLV. -/
def tlvL (typ : Int) (l : List Int) : List Int := typ :: (tw l : Int) :: (l ++ List.replicate (4 * tw l - 2 - l.length) 0)

theorem tw_ge (l : List Int) : l.length + 2 ≤ 4 * tw l := by unfold tw; omega
theorem tw_le (l : List Int) : 4 * tw l ≤ l.length + 5 := by unfold tw; omega
theorem tlvL_length (typ : Int) (l : List Int) : (tlvL typ l).length = 4 * tw l := by
  have := tw_ge l
  simp [tlvL]; omega

theorem splice_tlv (typ : Int) (l : List Int) (q : Nat) (hq : q = tw l) :
    splice (((List.replicate (4 * q) (Value.int .u8 0)).set 0 (.int .u8 typ)).set 1 (.int .u8 (q : Int))) 2 (l.map (Value.int .u8)) = (tlvL typ l).map (Value.int .u8) := by
  subst hq
  have h1 := tw_ge l
  obtain ⟨k, hk⟩ : ∃ k, 4 * tw l = k + 2 := ⟨4 * tw l - 2, by omega⟩
  rw [hk, List.replicate_succ, List.replicate_succ]
  simp only [List.set_cons_zero, List.set_cons_succ, splice, tlvL, hk]
  simp
  rw [Nat.add_comm 2 l.length]
  simp

/-- ConnectReply without supported. -/
def bareL (O : List Int) : List Int := 1 :: (1 + (tw (0 :: 0 :: O) : Int)) :: 34 :: 99 :: tlvL 20 (0 :: 0 :: O)
/-- ConnectReply with supported. -/
def fullL (S O : List Int) : List Int := 1 :: (1 + (tw (0 :: 0 :: S) : Int) + (tw (0 :: 0 :: O) : Int)) :: 34 :: 99 :: (tlvL 21 (0 :: 0 :: S) ++ tlvL 20 (0 :: 0 :: O))

end Go.Proofs.Qxb6634834aFmt
