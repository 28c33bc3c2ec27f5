/-
  STRINGS IN MEMORY, and a set by map[string]bool that the call makes.
-/
import Derived.Test.Qxb6634908aPlain
import Derived.WalkKit
import Derived.WalkSpells
import Derived.WalkLawsBesides
import Derived.Laws.AppendOwnNone
import Derived.Maps.OwnSet
import Derived.Maps.OwnOps
import Derived.Maps.AppendAt
import Derived.Deep.DeepMust
import Derived.Deep.QuietTactic
import Derived.BigQuiet
namespace Go.Proofs.Qxb6634908a
open Go.RowKit Go.Maps

theorem hide {p : Prop} (h : p) : Hid p := h
theorem unhide {p : Prop} (h : Hid p) : p := h

/-- The cells from the address on hold the strings l; a nil address: none. -/
def StrAt (w : World) (a : Option Addr) (l : List ByteArray) : Prop :=
  ∀ (j : Nat) x, l[j]? = some x → ∃ b off, a = some ⟨b, off, none⟩ ∧ w.cell? ⟨b, off + j, none⟩ = some (.string x)

theorem cell_stays {w w' : World} (hb : Below w.heap.size w w') {a : Addr} {v : Value} (h : w.cell? a = some v) : w'.cell? a = some v :=
  (hb.cell (World.block_lt_of_cell? w a h)).trans h

theorem StrAt.stays {w w' : World} {a : Option Addr} {l : List ByteArray} (h : StrAt w a l) (hb : Below w.heap.size w w') : StrAt w' a l := by
  intro j x hj
  obtain ⟨b, off, ha, hc⟩ := h j x hj
  exact ⟨b, off, ha, cell_stays hb hc⟩

theorem StrAt.nil (w : World) (a : Option Addr) : StrAt w a [] := fun j x hj => by simp at hj

theorem StrAt.drew {w : World} {a : Option Addr} {l : List ByteArray} (h : StrAt w a l) (n : Nat) : StrAt (w.drewN n) a l := by
  intro j x hj
  obtain ⟨b, off, ha, hc⟩ := h j x hj
  refine ⟨b, off, ha, ?_⟩
  rw [← hc]; unfold World.cell?; rw [(World.drewN_alike w n).1]

/-- At an index below the length: the address, and the cell. -/
theorem StrAt.at {w : World} {a : Option Addr} {l : List ByteArray} (h : StrAt w a l) (j : Nat) (hj : j < l.length) :
    ∃ b off, a = some ⟨b, off, none⟩ ∧ w.cell? ⟨b, off + j, none⟩ = some (.string (l.getD j ByteArray.empty)) := by
  obtain ⟨b, off, ha, hc⟩ := h j l[j] (List.getElem?_eq_getElem hj)
  refine ⟨b, off, ha, ?_⟩
  rw [hc]; simp [List.getD, List.getElem?_eq_getElem hj]

/-- The two names of pair k. -/
theorem StrAt.pair {w : World} {a : Option Addr} {l : List ByteArray} (h : StrAt w a l) (k : Nat) (hk : 2 * k + 1 < l.length) :
    ∃ b off x y, a = some ⟨b, off, none⟩ ∧ w.cell? ⟨b, off + k * 2, none⟩ = some (.string x) ∧ w.cell? ⟨b, off + k * 2 + 1, none⟩ = some (.string y) ∧ l[2 * k]? = some x ∧ l[2 * k + 1]? = some y := by
  obtain ⟨b, off, ha, hc⟩ := h (2 * k) l[2 * k] (List.getElem?_eq_getElem (by omega))
  obtain ⟨b', off', ha', hc'⟩ := h (2 * k + 1) l[2 * k + 1] (List.getElem?_eq_getElem hk)
  rw [ha] at ha'
  cases ha'
  refine ⟨b, off, _, _, ha, ?_, ?_, List.getElem?_eq_getElem (by omega), List.getElem?_eq_getElem hk⟩
  · rw [Nat.mul_comm k 2]; exact hc
  · rw [Nat.mul_comm k 2, Nat.add_assoc]; exact hc'

theorem StrAt.of_own {w : World} {base e n : Nat} {a : Option Addr} {cap : Nat} {l : List ByteArray} (h : w.ownsRow base e 1 (.slice a n cap) n (l.map Value.string)) : StrAt w a l := by
  intro j x hj
  have hlen := h.1
  have hjl : j < l.length := (List.getElem?_eq_some_iff.1 hj).1
  rcases h.2 with ⟨_, h0⟩ | ⟨g, cap', cur, hv, _⟩
  · subst h0; simp at hlen; subst hlen; simp at hjl
  · simp only [Value.slice.injEq] at hv
    obtain ⟨rfl, _, rfl⟩ := hv
    refine ⟨g, 0, rfl, ?_⟩
    rw [Nat.zero_add, World.ownsRow.cellAt h j (by simp at hlen; omega)]
    simp [hj]

theorem own_slice {w : World} {base e n : Nat} {v : Value} {xs : List Value} (h : w.ownsRow base e 1 v n xs) : ∃ a cap, v = .slice a n cap := by
  rcases h.2 with ⟨rfl, rfl⟩ | ⟨g, cap, cur, rfl, _⟩
  · exact ⟨none, 0, rfl⟩
  · exact ⟨_, cap, rfl⟩

theorem add_off (b off j : Nat) : (⟨b, off, none⟩ : Addr).add j = ⟨b, off + j, none⟩ := by
  unfold Addr.add; split <;> simp_all

theorem strs_oneCell (l : List ByteArray) : ∀ u ∈ l.map Value.string, u.oneCell' = true := by
  intro u hu
  obtain ⟨x, _, rfl⟩ := List.mem_map.1 hu
  rfl

theorem info9 : (Try.prog.info? 9).map (fun i => (i.zero, i.size, i.bytes)) = some (some (.string ByteArray.empty), 1, 16) := by kernel_rfl
theorem info36 : (Try.prog.info? 36).map (fun i => (i.zero, i.size, i.bytes)) = some (some (.agg #[.string ByteArray.empty, .string ByteArray.empty]), 2, 32) := by kernel_rfl
theorem zero4 (w : World) : (zeroValue 4).run Try.prog w = .ok (.bool false) w := by kernel_rfl

/-! ### The set -/

/-- The elements' reader: only true is ever stored. -/
def trueElem : Value → Option (DataW Unit × List MemPlace)
  | .bool true => some (.agg [], [])
  | _ => none
theorem trueElem_mk : trueElem (.bool true) = some (.agg [], []) := rfl
theorem trueElem_inv {v : Value} {z : DataW Unit × List MemPlace} (h : trueElem v = some z) : v = .bool true := by
  unfold trueElem at h
  split at h
  · rfl
  · cases h

theorem law9 : Keyed Try.prog 9 := string_keyed Try.underlying9

/-- 'm[k]' at a map[K]bool into which nothing but true was stored: is the key there? -/
theorem look_true {w : World} {t k e : TypeId} {b n : Nat} {D : DataW Unit} (h : w.ownsMap Try.prog k trueElem b n D) (K : Keyed Try.prog k) (ht : Try.prog.underlying t = some (.map k e))
    (hz : (zeroValue e).run Try.prog w = .ok (.bool false) w) {key : Value} {kl : Lit} (hkey : keyOf Try.prog k key = some kl) :
    (Instr.lookup t (.map (some b)) key false).run Try.prog w = .ok (.bool (Maps.has D kl)) w := by
  obtain ⟨es, clock, hb, F, _, rfl⟩ := h
  rcases Maps.fit_look false K ht hz hb F hkey with ⟨hrun, _, hat⟩ | ⟨e0, y, _, _, hrun, hRv, hat, _⟩
  · rw [Maps.has_false_of_atKey hat]; exact hrun
  · rw [Maps.has_true_of_atKey hat, ← trueElem_inv hRv]; exact hrun

/-- .. at the operation, for the walk. -/
theorem wpList_lookup_true (w : World) {ops : Array Oper} {rest : List Oper} {o : Oper} {a : Act} {Q : Exit → Act → World → Prop}
    (hg : o.guard = none) (m x : Operand) (t : TypeId) (hop : o.op = Op.lookup t m x false)
    (k e : TypeId) (K : Keyed Try.prog k) (ht : Try.prog.underlying t = some (.map k e)) (hz : (zeroValue e).run Try.prog w = .ok (.bool false) w) (b n : Nat) (D : DataW Unit)
    (hm : a.eval m = .map (some b)) (hown : w.ownsMap Try.prog k trueElem b n D) (key : Value) (kl : Lit) (hx : a.eval x = key) (hkey : keyOf Try.prog k key = some kl)
    (q : Bool) (hq : Maps.has D kl = q)
    (hK : wpList Try.prog ops Q rest (a.put o.dst (.bool q)) w) :
    wpList Try.prog ops Q (o :: rest) a w := by
  refine wpList_plain hg fun K' hK' => ?_
  have hrun := look_true hown K ht hz hkey
  rw [hq] at hrun
  unfold Oper.wp
  simp [execOp, hop, hm, hx, hrun, Result.andThen]
  exact hK' _ _ hK

def keyS (x : ByteArray) : Lit := .string x.data.toList
def setS (l : List ByteArray) : DataW Unit := setOf (.agg []) (l.map keyS)
theorem setS_nil : setS [] = .map [] := rfl
theorem setS_snoc (l : List ByteArray) (x : ByteArray) : setS (l ++ [x]) = (setS l).put (keyS x) (.agg []) := by
  unfold setS; rw [List.map_append, List.map_singleton, setOf_snoc]
theorem has_setS (l : List ByteArray) (x : ByteArray) : Maps.has (setS l) (keyS x) = inB x l := by
  unfold setS
  rw [has_setOf _ _ _ (fun y hy => by obtain ⟨_, _, rfl⟩ := List.mem_map.1 hy; trivial), List.any_map]
  rfl

theorem row_ne {w : World} {base : Nat} {e : TypeId} {size : Nat} {v : Value} {n : Nat} {xs : List Value} (h : w.ownsRow base e size v n xs) {b : Nat} (hb : b < base) : some b ≠ v.ownBlock := fun e1 => by
  have := (h.lt b e1.symm).1
  omega

end Go.Proofs.Qxb6634908a
