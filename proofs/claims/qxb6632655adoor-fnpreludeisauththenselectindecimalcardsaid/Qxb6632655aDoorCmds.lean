/-
  A LIST OF COMMANDS IN MEMORY: what prelude hands back, said of cells.
-/
import Derived.Test.Qxb6632655aDoorRows
import Derived.Test.Qxb6632655aDoorShelf
import Derived.Lib.AppendIntMem
import Derived.WalkKit
import Derived.WalkSpells
import Derived.WalkLawsBesides
namespace Go.Proofs.Qxb6632655aDoor
open Go.RowKit

theorem hide {p : Prop} (h : p) : Hid p := h
theorem unhide {p : Prop} (h : Hid p) : p := h

/-- The value u is a slice of the strings c. -/
def CmdAt (w : World) (u : Value) (c : List ByteArray) : Prop :=
  ∃ b cap, u = .slice (some ⟨b, 0, none⟩) c.length cap ∧ ∀ j s, c[j]? = some s → w.cell? ⟨b, j, none⟩ = some (.string s)

/-- The value v is a slice of the commands cs (nil where there is none). -/
def Cmds (w : World) (v : Value) (cs : List (List ByteArray)) : Prop :=
  (cs = [] ∧ v = .slice none 0 0) ∨
  ∃ g cap, cs ≠ [] ∧ v = .slice (some ⟨g, 0, none⟩) cs.length cap ∧ ∀ i c, cs[i]? = some c → ∃ u, w.cell? ⟨g, i, none⟩ = some u ∧ CmdAt w u c

theorem cell_stays {w w' : World} (hb : Below w.heap.size w w') {a : Addr} {v : Value} (h : w.cell? a = some v) : w'.cell? a = some v :=
  (hb.cell (World.block_lt_of_cell? w a h)).trans h

theorem CmdAt.stays {w w' : World} (hb : Below w.heap.size w w') {u : Value} {c : List ByteArray} (h : CmdAt w u c) : CmdAt w' u c := by
  obtain ⟨b, cap, hu, hc⟩ := h
  exact ⟨b, cap, hu, fun j s hj => cell_stays hb (hc j s hj)⟩

theorem Cmds.stays {w w' : World} (hb : Below w.heap.size w w') {v : Value} {cs : List (List ByteArray)} (h : Cmds w v cs) : Cmds w' v cs := by
  rcases h with h | ⟨g, cap, hne, hv, hc⟩
  · exact .inl h
  · refine .inr ⟨g, cap, hne, hv, fun i c hi => ?_⟩
    obtain ⟨u, hu, hcu⟩ := hc i c hi
    exact ⟨u, cell_stays hb hu, hcu.stays hb⟩

theorem Cmds.nil (w : World) : Cmds w (.slice none 0 0) [] := .inl ⟨rfl, rfl⟩

/-- From an owned row of slices. -/
theorem Cmds.of_own {w : World} {base e : Nat} {v : Value} {us : List Value} {cs : List (List ByteArray)} (hne : cs ≠ [])
    (h : w.ownsRow base e 1 v cs.length us) (hc : ∀ (i : Nat) c, cs[i]? = some c → ∃ u, us[i]? = some u ∧ CmdAt w u c) : Cmds w v cs := by
  have hl : cs.length ≠ 0 := fun e => hne (List.length_eq_zero_iff.1 e)
  rcases h.2 with ⟨_, h0⟩ | ⟨g, cap, cur, rfl, hb, hg, hcap, hm, hs, ht⟩
  · exact absurd h0 hl
  · refine .inr ⟨g, cap, hne, rfl, fun i c hi => ?_⟩
    obtain ⟨u, hu, hcu⟩ := hc i c hi
    refine ⟨u, ?_, hcu⟩
    have hi' : i < cs.length := (List.getElem?_eq_some_iff.1 hi).1
    rw [World.ownsRow.cellAt h i (by omega), hu]

def authB : ByteArray := ⟨#[65, 85, 84, 72]⟩
def selB : ByteArray := ⟨#[83, 69, 76, 69, 67, 84]⟩
def emptyB : ByteArray := ⟨#[]⟩
/-- strconv.Itoa's text. -/
def numB (n : Int) : ByteArray := ⟨(Lib.itoa n).toArray⟩

/-- The commands of the credentials. -/
def authCmds (user pw : ByteArray) : List (List ByteArray) :=
  if user.toList == [] then (if pw.toList == [] then [] else [[authB, pw]]) else [[authB, user, pw]]
/-- The commands of the database. -/
def selCmds (db : Int) : List (List ByteArray) := if db == 0 then [] else [[selB, numB db]]

abbrev Tab (w : World) : Prop := Lib.TabBelow Tryd.prog w.heap.size w Tryd.powName .u64 Lib.pow10Tab

theorem Tab.later {w w' : World} (h : Tab w) (hb : Below w.heap.size w w') : Tab w' :=
  fun w2 h2 => h w2 (hb.trans (h2.mono hb.size))

theorem info28 : (Tryd.prog.info? 28).map (fun i => (i.zero, i.size, i.bytes)) = some (some (.slice none 0 0), 1, 24) := by kernel_rfl

theorem one_new (W : World) (x : Value) (T n : Nat) (hn : n = W.heap.size) : ∀ (j : Nat) (u : Value), [x][j]? = some u → (W.alloc (.cells #[x] T)).cell? ((⟨n, 0, none⟩ : Addr).add j) = some u := by
  subst hn
  exact cell_one_new W x T

theorem below_grownBy {w w' : World} (h : Below w.heap.size w w') : w.grownBy w' none :=
  ⟨h.os, h.tape, h.output, h.size, fun k hk _ => h.block k hk⟩

theorem keep_none {W w1 : World} (hg : W.grownBy w1 none) {a : Addr} {v : Value} (h : W.cell? a = some v) : w1.cell? a = some v := hg.cell h (by simp)

/-- What the rows hold, command by command, each command's block below base. -/
def Rowed (w : World) (base : Nat) (us : List Value) (cs : List (List ByteArray)) : Prop :=
  ∀ (i : Nat) c, cs[i]? = some c → ∃ b, us[i]? = some (.slice (some ⟨b, 0, none⟩) c.length c.length) ∧ b < base ∧ ∀ (j : Nat) s, c[j]? = some s → w.cell? ⟨b, j, none⟩ = some (.string s)

theorem Rowed.nil (w : World) (base : Nat) : Rowed w base [] [] := by
  intro i c hi
  simp at hi

theorem Rowed.stays {w w' : World} {base : Nat} {us : List Value} {cs : List (List ByteArray)} (h : Rowed w base us cs) (hb : Below w.heap.size w w') : Rowed w' base us cs := by
  intro i c hi
  obtain ⟨b, hu, hlt, hc⟩ := h i c hi
  exact ⟨b, hu, hlt, fun j s hj => cell_stays hb (hc j s hj)⟩

/-- ONE COMMAND MORE, its strings in the block at the heap's end, the one-cell row of the variadic slice behind it. -/
theorem snoc_cells {W w3 : World} {base : Nat} {v1 : Value} {n : Nat} {us : List Value} {cs : List (List ByteArray)} {c : List ByteArray} {cells : Array Value} {o : Obj}
    (hown : W.ownsRow base 28 1 v1 n us) (hrow : Rowed W base us cs) (hn : us.length = cs.length) (hcells : cells.toList = c.map Value.string)
    (hg : ((W.alloc (.cells cells 9)).alloc o).grownBy w3 v1.ownBlock) :
    ∀ (i : Nat) c', (cs ++ [c])[i]? = some c' → ∃ b, (us ++ [Value.slice (some ⟨W.heap.size, 0, none⟩) c.length c.length])[i]? = some (.slice (some ⟨b, 0, none⟩) c'.length c'.length) ∧ (b < base ∨ b = W.heap.size) ∧
      ∀ (j : Nat) s, c'[j]? = some s → w3.cell? ⟨b, j, none⟩ = some (.string s) := by
  intro i c' hi
  have hlt := hown.lt
  rcases Nat.lt_or_ge i cs.length with h | h
  · rw [List.getElem?_append_left h] at hi
    obtain ⟨b, hu, hb, hc⟩ := hrow i c' hi
    refine ⟨b, by rw [List.getElem?_append_left (by omega)]; exact hu, .inl hb, fun j s hj => ?_⟩
    refine hg.cell ?_ ?_
    · exact cell_stays (((Below.refl _ W).alloc (Nat.le_refl _) _).alloc (by simp) _) (hc j s hj)
    · intro e
      have := (hlt b e.symm).1
      omega
  · rw [List.getElem?_append_right h] at hi
    have hi0 : i - cs.length = 0 := by
      rcases Nat.eq_zero_or_pos (i - cs.length) with h0 | h0
      · exact h0
      · rw [List.getElem?_eq_none (by simp; omega)] at hi
        cases hi
    rw [hi0] at hi
    simp at hi
    subst hi
    refine ⟨W.heap.size, by rw [List.getElem?_append_right (by omega), hn, hi0]; rfl, .inr rfl, fun j s hj => ?_⟩
    refine hg.cell ?_ ?_
    · have h1 : (W.alloc (.cells cells 9)).cell? ⟨W.heap.size, j, none⟩ = some (.string s) := by
        rw [World.cell?_alloc_at _ _ _ _ rfl, ← Array.getElem?_toList, hcells]
        simp [hj]
      exact cell_stays ((Below.refl _ _).alloc (Nat.le_refl _) _) h1
    · intro e
      have := (hlt W.heap.size e.symm).2
      omega

theorem snoc_cmds {W w3 : World} {base e : Nat} {v1 v2 : Value} {n : Nat} {us : List Value} {cs : List (List ByteArray)} {c : List ByteArray} {cells : Array Value} {o : Obj}
    (hown : W.ownsRow base 28 1 v1 n us) (hrow : Rowed W base us cs) (hn : us.length = cs.length) (hcells : cells.toList = c.map Value.string)
    (hg : ((W.alloc (.cells cells 9)).alloc o).grownBy w3 v1.ownBlock)
    {g m : Nat} (hgs : g = W.heap.size) (hm : m = c.length) (hown3 : w3.ownsRow base e 1 v2 (n + 1) (us ++ [Value.slice (some ⟨g, 0, none⟩) m m])) : Cmds w3 v2 (cs ++ [c]) := by
  subst hgs; subst hm
  have hn1 : n = cs.length := by have := hown.1; omega
  subst hn1
  refine Cmds.of_own (by simp) (by simpa using hown3) ?_
  intro i c' hi
  obtain ⟨b, hu, _, hc⟩ := snoc_cells hown hrow hn hcells hg i c' hi
  exact ⟨_, hu, b, _, rfl, hc⟩

theorem snoc_rowed {W w3 : World} {base : Nat} {v1 : Value} {n : Nat} {us : List Value} {cs : List (List ByteArray)} {c : List ByteArray} {cells : Array Value} {o : Obj}
    (hown : W.ownsRow base 28 1 v1 n us) (hrow : Rowed W base us cs) (hn : us.length = cs.length) (hcells : cells.toList = c.map Value.string)
    (hg : ((W.alloc (.cells cells 9)).alloc o).grownBy w3 v1.ownBlock) {g m : Nat} (hgs : g = W.heap.size) (hm : m = c.length) (hbase : g < base) :
    Rowed w3 base (us ++ [Value.slice (some ⟨g, 0, none⟩) m m]) (cs ++ [c]) := by
  subst hgs; subst hm
  intro i c' hi
  obtain ⟨b, hu, hb, hc⟩ := snoc_cells hown hrow hn hcells hg i c' hi
  exact ⟨b, hu, by omega, hc⟩

end Go.Proofs.Qxb6632655aDoor
