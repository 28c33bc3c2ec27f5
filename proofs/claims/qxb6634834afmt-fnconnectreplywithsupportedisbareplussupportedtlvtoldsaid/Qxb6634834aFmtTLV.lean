/-
  THE WALK over newTLV.
-/
import Derived.Test.Qxb6634834aFmtBase
namespace Go.Proofs.Qxb6634834aFmt
open Go.RowKit

set_option maxHeartbeats 400000 in
theorem tlv_core (typ : Int) (l : List Int) (b cap n q : Nat) (w : World) (HN : Hid (n = l.length)) (HQ : Hid (q = tw l)) (h1 : (n : Int) + 2 ≤ 4 * (q : Int)) (h2 : 4 * (q : Int) ≤ (n : Int) + 5) (ht : (q : Int) ≤ 255) (HB : Hid (BAt w b 0 l)) :
    Calls Tryf.prog 10 #[.int .u8 typ, .slice (some ⟨b, 0, none⟩) n cap] w fun e w' => ∃ g, e = .returned (.slice (some ⟨g, 0, none⟩) (4 * q) (4 * q)) ∧ BAt w' g 0 (tlvL typ l) ∧ Below w.heap.size w w' := by
  obtain ⟨i0, hi, hz0, hz1, hz2⟩ := info_parts info5
  have hqd : (2 + (n : Int) + 4 - 1) / 4 = (q : Int) := by omega
  go_enter Tryf.func10, Tryf.ntmps10
  go_wp2_with (first | (at_make; go_must (refine wpList_make_full _ rfl (.tmp 14) (.tmp 14) 22 rfl w.heap.size 5 i0 (.int .u8 0) 1 Tryf.underlying22 hi hz0 hz1 .i64 .i64 _ _ (4 * q) rfl rfl (by omega) (by omega) (by rw [hz2]; omega) (by unfold maxLen; omega) (Nat.le_refl _) ?_; intro w1 hown1 hgrow1; have ho := made_own hown1; have hs1 := ho.stored 0 (.int .u8 typ); have hs2 := hs1.1.stored 1 (.int .u8 (q : Int)); have hc0 : w1.cell? ⟨w.heap.size, 0, none⟩ = some (.int .u8 0) := (by rw [ho.cellAt 0 (by omega), List.getElem?_replicate, if_pos (by omega)]); have hc1 : w1.cell? ⟨w.heap.size, 1, none⟩ = some (.int .u8 0) := (by rw [ho.cellAt 1 (by omega), List.getElem?_replicate, if_pos (by omega)]); have hf0 := ho.frozenAt 0; have hf1 := ho.frozenAt 1; have hb1 : Below w.heap.size w ((w1.setCell ⟨w.heap.size, 0, none⟩ (.int .u8 typ)).setCell ⟨w.heap.size, 1, none⟩ (.int .u8 (q : Int))) := (((Below.refl _ w).grown hgrow1 (Nat.le_refl _) (fun k hk => by cases hk)).setCell (Nat.le_refl _) _).setCell (Nat.le_refl _) _; have hcp := copy_run (dLen := 4 * q - 2) (dCap := 4 * q - 2) (sLen := n) (sCap := cap) (off := 2) (own_full hs2.1) (unhide HN) (by omega) (fun j x hj => (add_off b 0 j).symm ▸ cell_stays hb1 (unhide HB j x hj)) (by rw [← unhide HN]; simp; omega) hb1 (Nat.le_refl _); obtain ⟨w2, hrun, hg2, hb2⟩ := hcp; have HG2 := hide hg2; have HB2 := hide hb2; clear hown1 hgrow1 ho hs1 hs2 hg2 hb2 hb1)) | (go_at_call 99; fail))
  go_ret
  refine ⟨w.heap.size, rfl, ?_, unhide HB2⟩
  exact BAt.of_block (unhide HG2) (splice_tlv typ l q (unhide HQ))

theorem tlv_any (typ : Int) (l : List Int) (b cap : Nat) (w : World) (ht : tw l ≤ 255) (hb : BAt w b 0 l) :
    Calls Tryf.prog 10 #[.int .u8 typ, .slice (some ⟨b, 0, none⟩) l.length cap] w fun e w' => ∃ g, e = .returned (.slice (some ⟨g, 0, none⟩) (4 * tw l) (4 * tw l)) ∧ BAt w' g 0 (tlvL typ l) ∧ Below w.heap.size w w' := by
  have h1 := tw_ge l
  have h2 := tw_le l
  exact tlv_core typ l b cap l.length (tw l) w rfl rfl (by omega) (by omega) (by omega) hb

end Go.Proofs.Qxb6634834aFmt
