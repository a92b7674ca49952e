/-
  Seat b6604712a: cloneVote, cloneVotes, clonePowers.
-/
import Derived.Test.Qxb6604712aLeaf
import Derived.Test.Qxb6604712aMem
import Derived.Deep.RegionHeld3
namespace Go.Proofs.Qxb6604712a
open Go.RowKit
set_option linter.unusedSimpArgs false
set_option linter.unusedVariables false
attribute [local go_sem ↓] exec_build43 exec_store43
attribute [local go_sem] ptrB ptrO isPtr oneAll Value.oneCell'

def SV (w : World) (x : VoteD) (w' : World) : Prop := w'.cell? ⟨w.heap.size, 0, none⟩ = some (.int .i64 x.frm) ∧ w'.cell? ⟨w.heap.size, 33, none⟩ = some x.ext ∧ w'.cell? ⟨w.heap.size, 34, none⟩ = some x.sig ∧ w'.rangeAt w.heap.size 1 (x.id.map (Value.int .u8)) ∧ w'.there (w.heap.size + 1) 0 35 ∧ Below w.heap.size w w'

theorem SV.below {w : World} {x : VoteD} {w1 w2 : World} (h : SV w x w1) (hb : Below w1.heap.size w1 w2) : SV w x w2 :=
  ⟨cell_below h.1 hb, cell_below h.2.1 hb, cell_below h.2.2.1 hb, rangeAt_below h.2.2.2.1 hb, there_below h.2.2.2.2.1 hb, below_then h.2.2.2.2.2 (Nat.le_refl _) hb⟩

theorem SV.store {w : World} {x : VoteD} {w1 : World} (h : SV w x w1) (o : Nat) (cs : List Value) : SV w x (w1.setCells (w.heap.size + 1) o cs) := by
  obtain ⟨h1, h2, h3, h4, h5, h6⟩ := h
  refine ⟨?_, ?_, ?_, World.rangeAt_setCells_apart h4 _ _ _ (.inl (by omega)), World.there_setCells h5 _ _ _, below_setCells' h6 (by omega) _ _⟩
  all_goals
    rw [World.cell?_setCells_out _ _ _ _ _ (fun h => by simp at h)]
    assumption

set_option maxRecDepth 100000 in
set_option maxHeartbeats 1600000 in
theorem cloneVote_any (x : VoteD) (bs1 bs2 : List Int) (w : World) (hid : x.id.length = 32) (h1 : bytesAt w x.ext bs1) (h2 : bytesAt w x.sig bs2) (hm1 : bs1.length ≤ 1048576) (hm2 : bs2.length ≤ 1048576) :
    Calls Try.prog 37 #[.agg x.cells.toArray] w fun e w' => ∃ e' s', e = .returned (.agg (VoteD.mk x.frm x.id e' s').cells.toArray) ∧ bytesAt w' e' bs1 ∧ bytesAt w' s' bs2 ∧ fromB w.heap.size e' ∧ fromB w.heap.size s' ∧ Below w.heap.size w w' := by
  have hu := Try.underlying40
  go_enter Try.func37, Try.ntmps37
  go_wp2
  generalize hW : (w.alloc (Obj.cells x.cells.toArray 43)).alloc _ = W
  have hb0 : Below w.heap.size w W := by rw [← hW]; exact ((Below.refl _ _).alloc (Nat.le_refl _) _).alloc (by simp) _
  have hB : W.heap[w.heap.size]? = some (.cells x.cells.toArray 43 (0, 0)) := by rw [← hW]; exact heap_alloc2_old _ _ _
  have hT : W.there (w.heap.size + 1) 0 35 := by
    rw [← hW]
    exact there_of_block (heap_alloc2_new _ _ _) 0 35 (by simp)
  have hsz : w.heap.size + 2 ≤ W.heap.size := by rw [← hW]; simp
  clear hW
  have c0 : W.cell? ⟨w.heap.size, 0, none⟩ = some (.int .i64 x.frm) := by rw [cell_of_block hB]; simp [VoteD.cells]
  have c33 : W.cell? ⟨w.heap.size, 33, none⟩ = some x.ext := by rw [cell_of_block hB]; exact VoteD.cells_33 hid
  have c34 : W.cell? ⟨w.heap.size, 34, none⟩ = some x.sig := by rw [cell_of_block hB]; exact VoteD.cells_34 hid
  have cid : W.rangeAt w.heap.size 1 (x.id.map (Value.int .u8)) := range_of_block hB 1 _ fun j v hv => by
    have hj := (List.getElem?_eq_some_iff.1 hv).1
    rw [VoteD.cells, Nat.add_comm 1 j, List.getElem?_cons_succ, List.getElem?_append_left hj]
    exact hv
  have hi : (Try.prog.info? 40).map (·.size) = some (x.id.map (Value.int .u8)).length := by rw [Try.size40]; simp [hid]
  clear hB
  go_region_held3 (fun w' => w'.cell? ⟨w.heap.size, 0, none⟩ = some (.int .i64 x.frm) ∧ w'.cell? ⟨w.heap.size, 33, none⟩ = some x.ext ∧ w'.cell? ⟨w.heap.size, 34, none⟩ = some x.sig ∧ w'.rangeAt w.heap.size 1 (x.id.map (Value.int .u8)) ∧ w'.there (w.heap.size + 1) 0 35 ∧ Below w.heap.size w w')
    (first | exact ⟨c0, c33, c34, cid, hT, hb0.drew⟩ | exact SV.below (x := x) (by assumption) hbel2 | exact SV.below (x := x) (by assumption) hbel1 | exact SV.store (x := x) (by assumption) _ _ | fail)
    (first | (go_at_call_of 45 (x.ext); refine (cloneBytes_any x.ext bs1 _ ?_ hm1).mono ?_; (go_split_ands; exact h1.below (by assumption)); rintro e w1 ⟨v1, rfl, hv1, hf1, hbel1⟩; obtain ⟨e1, n1, cp1, rfl⟩ := hv1.form) | (go_at_call_of 45 (x.sig); refine (cloneBytes_any x.sig bs2 _ ?_ hm2).mono ?_; (go_split_ands; exact h2.below (by assumption)); rintro e w2 ⟨v2, rfl, hv2, hf2, hbel2⟩; obtain ⟨e2, n2, cp2, rfl⟩ := hv2.form))
  go_wp2
  have hs1 : W.heap.size ≤ w1.heap.size := hbel1.size
  go_split_ands
  refine bodyPost_ret (results_cell_mid Try.results37 _ _ (w.heap.size + 1) 0 (VoteD.mk x.frm x.id (.slice e1 n1 cp1) (.slice e2 n2 cp2)).cells _ rfl ?_ Try.underlying43 rfl ?_) rfl ⟨.slice e1 n1 cp1, .slice e2 n2 cp2, rfl, ?_, ?_, ?_, ?_, ?_⟩
  · exact World.rangeAt_setCells_same _ _ _ _ (by simpa [hid] using there_below (there_below (show W.drew.there _ _ _ from hT) hbel1) hbel2)
  · rw [Try.size43]; simp [VoteD.cells, hid]
  · exact (hv1.below hbel2).setCells hf1 (by simp; omega) _ _
  · exact sliceAt.setCells hv2 hf2 (by omega) _ _
  · exact hf1.mono (by simp; omega)
  · exact hf2.mono (by omega)
  · assumption

end Go.Proofs.Qxb6604712a
