/-
  Seat b6604712a: refillBytes.
-/
import Derived.Test.Qxb6604712aClone5
namespace Go.Proofs.Qxb6604712a
open Go.RowKit
set_option linter.unusedSimpArgs false
set_option linter.unusedVariables false

set_option maxRecDepth 100000 in
set_option maxHeartbeats 2000000 in
theorem refillBytes_any (r : RefD) (bv bg : List Int) (vs1 vs2 : List VoteD) (ps1 ps2 : List PowD) (n : Int) (w : World) (hok : r.Ok w bv bg vs1 vs2 ps1 ps2)
    (hbv : bv.length ≤ 65536) (hbg : bg.length ≤ 65536) (hp1 : ps1.length ≤ 65536) (hp2 : ps2.length ≤ 65536) (hn0 : 0 ≤ n) (hn1 : n ≤ 4294967296) :
    Calls Try.prog 29 #[.agg r.cells.toArray, .int .i64 n] w fun e w' => (∃ z : Int, e = .returned (.int .i64 z) ∧ 0 ≤ z ∧ z ≤ n + 1073741824 ∧
      (z ≤ 1048576 → n ≤ 1048576 ∧ (∀ x ∈ vs1, lenV x.ext ≤ 1048576 ∧ lenV x.sig ≤ 1048576) ∧ (∀ x ∈ vs2, lenV x.ext ≤ 1048576 ∧ lenV x.sig ≤ 1048576))) ∧ Below w.heap.size w w' := by
  have hid := hok.id
  have e1 := RefD.g1 r
  have e35 := RefD.g35 hid
  have e41 := RefD.g41 hid
  have e42 := RefD.g42 hid
  have e43 := RefD.g43 hid
  have e44 := RefD.g44 hid
  obtain ⟨a1, q1, f1, _, _, _⟩ := hok.value
  obtain ⟨a4, q4, f4, _, _, _⟩ := hok.sig
  obtain ⟨a12, q12, f12, _, _, _⟩ := hok.pp.1
  obtain ⟨a13, q13, f13, _, _, _⟩ := hok.cp.1
  rw [f1] at e1
  rw [f4] at e35
  rw [f12] at e43
  rw [f13] at e44
  generalize bv.length = l1 at *
  generalize bg.length = l4 at *
  generalize ps1.length = l12 at *
  generalize ps2.length = l13 at *
  have HOK : Hid (r.Ok w bv bg vs1 vs2 ps1 ps2) := hok
  clear f1 f4 f12 f13 hok
  generalize hcs : r.cells = cs at *
  go_enter Try.func29, Try.ntmps29
  go_wp2
  generalize hW : w.alloc (Obj.cells cs.toArray 59) = W
  have hb0 : Below w.heap.size w W := by rw [← hW]; exact (Below.refl _ _).alloc (Nat.le_refl _) _
  have hB : W.heap[w.heap.size]? = some (.cells cs.toArray 59 (0, 0)) := by rw [← hW]; exact heap_alloc_new _ _
  clear hW
  have c41 : W.cell? ⟨w.heap.size, 41, none⟩ = some r.pv := by rw [cell_of_block hB]; exact e41
  have c42 : W.cell? ⟨w.heap.size, 42, none⟩ = some r.pc := by rw [cell_of_block hB]; exact e42
  clear hB e1 e35 e41 e42 e43 e44
  go_region_held3 (fun w' => w'.cell? ⟨w.heap.size, 41, none⟩ = some r.pv ∧ w'.cell? ⟨w.heap.size, 42, none⟩ = some r.pc)
    (first | exact ⟨c41, c42⟩ | fail)
    (first | (go_at_call_of 7 (r.pv); refine (votesBytes_any r.pv vs1 _ _ (HOK.out.pv.below hb0.drew) (by omega) (by omega)).mono ?_; rintro e w1 ⟨⟨z1, rfl, hz1, hz1', hz1s⟩, k1, rfl⟩) | (go_at_call_of 7 (r.pc); refine (votesBytes_any r.pc vs2 _ _ (by exact HOK.out.pc.below (hb0.trans (below_drewN _ _ _))) (by omega) (by omega)).mono ?_; rintro e w1 ⟨⟨z2, rfl, hz2, hz2', hz2s⟩, k2, rfl⟩))
  go_wp2
  go_ret
  refine ⟨⟨z2, rfl, hz2, by omega, fun h => ⟨by have := (hz1s (hz2s h).1).1; omega, (hz1s (hz2s h).1).2, (hz2s h).2⟩⟩, hb0.trans (by exact below_drewN _ _ _)⟩

end Go.Proofs.Qxb6604712a
