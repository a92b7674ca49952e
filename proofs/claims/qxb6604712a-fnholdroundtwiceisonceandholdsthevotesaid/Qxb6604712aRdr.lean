/-
  Seat b6604712a: ZZdroppedLen, ZZdroppedRound, ZZdroppedHas, ZZdroppedVote, voteIs.
-/
import Derived.Test.Qxb6604712aFvote
import Derived.Test.Qxb6604712aSame2
namespace Go.Proofs.Qxb6604712a
open Go.RowKit
set_option linter.unusedSimpArgs false
set_option linter.unusedVariables false

def HrD.vk (x : HrD) (k : Nat) : VoteD := if k = 1 then x.v1 else x.v0
def HrD.hk (x : HrD) (k : Nat) : Bool := if k = 1 then x.h1 else x.h0

set_option maxHeartbeats 1000000 in
theorem dlen_any (B g : Nat) (v : Value) (hs : List HrD) (w : World) (h : AH w B g v hs) :
    Calls Try.prog 22 #[.pointer (some ⟨g, 0, none⟩)] w fun e w' => e = .returned (.int .i64 hs.length) ∧ w' = w := by
  obtain ⟨a, cap, rfl⟩ := h.form
  have hc := h.cell
  go_enter Try.func22, Try.ntmps22
  go_wp2_with fail
  go_ret
  exact ⟨rfl, rfl⟩

set_option maxHeartbeats 1000000 in
theorem dround_any (B g i : Nat) (v : Value) (hs : List HrD) (x : HrD) (w : World) (h : AH w B g v hs) (hx : hs[i]? = some x) :
    Calls Try.prog 23 #[.pointer (some ⟨g, 0, none⟩), .int .i64 i] w fun e w' => e = .returned (.int .i64 x.rnd) ∧ w' = w := by
  have hi := (List.getElem?_eq_some_iff.1 hx).1
  obtain ⟨gr, cap, rfl, _, _⟩ := h.own.form (by omega)
  have hc := h.cell
  have c0 : w.cell? ⟨gr, i * 73, none⟩ = some (.int .i64 x.rnd) := owns_at h.own h.ids hx 0 _ (HrD.cells_0 x)
  have hi' : (i : Int) < (hs.length : Int) := by omega
  clear h hx
  go_enter Try.func23, Try.ntmps23
  go_wp2_with fail
  go_ret
  exact ⟨rfl, rfl⟩

set_option maxHeartbeats 1000000 in
theorem dhas_any (B g i k : Nat) (hk : k < 2) (v : Value) (hs : List HrD) (x : HrD) (w : World) (h : AH w B g v hs) (hx : hs[i]? = some x) :
    Calls Try.prog 24 #[.pointer (some ⟨g, 0, none⟩), .int .i64 i, .int .i64 k] w fun e w' => e = .returned (.bool (x.hk k)) ∧ w' = w := by
  have hi := (List.getElem?_eq_some_iff.1 hx).1
  obtain ⟨gr, cap, rfl, _, _⟩ := h.own.form (by omega)
  have hc := h.cell
  have hids := h.ids x (List.mem_of_getElem? hx)
  have c71 : w.cell? ⟨gr, i * 73 + 71, none⟩ = some (.bool x.h0) := owns_at h.own h.ids hx 71 _ (HrD.cells_71 hids)
  have c72 : w.cell? ⟨gr, i * 73 + 72, none⟩ = some (.bool x.h1) := owns_at h.own h.ids hx 72 _ (HrD.cells_72 hids)
  have hi' : (i : Int) < (hs.length : Int) := by omega
  clear h hx hids
  have hkk : k = 0 ∨ k = 1 := by omega
  rcases hkk with rfl | rfl
  · simp only [show ((0 : Nat) : Int) = 0 from rfl]
    go_enter Try.func24, Try.ntmps24
    go_wp2_with fail
    go_ret
    exact ⟨rfl, rfl⟩
  · simp only [show ((1 : Nat) : Int) = 1 from rfl]
    go_enter Try.func24, Try.ntmps24
    go_wp2_with fail
    go_ret
    exact ⟨rfl, rfl⟩

attribute [local go_sem ↓] exec_load88 exec_store88 exec_load40
attribute [local go_sem] ptrB ptrO isPtr

set_option maxRecDepth 100000 in
set_option maxHeartbeats 4000000 in
theorem dvote_any (B g i k : Nat) (hk : k < 2) (v : Value) (hs : List HrD) (x : HrD) (f : Int) (id : List Int) (e1 e2 : Option Addr) (n1 n2 q1 q2 : Nat) (w : World) (h : AH w B g v hs) (hx : hs[i]? = some x) (hv : x.vk k = ⟨f, id, .slice e1 n1 q1, .slice e2 n2 q2⟩) :
    Calls Try.prog 25 #[.pointer (some ⟨g, 0, none⟩), .int .i64 i, .int .i64 k] w fun e w' => e = .returned (.tuple #[.int .i64 f, .agg (id.map (Value.int .u8)).toArray, .slice e1 n1 q1, .slice e2 n2 q2]) ∧ Below w.heap.size w w' := by
  have hi := (List.getElem?_eq_some_iff.1 hx).1
  obtain ⟨gg, cap, rfl, _, _⟩ := h.own.form (by omega)
  have c := h.cell
  have hids := h.ids x (List.mem_of_getElem? hx)
  have hr := owns_at h.own h.ids hx
  have hi' : (i : Int) < (hs.length : Int) := by omega
  have hid : id.length = 32 := by
    have : (x.vk k).id.length = 32 := by unfold HrD.vk; split; exact hids.2; exact hids.1
    rw [hv] at this; exact this
  have hra : w.rangeAt gg (i * 73 + (if k = 1 then 36 else 1)) (VoteD.mk f id (.slice e1 n1 q1) (.slice e2 n2 q2)).cells := fun j u hu => by
    rw [← hv] at hu
    unfold HrD.vk at hu
    by_cases h1 : k = 1
    · rw [if_pos h1] at hu ⊢
      have := hr (36 + j) u (HrD.cells_v1 hids j u hu)
      rw [← Nat.add_assoc] at this; exact this
    · rw [if_neg h1] at hu ⊢
      have := hr (1 + j) u (HrD.cells_v0 hids j u hu)
      rw [← Nat.add_assoc] at this; exact this
  have hcl := VoteD.cells_len (x := ⟨f, id, .slice e1 n1 q1, .slice e2 n2 q2⟩) hid
  have hone := oneAll_vote ⟨f, id, .slice e1 n1 q1, .slice e2 n2 q2⟩ rfl rfl
  have hth : ∀ (ob : Obj) (z : Array Value), z.size = 35 → ((w.alloc ob).alloc (.cells z 88)).there (w.heap.size + 1) 0 35 := fun ob z hz => there_of_block (cur := z.toList) (heap_alloc2_new _ _ _) 0 35 (by simp [hz])
  have hc1 : ∀ ob, (w.alloc ob).cell? ⟨g, 3, none⟩ = some (.slice (some ⟨gg, 0, none⟩) hs.length cap) := fun ob => cell_alloc1 c ob
  have hu53 := Try.underlying53
  have hi53 : (Try.prog.info? 53).map (·.size) = some (id.map (Value.int .u8)).length := by rw [Try.size53]; simp [hid]
  have hone2 := oneAll_ids id
  have hle : (id.map (Value.int .u8)).length = 32 := by simp [hid]
  have hon2 : ∀ v ∈ id.map (Value.int .u8), v.oneCell' = true := fun v hv => by obtain ⟨_, _, rfl⟩ := List.mem_map.1 hv; rfl
  have hkk : k = 0 ∨ k = 1 := by omega
  rcases hkk with rfl | rfl
  · rw [if_neg (by decide)] at hra
    have hra1 : ∀ ob, (w.alloc ob).rangeAt gg (i * 73 + 1) (VoteD.mk f id (.slice e1 n1 q1) (.slice e2 n2 q2)).cells := fun ob => World.rangeAt_alloc hra ob
    have hrd := fun ob => rd_of_range (hra1 ob) hcl
    have hcr := fun ob => canRd_of_range (hra1 ob) hcl
    clear h hr hra hx hra1 hids hv
    simp only [show ((0 : Nat) : Int) = 0 from rfl]
    go_enter Try.func25, Try.ntmps25
    go_wp2_with fail
    generalize hW : World.setCells _ (w.heap.size + 1) 0 _ = W
    have hST : ST w ⟨f, id, .slice e1 n1 q1, .slice e2 n2 q2⟩ W := by
      rw [← hW]; exact ST_init w _ _ _ (by simp) (by simp) hid
    clear hW hrd hcr hc1 hth hone c
    go_region_held3 (fun w' => w'.cell? ⟨w.heap.size + 1, 0, none⟩ = some (.int .i64 f) ∧ w'.rangeAt (w.heap.size + 1) 1 (id.map (Value.int .u8)) ∧ w'.cell? ⟨w.heap.size + 1, 33, none⟩ = some (.slice e1 n1 q1) ∧ w'.cell? ⟨w.heap.size + 1, 34, none⟩ = some (.slice e2 n2 q2) ∧ w'.there w.heap.size 0 32 ∧ Below w.heap.size w w')
      (first | exact ⟨hST.1, hST.2.1, hST.2.2.1, hST.2.2.2.1, hST.2.2.2.2.1, hST.2.2.2.2.2.drew⟩ | exact ST.store (x := ⟨f, id, .slice e1 n1 q1, .slice e2 n2 q2⟩) (by assumption) _ _ | fail) (fail)
    go_wp2
    refine bodyPost_ret (results4 Try.results25 _ _ w.heap.size 0 (id.map (Value.int .u8)) _ rfl ?_ Try.underlying53 rfl hi53) rfl ⟨rfl, ?_⟩
    · exact World.rangeAt_setCells_same _ _ _ _ (by rw [hle]; exact hST.2.2.2.2.1)
    · exact below_setCells' hST.2.2.2.2.2.drew (Nat.le_refl _) _ _
  · rw [if_pos rfl] at hra
    have hra1 : ∀ ob, (w.alloc ob).rangeAt gg (i * 73 + 36) (VoteD.mk f id (.slice e1 n1 q1) (.slice e2 n2 q2)).cells := fun ob => World.rangeAt_alloc hra ob
    have hrd := fun ob => rd_of_range (hra1 ob) hcl
    have hcr := fun ob => canRd_of_range (hra1 ob) hcl
    clear h hr hra hx hra1 hids hv
    simp only [show ((1 : Nat) : Int) = 1 from rfl]
    go_enter Try.func25, Try.ntmps25
    go_wp2_with fail
    generalize hW : World.setCells _ (w.heap.size + 1) 0 _ = W
    have hST : ST w ⟨f, id, .slice e1 n1 q1, .slice e2 n2 q2⟩ W := by
      rw [← hW]; exact ST_init w _ _ _ (by simp) (by simp) hid
    clear hW hrd hcr hc1 hth hone c
    go_region_held3 (fun w' => w'.cell? ⟨w.heap.size + 1, 0, none⟩ = some (.int .i64 f) ∧ w'.rangeAt (w.heap.size + 1) 1 (id.map (Value.int .u8)) ∧ w'.cell? ⟨w.heap.size + 1, 33, none⟩ = some (.slice e1 n1 q1) ∧ w'.cell? ⟨w.heap.size + 1, 34, none⟩ = some (.slice e2 n2 q2) ∧ w'.there w.heap.size 0 32 ∧ Below w.heap.size w w')
      (first | exact ⟨hST.1, hST.2.1, hST.2.2.1, hST.2.2.2.1, hST.2.2.2.2.1, hST.2.2.2.2.2.drew⟩ | exact ST.store (x := ⟨f, id, .slice e1 n1 q1, .slice e2 n2 q2⟩) (by assumption) _ _ | fail) (fail)
    go_wp2
    refine bodyPost_ret (results4 Try.results25 _ _ w.heap.size 0 (id.map (Value.int .u8)) _ rfl ?_ Try.underlying53 rfl hi53) rfl ⟨rfl, ?_⟩
    · exact World.rangeAt_setCells_same _ _ _ _ (by rw [hle]; exact hST.2.2.2.2.1)
    · exact below_setCells' hST.2.2.2.2.2.drew (Nat.le_refl _) _ _

set_option maxRecDepth 100000 in
set_option maxHeartbeats 2000000 in
/-- A vote is what it is. -/
theorem voteIs_any (f : Int) (id : List Int) (e1 e2 : Option Addr) (n1 n2 q1 q2 : Nat) (bs1 bs2 : List Int) (w : World) (hid : id.length = 32) (h1 : bytesAt w (.slice e1 n1 q1) bs1) (h2 : bytesAt w (.slice e2 n2 q2) bs2) :
    Calls Try.prog 26 #[.int .i64 f, .agg (id.map (Value.int .u8)).toArray, .slice e1 n1 q1, .slice e2 n2 q2, .agg (VoteD.mk f id (.slice e1 n1 q1) (.slice e2 n2 q2)).cells.toArray] w fun e w' => e = .returned (.bool true) ∧ Below w.heap.size w w' := by
  have hei := eqIds40 id hid
  have hgu := guard40
  obtain ⟨W, hW⟩ : ∃ W, W = (w.alloc (.cells (id.map (Value.int .u8)).toArray 40)).alloc (.cells (VoteD.mk f id (.slice e1 n1 q1) (.slice e2 n2 q2)).cells.toArray 43) := ⟨_, rfl⟩
  have hb0 : Below w.heap.size w W := by rw [hW]; exact ((Below.refl _ _).alloc (Nat.le_refl _) _).alloc (by simp) _
  have b1 : W.heap[w.heap.size]? = some (.cells (id.map (Value.int .u8)).toArray 40 (0, 0)) := by rw [hW]; exact heap_alloc2_old _ _ _
  have b2 : W.heap[w.heap.size + 1]? = some (.cells (VoteD.mk f id (.slice e1 n1 q1) (.slice e2 n2 q2)).cells.toArray 43 (0, 0)) := by rw [hW]; exact heap_alloc2_new _ _ _
  have r1 : W.rangeAt w.heap.size 0 (id.map (Value.int .u8)) := range_of_block b1 0 _ (fun j v hv => by simpa using hv)
  have r2 : W.rangeAt (w.heap.size + 1) 1 (id.map (Value.int .u8)) := range_of_block b2 1 _ (fun j v hv => ids_of_vote ⟨f, id, .slice e1 n1 q1, .slice e2 n2 q2⟩ j v hv)
  have d1 := rd_of_range r1 (n := 32) (by simp [hid])
  have d2 := canRd_of_range r1 (n := 32) (by simp [hid])
  have d3 := rd_of_range r2 (n := 32) (by simp [hid])
  have d4 := canRd_of_range r2 (n := 32) (by simp [hid])
  have c0 : W.cell? ⟨w.heap.size + 1, 0, none⟩ = some (.int .i64 f) := by rw [cell_of_block b2]; rfl
  have c33 : W.cell? ⟨w.heap.size + 1, 33, none⟩ = some (.slice e1 n1 q1) := by rw [cell_of_block b2]; exact VoteD.cells_33 (x := ⟨f, id, .slice e1 n1 q1, .slice e2 n2 q2⟩) hid
  have c34 : W.cell? ⟨w.heap.size + 1, 34, none⟩ = some (.slice e2 n2 q2) := by rw [cell_of_block b2]; exact VoteD.cells_34 (x := ⟨f, id, .slice e1 n1 q1, .slice e2 n2 q2⟩) hid
  have HW : Hid (W = (w.alloc (.cells (id.map (Value.int .u8)).toArray 40)).alloc (.cells (VoteD.mk f id (.slice e1 n1 q1) (.slice e2 n2 q2)).cells.toArray 43)) := hW
  rw [hW] at d1 d2 d3 d4 c0 c33 c34
  clear hW b1 b2 r1 r2
  go_enter Try.func26, Try.ntmps26
  go_wp2_with fail
  rw [← HW.out]
  rw [← HW.out] at c34
  refine (bytesSame_same _ bs1 _ (h1.below hb0)).mono ?_
  rintro e w4 ⟨rfl, m4, rfl⟩
  have c34' : (W.drewN m4).cell? ⟨w.heap.size + 1, 34, none⟩ = some (.slice e2 n2 q2) := c34
  clear d1 d2 d3 d4 c0 c33 c34
  go_wp2_with fail
  refine (bytesSame_same _ bs2 _ (h2.below (hb0.trans (below_drewN _ _ _)))).mono ?_
  rintro e w5 ⟨rfl, m5, rfl⟩
  go_wp2_with fail
  go_ret
  exact ⟨rfl, hb0.trans (below_drewN _ _ _)⟩
end Go.Proofs.Qxb6604712a
