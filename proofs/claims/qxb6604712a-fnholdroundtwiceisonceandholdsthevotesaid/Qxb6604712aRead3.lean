/-
  Seat b6604712a: ZZheld.
-/
import Derived.Test.Qxb6604712aRead2
namespace Go.Proofs.Qxb6604712a
open Go.RowKit
set_option linter.unusedSimpArgs false
set_option linter.unusedVariables false
attribute [local go_sem ↓] exec_load97 exec_store97 exec_load53 exec_store53
attribute [local go_sem] ptrB ptrO isPtr

theorem results9 {P : Program} {fn : Func} {t0 p t2 t3 t4 t5 t6 t7 t8 : Tmp} {ty : TypeId} (h : fn.results = #[.tmp t0, .cell p ty, .tmp t2, .tmp t3, .tmp t4, .tmp t5, .tmp t6, .tmp t7, .tmp t8]) (tmps : Array Value) (w : World) (b o : Nat) (cs : List Value) (d : TypeDesc)
    (hp : tmps.getD p undef = .pointer (some ⟨b, o, none⟩)) (hc : w.rangeAt b o cs) (hu : P.underlying ty = some d) (hd : d.isRow = true) (hi : (P.info? ty).map (·.size) = some cs.length) :
    (results fn tmps).run P w = .ok (.tuple #[tmps.getD t0 undef, .agg cs.toArray, tmps.getD t2 undef, tmps.getD t3 undef, tmps.getD t4 undef, tmps.getD t5 undef, tmps.getD t6 undef, tmps.getD t7 undef, tmps.getD t8 undef]) w := by
  have hp' : tmps[p]?.getD undef = .pointer (some ⟨b, o, none⟩) := by simpa using hp
  simp [results, h, hp', asAddr, run_loadVar_mid w b o ty cs d hc hu hd hi]

def SH (w : World) (va : Value) (id : List Int) (vr : Int) (sg : Value) (b1 b2 b3 b4 b5 : Bool) (w' : World) : Prop :=
  w'.cell? ⟨w.heap.size + 1, 0, none⟩ = some va ∧ w'.rangeAt (w.heap.size + 1) 1 (id.map (Value.int .u8)) ∧ w'.cell? ⟨w.heap.size + 1, 33, none⟩ = some (.int .i64 vr) ∧ w'.cell? ⟨w.heap.size + 1, 34, none⟩ = some sg ∧
  w'.cell? ⟨w.heap.size + 1, 35, none⟩ = some (.bool b1) ∧ w'.cell? ⟨w.heap.size + 1, 36, none⟩ = some (.bool b2) ∧ w'.cell? ⟨w.heap.size + 1, 37, none⟩ = some (.bool b3) ∧ w'.cell? ⟨w.heap.size + 1, 38, none⟩ = some (.bool b4) ∧ w'.cell? ⟨w.heap.size + 1, 39, none⟩ = some (.bool b5) ∧
  w'.there w.heap.size 0 32 ∧ Below w.heap.size w w'
theorem SH.store {w : World} {va : Value} {id : List Int} {vr : Int} {sg : Value} {b1 b2 b3 b4 b5 : Bool} {w1 : World} (h : SH w va id vr sg b1 b2 b3 b4 b5 w1) (o : Nat) (cs : List Value) : SH w va id vr sg b1 b2 b3 b4 b5 (w1.setCells w.heap.size o cs) := by
  obtain ⟨h1, h2, h3, h4, h5, h6, h7, h8, h9, h10, h11⟩ := h
  refine ⟨?_, World.rangeAt_setCells_apart h2 _ _ _ (.inl (by omega)), ?_, ?_, ?_, ?_, ?_, ?_, ?_, World.there_setCells h10 _ _ _, below_setCells' h11 (Nat.le_refl _) _ _⟩
  all_goals
    rw [World.cell?_setCells_out _ _ _ _ _ (fun h => by simp at h)]
    assumption
theorem SH_init (w : World) (z1 z2 : Array Value) (va : Value) (id : List Int) (vr : Int) (sg : Value) (b1 b2 b3 b4 b5 : Bool) (h1 : z1.size = 32) (h2 : z2.size = 40) (hid : id.length = 32) : SH w va id vr sg b1 b2 b3 b4 b5 (((w.alloc (.cells z1 53)).alloc (.cells z2 97)).setCells (w.heap.size + 1) 0 (propCells va id vr sg b1 b2 b3 b4 b5)) := by
  obtain ⟨q1, q2, q3⟩ := two_new w z1 z2 53 97 (propCells va id vr sg b1 b2 b3 b4 b5) (by rw [propCells_len hid, h2])
  refine ⟨?_, range_of_block q3 1 _ (fun j v hv => ?_), ?_, ?_, ?_, ?_, ?_, ?_, ?_, there_of_block (cur := z1.toList) (by simpa using q2) 0 32 (by simp [h1]), q1⟩
  case refine_2 =>
    have hj := (List.getElem?_eq_some_iff.1 hv).1
    rw [propCells, Nat.add_comm 1 j, List.getElem?_cons_succ, List.getElem?_append_left hj]; exact hv
  all_goals
    rw [cell_of_block q3]
    simp [propCells, hid]

set_option maxRecDepth 100000 in
set_option maxHeartbeats 4000000 in
theorem held_any (g : Nat) (P : Nat → Prop) (a : StD) (a1 a2 : Option Addr) (l1 l2 c1 c2 : Nat) (id : List Int) (hid : id.length = 32) (vr : Int) (b1 b2 b3 b4 b5 : Bool) (w : World) (h : IsS w P g a) (hh : a.held = propCells (.slice a1 l1 c1) id vr (.slice a2 l2 c2) b1 b2 b3 b4 b5) :
    Calls Try.prog 55 #[.pointer (some ⟨g, 0, none⟩)] w fun e w' => e = .returned (.tuple #[.slice a1 l1 c1, .agg (id.map (Value.int .u8)).toArray, .int .i64 vr, .slice a2 l2 c2, .bool b1, .bool b2, .bool b3, .bool b4, .bool b5]) ∧ Below w.heap.size w w' := by
  have hra : w.rangeAt g 2 (propCells (.slice a1 l1 c1) id vr (.slice a2 l2 c2) b1 b2 b3 b4 b5) := by
    obtain ⟨pv, pp, cv, cp, sn, h⟩ := h
    rw [← hh]
    refine range_of_block h.blk 2 _ fun j v hv => ?_
    have hj := (List.getElem?_eq_some_iff.1 hv).1
    rw [stCells, Nat.add_comm 2 j, show j + 2 = (j + 1) + 1 from rfl, List.getElem?_cons_succ, List.getElem?_cons_succ, List.getElem?_append_left hj]
    exact hv
  have hcl := propCells_len hid (.slice a1 l1 c1) vr (.slice a2 l2 c2) b1 b2 b3 b4 b5
  have hone := propCells_one (va := .slice a1 l1 c1) (sg := .slice a2 l2 c2) rfl rfl id vr b1 b2 b3 b4 b5
  have hra1 : ∀ ob, (w.alloc ob).rangeAt g 2 (propCells (.slice a1 l1 c1) id vr (.slice a2 l2 c2) b1 b2 b3 b4 b5) := fun ob => World.rangeAt_alloc hra ob
  have hrd := fun ob => rd_of_range (hra1 ob) hcl
  have hcr := fun ob => canRd_of_range (hra1 ob) hcl
  have hth : ∀ (ob : Obj) (z : Array Value), z.size = 40 → ((w.alloc ob).alloc (.cells z 97)).there (w.heap.size + 1) 0 40 := fun ob z hz => there_of_block (cur := z.toList) (heap_alloc2_new _ _ _) 0 40 (by simp [hz])
  clear h hra hra1 hh
  go_enter Try.func55, Try.ntmps55
  go_wp2_with fail
  generalize hW : World.setCells _ (w.heap.size + 1) 0 _ = W
  have hST : SH w (.slice a1 l1 c1) id vr (.slice a2 l2 c2) b1 b2 b3 b4 b5 W := by
    rw [← hW]; exact SH_init w _ _ _ _ _ _ _ _ _ _ _ (by simp) (by simp) hid
  clear hW hrd hcr hth hone
  have hu53 := Try.underlying53
  have hi53 : (Try.prog.info? 53).map (·.size) = some (id.map (Value.int .u8)).length := by rw [Try.size53]; simp [hid]
  have hone2 := oneAll_ids id
  have hle : (id.map (Value.int .u8)).length = 32 := by simp [hid]
  have hon2 : ∀ v ∈ id.map (Value.int .u8), v.oneCell' = true := fun v hv => by obtain ⟨_, _, rfl⟩ := List.mem_map.1 hv; rfl
  go_region_held3 (fun w' => w'.cell? ⟨w.heap.size + 1, 0, none⟩ = some (.slice a1 l1 c1) ∧ w'.rangeAt (w.heap.size + 1) 1 (id.map (Value.int .u8)) ∧ w'.cell? ⟨w.heap.size + 1, 33, none⟩ = some (.int .i64 vr) ∧ w'.cell? ⟨w.heap.size + 1, 34, none⟩ = some (.slice a2 l2 c2) ∧
      w'.cell? ⟨w.heap.size + 1, 35, none⟩ = some (.bool b1) ∧ w'.cell? ⟨w.heap.size + 1, 36, none⟩ = some (.bool b2) ∧ w'.cell? ⟨w.heap.size + 1, 37, none⟩ = some (.bool b3) ∧ w'.cell? ⟨w.heap.size + 1, 38, none⟩ = some (.bool b4) ∧ w'.cell? ⟨w.heap.size + 1, 39, none⟩ = some (.bool b5) ∧
      w'.there w.heap.size 0 32 ∧ Below w.heap.size w w')
    (first | exact ⟨hST.1, hST.2.1, hST.2.2.1, hST.2.2.2.1, hST.2.2.2.2.1, hST.2.2.2.2.2.1, hST.2.2.2.2.2.2.1, hST.2.2.2.2.2.2.2.1, hST.2.2.2.2.2.2.2.2.1, hST.2.2.2.2.2.2.2.2.2.1, hST.2.2.2.2.2.2.2.2.2.2.drew⟩ | exact SH.store (id := id) (by assumption) _ _ | fail) (fail)
  go_wp2
  refine bodyPost_ret (results9 Try.results55 _ _ w.heap.size 0 (id.map (Value.int .u8)) _ rfl ?_ Try.underlying53 rfl hi53) rfl ⟨rfl, ?_⟩
  · exact World.rangeAt_setCells_same _ _ _ _ (by rw [hle]; exact hST.2.2.2.2.2.2.2.2.2.1)
  · exact below_setCells' hST.2.2.2.2.2.2.2.2.2.2.drew (Nat.le_refl _) _ _

end Go.Proofs.Qxb6604712a
