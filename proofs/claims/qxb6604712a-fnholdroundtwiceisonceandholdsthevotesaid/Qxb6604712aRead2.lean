/-
  Seat b6604712a: ZZtallyVote, ZZpower, ZZheld.
-/
import Derived.Test.Qxb6604712aRead
namespace Go.Proofs.Qxb6604712a
open Go.RowKit
set_option linter.unusedSimpArgs false
set_option linter.unusedVariables false
attribute [local go_sem ↓] exec_load88 exec_store88 exec_load53 exec_store53 exec_load128 exec_store128
attribute [local go_sem] ptrB ptrO isPtr

theorem oneAll_ids (id : List Int) : oneAll (.agg (id.map (Value.int .u8)).toArray) = true := by
  simp only [oneAll, Value.cells, List.all_toArray, oneAll_bytes]

/-- A row's element, as the load asks for it. -/
theorem row_at {α : Type} (f : α → List Value) {s : Nat} {w : World} {e : Nat} {v : Value} {xs : List α} (hr : w.ownsRow 0 e s v xs.length (xs.flatMap f)) (hs : ∀ x ∈ xs, (f x).length = s) {k : Nat} {x : α} (hk : xs[k]? = some x) (h0 : 0 < s) :
    ∃ gg c, v = .slice (some ⟨gg, 0, none⟩) xs.length c ∧ w.rangeAt gg (k * s) (f x) := by
  have hlt : k < xs.length := (List.getElem?_eq_some_iff.1 hk).1
  have hx : xs[k] = x := by rw [List.getElem?_eq_getElem hlt] at hk; exact Option.some.inj hk
  obtain ⟨gg, c, rfl, _, _⟩ := hr.form (by omega)
  refine ⟨gg, c, rfl, fun j u hu => ?_⟩
  have hj : j < s := by rw [← hs x (by rw [← hx]; exact List.getElem_mem hlt)]; exact (List.getElem?_eq_some_iff.1 hu).1
  have hm : k * s + j < xs.length * s := by
    have := Nat.mul_le_mul_right s (show k + 1 ≤ xs.length from hlt)
    rw [Nat.succ_mul] at this; omega
  rw [hr.cellAt _ hm, flat_get f s xs hs k j hlt hj, hx]
  exact hu

theorem results4 {P : Program} {fn : Func} {t0 p t2 t3 : Tmp} {ty : TypeId} (h : fn.results = #[.tmp t0, .cell p ty, .tmp t2, .tmp t3]) (tmps : Array Value) (w : World) (b o : Nat) (cs : List Value) (d : TypeDesc)
    (hp : tmps.getD p undef = .pointer (some ⟨b, o, none⟩)) (hc : w.rangeAt b o cs) (hu : P.underlying ty = some d) (hd : d.isRow = true) (hi : (P.info? ty).map (·.size) = some cs.length) :
    (results fn tmps).run P w = .ok (.tuple #[tmps.getD t0 undef, .agg cs.toArray, tmps.getD t2 undef, tmps.getD t3 undef]) w := by
  have hp' : tmps[p]?.getD undef = .pointer (some ⟨b, o, none⟩) := by simpa using hp
  simp [results, h, hp', asAddr, run_loadVar_mid w b o ty cs d hc hu hd hi]
theorem results2 {P : Program} {fn : Func} {p t2 : Tmp} {ty : TypeId} (h : fn.results = #[.cell p ty, .tmp t2]) (tmps : Array Value) (w : World) (b o : Nat) (cs : List Value) (d : TypeDesc)
    (hp : tmps.getD p undef = .pointer (some ⟨b, o, none⟩)) (hc : w.rangeAt b o cs) (hu : P.underlying ty = some d) (hd : d.isRow = true) (hi : (P.info? ty).map (·.size) = some cs.length) :
    (results fn tmps).run P w = .ok (.tuple #[.agg cs.toArray, tmps.getD t2 undef]) w := by
  have hp' : tmps[p]?.getD undef = .pointer (some ⟨b, o, none⟩) := by simpa using hp
  simp [results, h, hp', asAddr, run_loadVar_mid w b o ty cs d hc hu hd hi]

/-- Two new blocks, the second written whole. -/
theorem two_new (w : World) (z1 z2 : Array Value) (t1 t2 : TypeId) (cs : List Value) (hl : z2.size = cs.length) :
    Below w.heap.size w (((w.alloc (.cells z1 t1)).alloc (.cells z2 t2)).setCells (w.heap.size + 1) 0 cs) ∧
    (((w.alloc (.cells z1 t1)).alloc (.cells z2 t2)).setCells (w.heap.size + 1) 0 cs).heap[w.heap.size]? = some (.cells z1 t1 (0, 0)) ∧
    (((w.alloc (.cells z1 t1)).alloc (.cells z2 t2)).setCells (w.heap.size + 1) 0 cs).heap[w.heap.size + 1]? = some (.cells cs.toArray t2 (0, 0)) := by
  refine ⟨below_setCells' (((Below.refl _ _).alloc (Nat.le_refl _) _).alloc (by simp) _) (by omega) _ _, ?_, ?_⟩
  · rw [heap_setCells_other _ _ _ _ _ (by omega)]
    exact heap_alloc2_old _ _ _
  · have := heap_setCells_same (w.heap.size + 1) t2 cs 0 _ z2.toList (by rw [Array.toArray_toList]; exact heap_alloc2_new w (.cells z1 t1) (.cells z2 t2)) (by simp; omega)
    rw [this, overlay, List.take_zero, List.nil_append, List.drop_eq_nil_of_le (by simp; omega), List.append_nil]

/-- What stands while a vote's copy is handed back. -/
def ST (w : World) (x : VoteD) (w' : World) : Prop := w'.cell? ⟨w.heap.size + 1, 0, none⟩ = some (.int .i64 x.frm) ∧ w'.rangeAt (w.heap.size + 1) 1 (x.id.map (Value.int .u8)) ∧ w'.cell? ⟨w.heap.size + 1, 33, none⟩ = some x.ext ∧ w'.cell? ⟨w.heap.size + 1, 34, none⟩ = some x.sig ∧ w'.there w.heap.size 0 32 ∧ Below w.heap.size w w'
theorem ST.store {w : World} {x : VoteD} {w1 : World} (h : ST w x w1) (o : Nat) (cs : List Value) : ST w x (w1.setCells w.heap.size o cs) := by
  obtain ⟨h1, h2, h3, h4, h5, h6⟩ := h
  refine ⟨?_, World.rangeAt_setCells_apart h2 _ _ _ (.inl (by omega)), ?_, ?_, World.there_setCells h5 _ _ _, below_setCells' h6 (Nat.le_refl _) _ _⟩
  all_goals
    rw [World.cell?_setCells_out _ _ _ _ _ (fun h => by simp at h)]
    assumption

theorem ids_of_vote (x : VoteD) : ∀ j v, (x.id.map (Value.int .u8))[j]? = some v → x.cells[1 + j]? = some v := fun j v hv => by
  have hj := (List.getElem?_eq_some_iff.1 hv).1
  rw [VoteD.cells, Nat.add_comm 1 j, List.getElem?_cons_succ, List.getElem?_append_left hj]
  exact hv
theorem ST_init (w : World) (z1 z2 : Array Value) (x : VoteD) (h1 : z1.size = 32) (h2 : z2.size = 35) (hid : x.id.length = 32) : ST w x (((w.alloc (.cells z1 53)).alloc (.cells z2 88)).setCells (w.heap.size + 1) 0 x.cells) := by
  obtain ⟨b1, b2, b3⟩ := two_new w z1 z2 53 88 x.cells (by rw [VoteD.cells_len hid, h2])
  exact ⟨by rw [cell_of_block b3]; rfl, range_of_block b3 1 _ (ids_of_vote x), by rw [cell_of_block b3]; exact VoteD.cells_33 hid, by rw [cell_of_block b3]; exact VoteD.cells_34 hid, there_of_block (cur := z1.toList) (by simpa using b2) 0 32 (by simp [h1]), b1⟩

set_option maxRecDepth 100000 in
set_option maxHeartbeats 2000000 in
theorem tallyVote_any (g : Nat) (st : Int) (hst : st = 1 ∨ st = 2) (P : Nat → Prop) (a : StD) (k : Nat) (f : Int) (id : List Int) (e1 e2 : Option Addr) (n1 n2 q1 q2 : Nat) (w : World) (h : IsS w P g a) (hx : (a.vs st)[k]? = some ⟨f, id, .slice e1 n1 q1, .slice e2 n2 q2⟩) :
    Calls Try.prog 66 #[.pointer (some ⟨g, 0, none⟩), .int .i8 st, .int .i64 k] w fun e w' => e = .returned (.tuple #[.int .i64 f, .agg (id.map (Value.int .u8)).toArray, .slice e1 n1 q1, .slice e2 n2 q2]) ∧ Below w.heap.size w w' := by
  obtain ⟨v, p, o, ho, c, _, hr, _, hi1, _⟩ := h.rows st hst
  have hid : id.length = 32 := hi1 _ (List.mem_of_getElem? hx)
  obtain ⟨gg, cq, rfl, hra⟩ := row_at VoteD.cells hr (fun x hx => VoteD.cells_len (hi1 x hx)) hx (by omega)
  have hlt : k < (a.vs st).length := (List.getElem?_eq_some_iff.1 hx).1
  have hlt' : (k : Int) < ((a.vs st).length : Int) := by omega
  generalize (a.vs st).length = len at *
  have hcl := VoteD.cells_len (x := ⟨f, id, .slice e1 n1 q1, .slice e2 n2 q2⟩) hid
  have hone := oneAll_vote ⟨f, id, .slice e1 n1 q1, .slice e2 n2 q2⟩ rfl rfl
  have hsz := World.block_lt_of_cell? _ _ c
  have hgl := World.block_lt_of_cell? _ _ (hra 0 _ (VoteD.cells_0 _))
  have hra1 : ∀ ob, (w.alloc ob).rangeAt gg (k * 35) (VoteD.mk f id (.slice e1 n1 q1) (.slice e2 n2 q2)).cells := fun ob => World.rangeAt_alloc hra ob
  have hrd := fun ob => rd_of_range (hra1 ob) hcl
  have hcr := fun ob => canRd_of_range (hra1 ob) hcl
  have hc1 : ∀ ob, (w.alloc ob).cell? ⟨g, o, none⟩ = some (.slice (some ⟨gg, 0, none⟩) len cq) := fun ob => cell_alloc1 c ob
  have hth : ∀ (ob : Obj) (z : Array Value), z.size = 35 → ((w.alloc ob).alloc (.cells z 88)).there (w.heap.size + 1) 0 35 := fun ob z hz => there_of_block (cur := z.toList) (heap_alloc2_new _ _ _) 0 35 (by simp [hz])
  clear h hr hra hx hra1
  go_enter Try.func66, Try.ntmps66
  go_wp2_with (go_at_call 61; refine (tally_any g st hst _).mono ?_; rintro e w' ⟨rfl, rfl⟩; rw [ho])
  generalize hW : World.setCells _ (w.heap.size + 1) 0 _ = W
  have hST : ST w ⟨f, id, .slice e1 n1 q1, .slice e2 n2 q2⟩ W := by
    rw [← hW]; exact ST_init w _ _ _ (by simp) (by simp) hid
  clear hW hrd hcr hc1 hth hone c
  have hu53 := Try.underlying53
  have hi53 : (Try.prog.info? 53).map (·.size) = some (id.map (Value.int .u8)).length := by rw [Try.size53]; simp [hid]
  have hone2 := oneAll_ids id
  have hle : (id.map (Value.int .u8)).length = 32 := by simp [hid]
  have hon2 : ∀ v ∈ id.map (Value.int .u8), v.oneCell' = true := fun v hv => by obtain ⟨_, _, rfl⟩ := List.mem_map.1 hv; rfl
  go_region_held3 (fun w' => w'.cell? ⟨w.heap.size + 1, 0, none⟩ = some (.int .i64 f) ∧ w'.rangeAt (w.heap.size + 1) 1 (id.map (Value.int .u8)) ∧ w'.cell? ⟨w.heap.size + 1, 33, none⟩ = some (.slice e1 n1 q1) ∧ w'.cell? ⟨w.heap.size + 1, 34, none⟩ = some (.slice e2 n2 q2) ∧ w'.there w.heap.size 0 32 ∧ Below w.heap.size w w')
    (first | exact ⟨hST.1, hST.2.1, hST.2.2.1, hST.2.2.2.1, hST.2.2.2.2.1, hST.2.2.2.2.2.drew⟩ | exact ST.store (x := ⟨f, id, .slice e1 n1 q1, .slice e2 n2 q2⟩) (by assumption) _ _ | fail) (fail)
  go_wp2
  refine bodyPost_ret (results4 Try.results66 _ _ w.heap.size 0 (id.map (Value.int .u8)) _ rfl ?_ Try.underlying53 rfl hi53) rfl ⟨rfl, ?_⟩
  · exact World.rangeAt_setCells_same _ _ _ _ (by rw [hle]; exact hST.2.2.2.2.1)
  · exact below_setCells' hST.2.2.2.2.2.drew (Nat.le_refl _) _ _

/-! ### ZZpower -/
def SP (w : World) (x : PowD) (w' : World) : Prop := w'.rangeAt (w.heap.size + 1) 0 (x.id.map (Value.int .u8)) ∧ w'.cell? ⟨w.heap.size + 1, 32, none⟩ = some (.int .i64 x.pw) ∧ w'.there w.heap.size 0 32 ∧ Below w.heap.size w w'
theorem SP.store {w : World} {x : PowD} {w1 : World} (h : SP w x w1) (o : Nat) (cs : List Value) : SP w x (w1.setCells w.heap.size o cs) := by
  obtain ⟨h2, h3, h5, h6⟩ := h
  refine ⟨World.rangeAt_setCells_apart h2 _ _ _ (.inl (by omega)), ?_, World.there_setCells h5 _ _ _, below_setCells' h6 (Nat.le_refl _) _ _⟩
  rw [World.cell?_setCells_out _ _ _ _ _ (fun h => by simp at h)]
  assumption
theorem SP_init (w : World) (z1 z2 : Array Value) (x : PowD) (h1 : z1.size = 32) (h2 : z2.size = 33) (hid : x.id.length = 32) : SP w x (((w.alloc (.cells z1 53)).alloc (.cells z2 128)).setCells (w.heap.size + 1) 0 x.cells) := by
  obtain ⟨b1, b2, b3⟩ := two_new w z1 z2 53 128 x.cells (by rw [PowD.cells_len hid, h2])
  exact ⟨range_of_block b3 0 _ (fun j v hv => by
    have hj := (List.getElem?_eq_some_iff.1 hv).1
    rw [Nat.zero_add, PowD.cells, List.getElem?_append_left hj]; exact hv), by rw [cell_of_block b3]; exact PowD.cells_32 hid, there_of_block (cur := z1.toList) (by simpa using b2) 0 32 (by simp [h1]), b1⟩

set_option maxRecDepth 100000 in
set_option maxHeartbeats 2000000 in
theorem power_any (g : Nat) (st : Int) (hst : st = 1 ∨ st = 2) (P : Nat → Prop) (a : StD) (k : Nat) (f : Int) (id : List Int) (w : World) (h : IsS w P g a) (hx : (a.ps st)[k]? = some ⟨id, f⟩) :
    Calls Try.prog 68 #[.pointer (some ⟨g, 0, none⟩), .int .i8 st, .int .i64 k] w fun e w' => e = .returned (.tuple #[.agg (id.map (Value.int .u8)).toArray, .int .i64 f]) ∧ Below w.heap.size w w' := by
  obtain ⟨v, p, o, ho, _, c, _, hr, _, hi1⟩ := h.rows st hst
  have hid : id.length = 32 := hi1 _ (List.mem_of_getElem? hx)
  obtain ⟨gg, cq, rfl, hra⟩ := row_at PowD.cells hr (fun x hx => PowD.cells_len (hi1 x hx)) hx (by omega)
  have hlt : k < (a.ps st).length := (List.getElem?_eq_some_iff.1 hx).1
  have hlt' : (k : Int) < ((a.ps st).length : Int) := by omega
  generalize (a.ps st).length = len at *
  have hcl := PowD.cells_len (x := ⟨id, f⟩) hid
  have hone := PowD.oneAll ⟨id, f⟩
  have hra1 : ∀ ob, (w.alloc ob).rangeAt gg (k * 33) (PowD.mk id f).cells := fun ob => World.rangeAt_alloc hra ob
  have hrd := fun ob => rd_of_range (hra1 ob) hcl
  have hcr := fun ob => canRd_of_range (hra1 ob) hcl
  have hc1 : ∀ ob, (w.alloc ob).cell? ⟨g, o + 1, none⟩ = some (.slice (some ⟨gg, 0, none⟩) len cq) := fun ob => cell_alloc1 c ob
  have hth : ∀ (ob : Obj) (z : Array Value), z.size = 33 → ((w.alloc ob).alloc (.cells z 128)).there (w.heap.size + 1) 0 33 := fun ob z hz => there_of_block (cur := z.toList) (heap_alloc2_new _ _ _) 0 33 (by simp [hz])
  clear h hr hra hx hra1
  go_enter Try.func68, Try.ntmps68
  go_wp2_with (go_at_call 61; refine (tally_any g st hst _).mono ?_; rintro e w' ⟨rfl, rfl⟩; rw [ho])
  generalize hW : World.setCells _ (w.heap.size + 1) 0 _ = W
  have hST : SP w ⟨id, f⟩ W := by
    rw [← hW]; exact SP_init w _ _ _ (by simp) (by simp) hid
  clear hW hrd hcr hc1 hth hone c
  have hu53 := Try.underlying53
  have hi53 : (Try.prog.info? 53).map (·.size) = some (id.map (Value.int .u8)).length := by rw [Try.size53]; simp [hid]
  have hone2 := oneAll_ids id
  have hle : (id.map (Value.int .u8)).length = 32 := by simp [hid]
  have hon2 : ∀ v ∈ id.map (Value.int .u8), v.oneCell' = true := fun v hv => by obtain ⟨_, _, rfl⟩ := List.mem_map.1 hv; rfl
  go_region_held3 (fun w' => w'.rangeAt (w.heap.size + 1) 0 (id.map (Value.int .u8)) ∧ w'.cell? ⟨w.heap.size + 1, 32, none⟩ = some (.int .i64 f) ∧ w'.there w.heap.size 0 32 ∧ Below w.heap.size w w')
    (first | exact ⟨hST.1, hST.2.1, hST.2.2.1, hST.2.2.2.drew⟩ | exact SP.store (x := ⟨id, f⟩) (by assumption) _ _ | fail) (fail)
  go_wp2
  refine bodyPost_ret (results2 Try.results68 _ _ w.heap.size 0 (id.map (Value.int .u8)) _ rfl ?_ Try.underlying53 rfl hi53) rfl ⟨rfl, ?_⟩
  · exact World.rangeAt_setCells_same _ _ _ _ (by rw [hle]; exact hST.2.2.1)
  · exact below_setCells' hST.2.2.2.drew (Nat.le_refl _) _ _

end Go.Proofs.Qxb6604712a
