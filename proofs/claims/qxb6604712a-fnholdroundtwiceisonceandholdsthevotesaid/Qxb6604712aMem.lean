/-
  Seat b6604712a: many cells stored at once; what stands behind it.
-/
import Derived.Test.Qxb6604712aBuild
import Derived.Deep.AppendLies
namespace Go.Proofs.Qxb6604712a
open Go.RowKit
set_option linter.unusedSimpArgs false
set_option linter.unusedVariables false

theorem rangeAt_below {w w' : World} {b o : Nat} {cs : List Value} (h : w.rangeAt b o cs) (hb : Below w.heap.size w w') : w'.rangeAt b o cs := fun j v hv =>
  (hb.cell (World.block_lt_of_cell? _ _ (h j v hv))).trans (h j v hv)
theorem there_below {w w' : World} {b o n : Nat} (h : w.there b o n) (hb : Below w.heap.size w w') : w'.there b o n := fun j hj => by
  obtain ⟨h1, h2⟩ := h j hj
  obtain ⟨u, hu⟩ := Option.isSome_iff_exists.1 h1
  have hlt := World.block_lt_of_cell? w _ hu
  exact ⟨by rw [hb.cell hlt]; exact h1, by rw [hb.frozen hlt]; exact h2⟩
theorem cell_below {w w' : World} {a : Addr} {v : Value} (h : w.cell? a = some v) (hb : Below w.heap.size w w') : w'.cell? a = some v := (hb.cell (World.block_lt_of_cell? _ _ h)).trans h
theorem below_then {B : Nat} {a w w' : World} (h : Below B a w) (hB : B ≤ a.heap.size) (h' : Below w.heap.size w w') : Below B a w' := h.trans (h'.mono (Nat.le_trans hB h.size))

theorem heap_setCells_other (b : Nat) : ∀ (vs : List Value) (o : Nat) (w : World) (k : Nat), k ≠ b → (w.setCells b o vs).heap[k]? = w.heap[k]?
  | [], _, _, _, _ => rfl
  | v :: r, o, w, k, h => by
    rw [World.setCells, heap_setCells_other b r (o + 1) _ k h]
    exact Below.heap_setCell _ _ _ _ h
theorem size_setCells' (b : Nat) : ∀ (vs : List Value) (o : Nat) (w : World), (w.setCells b o vs).heap.size = w.heap.size
  | [], _, _ => rfl
  | v :: r, o, w => by rw [World.setCells, size_setCells' b r (o + 1)]; simp [World.setCell]
theorem rest_setCells (b : Nat) : ∀ (vs : List Value) (o : Nat) (w : World), (w.setCells b o vs).os = w.os ∧ (w.setCells b o vs).tape = w.tape ∧ (w.setCells b o vs).output = w.output
  | [], _, _ => ⟨rfl, rfl, rfl⟩
  | v :: r, o, w => by
    rw [World.setCells]
    obtain ⟨h1, h2, h3⟩ := rest_setCells b r (o + 1) (w.setCell ⟨b, o, none⟩ v)
    exact ⟨h1, h2, h3⟩
theorem below_setCells' {B : Nat} {a w : World} (h : Below B a w) {b : Nat} (hB : B ≤ b) (o : Nat) (vs : List Value) : Below B a (w.setCells b o vs) := by
  obtain ⟨h1, h2, h3⟩ := rest_setCells b vs o w
  exact h.trans ⟨h1, h2, h3, by rw [size_setCells']; exact Nat.le_refl _, fun k hk => heap_setCells_other b vs o w k (by omega)⟩

/-- A row with vs written into it from o on. -/
def overlay (cur vs : List Value) (o : Nat) : List Value := cur.take o ++ vs ++ cur.drop (o + vs.length)

theorem heap_setCells_same (b : Nat) (t : TypeId) : ∀ (vs : List Value) (o : Nat) (w : World) (cur : List Value), w.heap[b]? = some (.cells cur.toArray t (0, 0)) → o + vs.length ≤ cur.length →
    (w.setCells b o vs).heap[b]? = some (.cells (overlay cur vs o).toArray t (0, 0))
  | [], o, w, cur, h, _ => by simpa [overlay, World.setCells] using h
  | v :: r, o, w, cur, h, hl => by
    rw [World.setCells]
    have h1 : (w.setCell ⟨b, o, none⟩ v).heap[b]? = some (.cells (cur.set o v).toArray t (0, 0)) := by
      rw [heap_setCell_same w b o cur.toArray t v h]; simp
    rw [heap_setCells_same b t r (o + 1) _ (cur.set o v) h1 (by simp at hl ⊢; omega)]
    have e : overlay (cur.set o v) r (o + 1) = overlay cur (v :: r) o := by
      unfold overlay
      simp only [List.length_cons] at hl ⊢
      rw [List.drop_set_of_lt (by omega), List.take_set, List.take_succ_eq_append_getElem (show o < cur.length by omega)]
      rw [List.set_append_right _ _ (by simp; omega), show o - (List.take o cur).length = 0 by simp; omega]
      simp only [List.set_cons_zero, List.append_assoc, List.cons_append, List.nil_append]
      rw [show o + 1 + r.length = o + (r.length + 1) by omega]
    rw [e]

theorem there_of_block {w : World} {b : Nat} {cur : List Value} {t : TypeId} (h : w.heap[b]? = some (.cells cur.toArray t (0, 0))) (o n : Nat) (hl : o + n ≤ cur.length) : w.there b o n := fun j hj => by
  refine ⟨?_, frozen_of_row w b (o + j) _ t h⟩
  rw [cell_of_row w b (o + j) _ t (0, 0) h]; simp; omega
theorem range_of_block {w : World} {b : Nat} {cur : List Value} {t : TypeId} (h : w.heap[b]? = some (.cells cur.toArray t (0, 0))) (o : Nat) (cs : List Value) (hl : ∀ j v, cs[j]? = some v → cur[o + j]? = some v) : w.rangeAt b o cs := fun j v hv => by
  rw [cell_of_row w b (o + j) _ t (0, 0) h]; simpa using hl j v hv
theorem cell_of_block {w : World} {b : Nat} {cur : List Value} {t : TypeId} (h : w.heap[b]? = some (.cells cur.toArray t (0, 0))) (o : Nat) : w.cell? ⟨b, o, none⟩ = cur[o]? := by
  rw [cell_of_row w b o _ t (0, 0) h]; simp

/-! ### A store of many cells, as the operation -/
def ptrB : Value → Nat
  | .pointer (some a) => a.block
  | _ => 0
def ptrO : Value → Nat
  | .pointer (some a) => a.off
  | _ => 0
def isPtr : Value → Bool
  | .pointer (some ⟨_, _, none⟩) => true
  | _ => false
def oneAll (v : Value) : Bool := v.cells.all (·.oneCell')

theorem exec_store_of {t n : Nat} (hsz : (Try.prog.info? t).map (·.size) = some n) (ρ : Operand → Value) (xp xv : Operand) (dst : Option Tmp) (ty : TypeId) (pos : String) (af : Array Edge) (gd : Option (Nat × Bool)) (w : World)
    (hp : isPtr (ρ xp) = true) (ht : w.there (ptrB (ρ xp)) (ptrO (ρ xp)) n) (hs : (ρ xv).cells.size = n) (h1 : oneAll (ρ xv) = true) :
    Sem.run Try.prog (execOp ρ ⟨dst, .store t xp xv, ty, pos, af, gd⟩) w = .ok .skip (w.setCells (ptrB (ρ xp)) (ptrO (ρ xp)) (ρ xv).cells.toList) := by
  obtain ⟨b, o, e⟩ : ∃ b o, ρ xp = .pointer (some ⟨b, o, none⟩) := by
    generalize ρ xp = v at hp
    match v, hp with
    | .pointer (some ⟨b, o, none⟩), _ => exact ⟨b, o, rfl⟩
  rw [e] at ht ⊢
  simp only [ptrB, ptrO] at ht ⊢
  have hst := run_storeCells_cells (P := Try.prog) b o (ρ xv).cells.toList 0 w (fun j hj => by simpa using (ht j (by simp at hj; omega)).1) (fun j hj => by simpa using (ht j (by simp at hj; omega)).2)
    (fun v hv => (Array.all_eq_true_iff_forall_mem.1 h1) v (by simpa using hv))
  cases hq : Try.prog.info? t with
  | none => simp [hq] at hsz
  | some i =>
    have hs' : (ρ xv).cells.size = i.size := by simp [hq] at hsz; omega
    simp only [Nat.add_zero] at hst
    simp [execOp, e, Instr.storeAt, Instr.sureAddr, Sem.run_bind, storeVar, sizeOf, typeInfo, hq, hs', hst]

theorem Try.size40 : (Try.prog.info? 40).map (·.size) = some 32 := by kernel_rfl
theorem Try.size53 : (Try.prog.info? 53).map (·.size) = some 32 := by kernel_rfl
theorem Try.size43 : (Try.prog.info? 43).map (·.size) = some 35 := by kernel_rfl
theorem Try.size88 : (Try.prog.info? 88).map (·.size) = some 35 := by kernel_rfl
theorem Try.size97 : (Try.prog.info? 97).map (·.size) = some 40 := by kernel_rfl
theorem Try.size110 : (Try.prog.info? 110).map (·.size) = some 33 := by kernel_rfl
theorem Try.size128 : (Try.prog.info? 128).map (·.size) = some 33 := by kernel_rfl
theorem Try.size59 : (Try.prog.info? 59).map (·.size) = some 47 := by kernel_rfl
theorem Try.size62 : (Try.prog.info? 62).map (·.size) = some 49 := by kernel_rfl

theorem exec_store43 (ρ : Operand → Value) (xp xv : Operand) (dst : Option Tmp) (ty : TypeId) (pos : String) (af : Array Edge) (gd : Option (Nat × Bool)) (w : World)
    (hp : isPtr (ρ xp) = true) (ht : w.there (ptrB (ρ xp)) (ptrO (ρ xp)) 35) (hs : (ρ xv).cells.size = 35) (h1 : oneAll (ρ xv) = true) :
    Sem.run Try.prog (execOp ρ ⟨dst, .store 43 xp xv, ty, pos, af, gd⟩) w = .ok .skip (w.setCells (ptrB (ρ xp)) (ptrO (ρ xp)) (ρ xv).cells.toList) := exec_store_of Try.size43 ρ xp xv dst ty pos af gd w hp ht hs h1
theorem oneAll_bytes (l : List Int) : (l.map (Value.int .u8)).all Value.oneCell' = true := by simp [Value.oneCell']

theorem results_cell_mid {P : Program} {fn : Func} {p : Tmp} {ty : TypeId} (h : fn.results = #[.cell p ty]) (tmps : Array Value) (w : World) (b o : Nat) (cs : List Value) (d : TypeDesc)
    (hp : tmps.getD p undef = .pointer (some ⟨b, o, none⟩)) (hc : w.rangeAt b o cs) (hu : P.underlying ty = some d) (hd : d.isRow = true) (hi : (P.info? ty).map (·.size) = some cs.length) :
    (results fn tmps).run P w = .ok (.agg cs.toArray) w := by
  have hp' : tmps[p]?.getD undef = .pointer (some ⟨b, o, none⟩) := by simpa using hp
  simp [results, h, hp', asAddr, run_loadVar_mid w b o ty cs d hc hu hd hi]

theorem sliceAt.setCells {w : World} {s : Nat} {v : Value} {n : Nat} {cs : List Value} (h : sliceAt w s v n cs) {m b : Nat} (hf : fromB m v) (hm : b < m) (o : Nat) (vs : List Value) : sliceAt (w.setCells b o vs) s v n cs := by
  obtain ⟨a, cap, rfl, h1, h2, h3⟩ := h
  refine ⟨a, cap, rfl, h1, h2, ?_⟩
  rcases h3 with h | ⟨b', o', rfl, h⟩
  · exact .inl h
  · refine .inr ⟨b', o', rfl, World.rangeAt_setCells_apart h _ _ _ (.inl ?_)⟩
    have : m ≤ b' := hf
    omega

/-! ### A load of many cells, as the operation -/
def rd (w : World) (b o n : Nat) : Array Value := ((List.range n).map fun j => (w.cell? ⟨b, o + j, none⟩).getD undef).toArray
def canRd (w : World) (b o n : Nat) : Prop := ∀ j, j < n → (w.cell? ⟨b, o + j, none⟩).isSome = true

theorem rd_of_range {w : World} {b o : Nat} {cs : List Value} (h : w.rangeAt b o cs) {n : Nat} (hn : cs.length = n) : rd w b o n = cs.toArray := by
  subst hn
  unfold rd
  congr 1
  apply List.ext_getElem?
  intro j
  by_cases hj : j < cs.length
  · rw [List.getElem?_map, List.getElem?_range hj]
    simp [h j _ (List.getElem?_eq_getElem hj), hj]
  · rw [List.getElem?_eq_none (by simp; omega), List.getElem?_eq_none (by omega)]
theorem canRd_of_range {w : World} {b o : Nat} {cs : List Value} (h : w.rangeAt b o cs) {n : Nat} (hn : cs.length = n) : canRd w b o n := fun j hj => by
  rw [h j _ (List.getElem?_eq_getElem (by omega))]; rfl
theorem range_of_can {w : World} {b o n : Nat} (h : canRd w b o n) : w.rangeAt b o (rd w b o n).toList := fun j v hv => by
  have hj : j < n := by have := (List.getElem?_eq_some_iff.1 hv).1; simpa [rd] using this
  have := h j hj
  obtain ⟨u, hu⟩ := Option.isSome_iff_exists.1 this
  rw [hu]
  simp [rd, hj, hu] at hv
  rw [hv]

theorem exec_load_of {t n : Nat} {d : TypeDesc} (hsz : (Try.prog.info? t).map (·.size) = some n) (hu : Try.prog.underlying t = some d) (hd : d.isRow = true)
    (ρ : Operand → Value) (xp : Operand) (dst : Option Tmp) (ty : TypeId) (pos : String) (af : Array Edge) (gd : Option (Nat × Bool)) (w : World)
    (hp : isPtr (ρ xp) = true) (hc : canRd w (ptrB (ρ xp)) (ptrO (ρ xp)) n) :
    Sem.run Try.prog (execOp ρ ⟨dst, .load t xp, ty, pos, af, gd⟩) w = .ok (.value (.agg (rd w (ptrB (ρ xp)) (ptrO (ρ xp)) n))) w := by
  obtain ⟨b, o, e⟩ : ∃ b o, ρ xp = .pointer (some ⟨b, o, none⟩) := by
    generalize ρ xp = v at hp
    match v, hp with
    | .pointer (some ⟨b, o, none⟩), _ => exact ⟨b, o, rfl⟩
  rw [e] at hc ⊢
  simp only [ptrB, ptrO] at hc ⊢
  have hl := run_loadAt_mid (P := Try.prog) w b o t (rd w b o n).toList d (range_of_can hc) hu hd (by rw [hsz]; simp [rd])
  simp [execOp, e, Sem.run_bind, hl]

theorem exec_load43 (ρ : Operand → Value) (xp : Operand) (dst : Option Tmp) (ty : TypeId) (pos : String) (af : Array Edge) (gd : Option (Nat × Bool)) (w : World)
    (hp : isPtr (ρ xp) = true) (hc : canRd w (ptrB (ρ xp)) (ptrO (ρ xp)) 35) :
    Sem.run Try.prog (execOp ρ ⟨dst, .load 43 xp, ty, pos, af, gd⟩) w = .ok (.value (.agg (rd w (ptrB (ρ xp)) (ptrO (ρ xp)) 35))) w := exec_load_of Try.size43 Try.underlying43 rfl ρ xp dst ty pos af gd w hp hc
theorem exec_load88 (ρ : Operand → Value) (xp : Operand) (dst : Option Tmp) (ty : TypeId) (pos : String) (af : Array Edge) (gd : Option (Nat × Bool)) (w : World)
    (hp : isPtr (ρ xp) = true) (hc : canRd w (ptrB (ρ xp)) (ptrO (ρ xp)) 35) :
    Sem.run Try.prog (execOp ρ ⟨dst, .load 88 xp, ty, pos, af, gd⟩) w = .ok (.value (.agg (rd w (ptrB (ρ xp)) (ptrO (ρ xp)) 35))) w := exec_load_of Try.size88 Try.underlying88 rfl ρ xp dst ty pos af gd w hp hc
theorem exec_load53 (ρ : Operand → Value) (xp : Operand) (dst : Option Tmp) (ty : TypeId) (pos : String) (af : Array Edge) (gd : Option (Nat × Bool)) (w : World)
    (hp : isPtr (ρ xp) = true) (hc : canRd w (ptrB (ρ xp)) (ptrO (ρ xp)) 32) :
    Sem.run Try.prog (execOp ρ ⟨dst, .load 53 xp, ty, pos, af, gd⟩) w = .ok (.value (.agg (rd w (ptrB (ρ xp)) (ptrO (ρ xp)) 32))) w := exec_load_of Try.size53 Try.underlying53 rfl ρ xp dst ty pos af gd w hp hc
theorem exec_load40 (ρ : Operand → Value) (xp : Operand) (dst : Option Tmp) (ty : TypeId) (pos : String) (af : Array Edge) (gd : Option (Nat × Bool)) (w : World)
    (hp : isPtr (ρ xp) = true) (hc : canRd w (ptrB (ρ xp)) (ptrO (ρ xp)) 32) :
    Sem.run Try.prog (execOp ρ ⟨dst, .load 40 xp, ty, pos, af, gd⟩) w = .ok (.value (.agg (rd w (ptrB (ρ xp)) (ptrO (ρ xp)) 32))) w := exec_load_of Try.size40 Try.underlying40 rfl ρ xp dst ty pos af gd w hp hc
theorem exec_load110 (ρ : Operand → Value) (xp : Operand) (dst : Option Tmp) (ty : TypeId) (pos : String) (af : Array Edge) (gd : Option (Nat × Bool)) (w : World)
    (hp : isPtr (ρ xp) = true) (hc : canRd w (ptrB (ρ xp)) (ptrO (ρ xp)) 33) :
    Sem.run Try.prog (execOp ρ ⟨dst, .load 110 xp, ty, pos, af, gd⟩) w = .ok (.value (.agg (rd w (ptrB (ρ xp)) (ptrO (ρ xp)) 33))) w := exec_load_of Try.size110 Try.underlying110 rfl ρ xp dst ty pos af gd w hp hc
theorem exec_load128 (ρ : Operand → Value) (xp : Operand) (dst : Option Tmp) (ty : TypeId) (pos : String) (af : Array Edge) (gd : Option (Nat × Bool)) (w : World)
    (hp : isPtr (ρ xp) = true) (hc : canRd w (ptrB (ρ xp)) (ptrO (ρ xp)) 33) :
    Sem.run Try.prog (execOp ρ ⟨dst, .load 128 xp, ty, pos, af, gd⟩) w = .ok (.value (.agg (rd w (ptrB (ρ xp)) (ptrO (ρ xp)) 33))) w := exec_load_of Try.size128 Try.underlying128 rfl ρ xp dst ty pos af gd w hp hc
theorem exec_load59 (ρ : Operand → Value) (xp : Operand) (dst : Option Tmp) (ty : TypeId) (pos : String) (af : Array Edge) (gd : Option (Nat × Bool)) (w : World)
    (hp : isPtr (ρ xp) = true) (hc : canRd w (ptrB (ρ xp)) (ptrO (ρ xp)) 47) :
    Sem.run Try.prog (execOp ρ ⟨dst, .load 59 xp, ty, pos, af, gd⟩) w = .ok (.value (.agg (rd w (ptrB (ρ xp)) (ptrO (ρ xp)) 47))) w := exec_load_of Try.size59 Try.underlying59 rfl ρ xp dst ty pos af gd w hp hc
theorem exec_load97 (ρ : Operand → Value) (xp : Operand) (dst : Option Tmp) (ty : TypeId) (pos : String) (af : Array Edge) (gd : Option (Nat × Bool)) (w : World)
    (hp : isPtr (ρ xp) = true) (hc : canRd w (ptrB (ρ xp)) (ptrO (ρ xp)) 40) :
    Sem.run Try.prog (execOp ρ ⟨dst, .load 97 xp, ty, pos, af, gd⟩) w = .ok (.value (.agg (rd w (ptrB (ρ xp)) (ptrO (ρ xp)) 40))) w := exec_load_of Try.size97 Try.underlying97 rfl ρ xp dst ty pos af gd w hp hc
theorem exec_store110 (ρ : Operand → Value) (xp xv : Operand) (dst : Option Tmp) (ty : TypeId) (pos : String) (af : Array Edge) (gd : Option (Nat × Bool)) (w : World)
    (hp : isPtr (ρ xp) = true) (ht : w.there (ptrB (ρ xp)) (ptrO (ρ xp)) 33) (hs : (ρ xv).cells.size = 33) (h1 : oneAll (ρ xv) = true) :
    Sem.run Try.prog (execOp ρ ⟨dst, .store 110 xp xv, ty, pos, af, gd⟩) w = .ok .skip (w.setCells (ptrB (ρ xp)) (ptrO (ρ xp)) (ρ xv).cells.toList) := exec_store_of Try.size110 ρ xp xv dst ty pos af gd w hp ht hs h1
theorem exec_store59 (ρ : Operand → Value) (xp xv : Operand) (dst : Option Tmp) (ty : TypeId) (pos : String) (af : Array Edge) (gd : Option (Nat × Bool)) (w : World)
    (hp : isPtr (ρ xp) = true) (ht : w.there (ptrB (ρ xp)) (ptrO (ρ xp)) 47) (hs : (ρ xv).cells.size = 47) (h1 : oneAll (ρ xv) = true) :
    Sem.run Try.prog (execOp ρ ⟨dst, .store 59 xp xv, ty, pos, af, gd⟩) w = .ok .skip (w.setCells (ptrB (ρ xp)) (ptrO (ρ xp)) (ρ xv).cells.toList) := exec_store_of Try.size59 ρ xp xv dst ty pos af gd w hp ht hs h1
theorem exec_store62 (ρ : Operand → Value) (xp xv : Operand) (dst : Option Tmp) (ty : TypeId) (pos : String) (af : Array Edge) (gd : Option (Nat × Bool)) (w : World)
    (hp : isPtr (ρ xp) = true) (ht : w.there (ptrB (ρ xp)) (ptrO (ρ xp)) 49) (hs : (ρ xv).cells.size = 49) (h1 : oneAll (ρ xv) = true) :
    Sem.run Try.prog (execOp ρ ⟨dst, .store 62 xp xv, ty, pos, af, gd⟩) w = .ok .skip (w.setCells (ptrB (ρ xp)) (ptrO (ρ xp)) (ρ xv).cells.toList) := exec_store_of Try.size62 ρ xp xv dst ty pos af gd w hp ht hs h1
theorem exec_store97 (ρ : Operand → Value) (xp xv : Operand) (dst : Option Tmp) (ty : TypeId) (pos : String) (af : Array Edge) (gd : Option (Nat × Bool)) (w : World)
    (hp : isPtr (ρ xp) = true) (ht : w.there (ptrB (ρ xp)) (ptrO (ρ xp)) 40) (hs : (ρ xv).cells.size = 40) (h1 : oneAll (ρ xv) = true) :
    Sem.run Try.prog (execOp ρ ⟨dst, .store 97 xp xv, ty, pos, af, gd⟩) w = .ok .skip (w.setCells (ptrB (ρ xp)) (ptrO (ρ xp)) (ρ xv).cells.toList) := exec_store_of Try.size97 ρ xp xv dst ty pos af gd w hp ht hs h1

end Go.Proofs.Qxb6604712a
