/-
  Seat b6604712a: cloneRefill, cloneFill.
-/
import Derived.Test.Qxb6604712aClone3
namespace Go.Proofs.Qxb6604712a
open Go.RowKit
set_option linter.unusedSimpArgs false
set_option linter.unusedVariables false
attribute [local go_sem ↓] exec_load59 exec_store59
attribute [local go_sem] ptrB ptrO isPtr

/-- A Refill as its cells hold it. -/
structure RefD where
  hp : Bool
  value : Value
  id : List Int
  vr : Int
  sig : Value
  c1 : Bool
  c2 : Bool
  c3 : Bool
  c4 : Bool
  c5 : Bool
  pv : Value
  pc : Value
  pp : Value
  cp : Value
  pt : Int
  ct : Int
def RefD.cells (r : RefD) : List Value := .bool r.hp :: r.value :: (r.id.map (Value.int .u8) ++ [.int .i64 r.vr, r.sig, .bool r.c1, .bool r.c2, .bool r.c3, .bool r.c4, .bool r.c5, r.pv, r.pc, r.pp, r.cp, .int .i64 r.pt, .int .i64 r.ct])

structure RefD.Ok (w : World) (r : RefD) (bv bg : List Int) (vs1 vs2 : List VoteD) (ps1 ps2 : List PowD) : Prop where
  id : r.id.length = 32
  value : bytesAt w r.value bv
  sig : bytesAt w r.sig bg
  pv : votesAt w r.pv vs1
  pc : votesAt w r.pc vs2
  pp : powersAt w r.pp ps1
  cp : powersAt w r.cp ps2

theorem RefD.Ok.below {w w' : World} {r : RefD} {bv bg : List Int} {vs1 vs2 : List VoteD} {ps1 ps2 : List PowD} (h : r.Ok w bv bg vs1 vs2 ps1 ps2) (hb : Below w.heap.size w w') : r.Ok w' bv bg vs1 vs2 ps1 ps2 :=
  ⟨h.id, h.value.below hb, h.sig.below hb, h.pv.below hb, h.pc.below hb, h.pp.below hb, h.cp.below hb⟩

theorem RefD.cells_len {r : RefD} (h : r.id.length = 32) : r.cells.length = 47 := by simp [RefD.cells, h]
theorem RefD.g0 (r : RefD) : r.cells[0]? = some (.bool r.hp) := rfl
theorem RefD.g1 (r : RefD) : r.cells[1]? = some r.value := rfl
theorem RefD.g34 {r : RefD} (h : r.id.length = 32) : r.cells[34]? = some (.int .i64 r.vr) := by simp [RefD.cells, h]
theorem RefD.g35 {r : RefD} (h : r.id.length = 32) : r.cells[35]? = some (r.sig) := by simp [RefD.cells, h]
theorem RefD.g36 {r : RefD} (h : r.id.length = 32) : r.cells[36]? = some (.bool r.c1) := by simp [RefD.cells, h]
theorem RefD.g37 {r : RefD} (h : r.id.length = 32) : r.cells[37]? = some (.bool r.c2) := by simp [RefD.cells, h]
theorem RefD.g38 {r : RefD} (h : r.id.length = 32) : r.cells[38]? = some (.bool r.c3) := by simp [RefD.cells, h]
theorem RefD.g39 {r : RefD} (h : r.id.length = 32) : r.cells[39]? = some (.bool r.c4) := by simp [RefD.cells, h]
theorem RefD.g40 {r : RefD} (h : r.id.length = 32) : r.cells[40]? = some (.bool r.c5) := by simp [RefD.cells, h]
theorem RefD.g41 {r : RefD} (h : r.id.length = 32) : r.cells[41]? = some (r.pv) := by simp [RefD.cells, h]
theorem RefD.g42 {r : RefD} (h : r.id.length = 32) : r.cells[42]? = some (r.pc) := by simp [RefD.cells, h]
theorem RefD.g43 {r : RefD} (h : r.id.length = 32) : r.cells[43]? = some (r.pp) := by simp [RefD.cells, h]
theorem RefD.g44 {r : RefD} (h : r.id.length = 32) : r.cells[44]? = some (r.cp) := by simp [RefD.cells, h]
theorem RefD.g45 {r : RefD} (h : r.id.length = 32) : r.cells[45]? = some (.int .i64 r.pt) := by simp [RefD.cells, h]
theorem RefD.g46 {r : RefD} (h : r.id.length = 32) : r.cells[46]? = some (.int .i64 r.ct) := by simp [RefD.cells, h]

/-- All that a Refill leads to lies in block n or behind it. -/
structure RefD.From (n : Nat) (r : RefD) (vs1 vs2 : List VoteD) : Prop where
  value : fromB n r.value
  sig : fromB n r.sig
  pv : fromB n r.pv ∧ ∀ x ∈ vs1, fromB n x.ext ∧ fromB n x.sig
  pc : fromB n r.pc ∧ ∀ x ∈ vs2, fromB n x.ext ∧ fromB n x.sig
  pp : fromB n r.pp
  cp : fromB n r.cp
theorem fromVs_mono {n m : Nat} {v : Value} {vs : List VoteD} (h : fromB n v ∧ ∀ x ∈ vs, fromB n x.ext ∧ fromB n x.sig) (hm : m ≤ n) : fromB m v ∧ ∀ x ∈ vs, fromB m x.ext ∧ fromB m x.sig :=
  ⟨h.1.mono hm, fun x hx => ⟨(h.2 x hx).1.mono hm, (h.2 x hx).2.mono hm⟩⟩
theorem RefD.From.mono {n m : Nat} {r : RefD} {vs1 vs2 : List VoteD} (h : r.From n vs1 vs2) (hm : m ≤ n) : r.From m vs1 vs2 :=
  ⟨h.value.mono hm, h.sig.mono hm, fromVs_mono h.pv hm, fromVs_mono h.pc hm, h.pp.mono hm, h.cp.mono hm⟩

theorem RefD.set_all {r : RefD} (h : r.id.length = 32) (a b c d e f : Value) :
    ((((((r.cells.set 1 a).set 35 b).set 41 c).set 42 d).set 43 e).set 44 f) = (RefD.mk r.hp a r.id r.vr b r.c1 r.c2 r.c3 r.c4 r.c5 c d e f r.pt r.ct).cells := by
  simp [RefD.cells, List.set_append, h]
theorem RefD.oneAll {w : World} {r : RefD} {bv bg : List Int} {vs1 vs2 : List VoteD} {ps1 ps2 : List PowD} (hok : r.Ok w bv bg vs1 vs2 ps1 ps2) : Qxb6604712a.oneAll (.agg r.cells.toArray) = true := by
  have e1 : ∀ (n : Int), (Value.int .i64 n).oneCell' = true := fun _ => rfl
  have e2 : ∀ (b : Bool), (Value.bool b).oneCell' = true := fun _ => rfl
  simp only [Qxb6604712a.oneAll, Value.cells, RefD.cells, List.all_toArray, List.all_cons, List.all_append, oneAll_bytes, e1, e2, oneCell_of_slice hok.value, oneCell_of_slice hok.sig, oneCell_of_slice hok.pv.1, oneCell_of_slice hok.pc.1, oneCell_of_slice hok.pp.1, oneCell_of_slice hok.cp.1, List.all_nil, Bool.and_self]

/-- What stands while cloneRefill goes on: the parameter's box, the result's variable, the copy. -/
structure CR (w : World) (cs cur : List Value) (W : World) : Prop where
  box : W.heap[w.heap.size]? = some (.cells cs.toArray 59 (0, 0))
  res : ∃ z : List Value, z.length = 47 ∧ W.heap[w.heap.size + 1]? = some (.cells z.toArray 59 (0, 0))
  copy : W.heap[w.heap.size + 1 + 1]? = some (.cells cur.toArray 59 (0, 0))
  bel : Below w.heap.size w W

theorem CR.lt {w : World} {cs cur : List Value} {W : World} (h : CR w cs cur W) : w.heap.size + 3 ≤ W.heap.size := (Array.getElem?_eq_some_iff.1 h.copy).1
theorem CR.below {w : World} {cs cur : List Value} {W W' : World} (h : CR w cs cur W) (hb : Below W.heap.size W W') : CR w cs cur W' := by
  have hl := h.lt
  obtain ⟨z, hz, hr⟩ := h.res
  exact ⟨by rw [hb.block _ (by omega)]; exact h.box, ⟨z, hz, by rw [hb.block _ (by omega)]; exact hr⟩, by rw [hb.block _ (by omega)]; exact h.copy, below_then h.bel (Nat.le_refl _) hb⟩
theorem CR.set {w : World} {cs cur : List Value} {W : World} (h : CR w cs cur W) (i : Nat) (v : Value) : CR w cs (cur.set i v) (W.setCell ⟨w.heap.size + 1 + 1, i, none⟩ v) := by
  obtain ⟨z, hz, hr⟩ := h.res
  refine ⟨by rw [Below.heap_setCell _ _ _ _ (by simp only; omega)]; exact h.box, ⟨z, hz, by rw [Below.heap_setCell _ _ _ _ (by simp only; omega)]; exact hr⟩, ?_, h.bel.setCell (by simp only; omega) _⟩
  rw [heap_setCell_same W _ i cur.toArray 59 v h.copy]; simp
theorem CR.cell {w : World} {cs cur : List Value} {W : World} (h : CR w cs cur W) (i : Nat) : W.cell? ⟨w.heap.size, i, none⟩ = cs[i]? := cell_of_block h.box i
theorem CR.dst {w : World} {cs cur : List Value} {W : World} (h : CR w cs cur W) (i : Nat) (hi : i < cur.length) : W.cell? ⟨w.heap.size + 1 + 1, i, none⟩ = some cur[i] := by
  rw [cell_of_block h.copy i, List.getElem?_eq_getElem hi]
theorem CR.fro {w : World} {cs cur : List Value} {W : World} (h : CR w cs cur W) (i : Nat) : W.frozen? ⟨w.heap.size + 1 + 1, i, none⟩ = false := frozen_of_row W _ i _ _ h.copy

/-- Of the blocks that were there, all but two are as they were. -/
structure Apart (B1 B2 : Nat) (w w' : World) : Prop where
  size : w.heap.size ≤ w'.heap.size
  block : ∀ k, k < w.heap.size → k ≠ B1 → k ≠ B2 → w'.heap[k]? = w.heap[k]?
theorem Apart.trans {B1 B2 : Nat} {a b c : World} (h : Apart B1 B2 a b) (k : Apart B1 B2 b c) : Apart B1 B2 a c :=
  ⟨Nat.le_trans h.size k.size, fun i hi h1 h2 => (k.block i (Nat.lt_of_lt_of_le hi h.size) h1 h2).trans (h.block i hi h1 h2)⟩
theorem Apart.below {B1 B2 : Nat} {a b : World} (h : Below a.heap.size a b) : Apart B1 B2 a b := ⟨h.size, fun k hk _ _ => h.block k hk⟩
theorem Apart.set1 {B1 B2 : Nat} (w : World) (o : Nat) (vs : List Value) : Apart B1 B2 w (w.setCells B1 o vs) := ⟨by rw [size_setCells']; exact Nat.le_refl _, fun k _ h _ => heap_setCells_other _ _ _ _ _ h⟩
theorem Apart.set2 {B1 B2 : Nat} (w : World) (o : Nat) (vs : List Value) : Apart B1 B2 w (w.setCells B2 o vs) := ⟨by rw [size_setCells']; exact Nat.le_refl _, fun k _ _ h => heap_setCells_other _ _ _ _ _ h⟩
theorem sliceAt.apart {B1 B2 : Nat} {w w' : World} {s : Nat} {v : Value} {n : Nat} {cs : List Value} (h : sliceAt w s v n cs) (ha : Apart B1 B2 w w') {m : Nat} (hf : fromB m v) (h1 : B1 < m) (h2 : B2 < m) : sliceAt w' s v n cs := by
  obtain ⟨a, cap, rfl, q1, q2, q3⟩ := h
  refine ⟨a, cap, rfl, q1, q2, ?_⟩
  rcases q3 with h | ⟨b, o, rfl, h⟩
  · exact .inl h
  · refine .inr ⟨b, o, rfl, fun j v hv => ?_⟩
    have hc := h j v hv
    have hb : m ≤ b := hf
    rw [World.cell?_of_block (w := w) (ha.block b (World.block_lt_of_cell? _ _ hc) (by omega) (by omega))]
    exact hc
theorem votesAt.apart {B1 B2 : Nat} {w w' : World} {v : Value} {us : List VoteD} (h : votesAt w v us) (ha : Apart B1 B2 w w') {m : Nat} (hf : fromB m v ∧ ∀ x ∈ us, fromB m x.ext ∧ fromB m x.sig) (h1 : B1 < m) (h2 : B2 < m) : votesAt w' v us :=
  ⟨h.1.apart ha hf.1 h1 h2, fun x hx => ⟨(h.2 x hx).1, let ⟨bs, hbs⟩ := (h.2 x hx).2.1; ⟨bs, sliceAt.apart hbs ha (hf.2 x hx).1 h1 h2⟩, let ⟨bs, hbs⟩ := (h.2 x hx).2.2; ⟨bs, sliceAt.apart hbs ha (hf.2 x hx).2 h1 h2⟩⟩⟩
theorem powersAt.apart {B1 B2 : Nat} {w w' : World} {v : Value} {us : List PowD} (h : powersAt w v us) (ha : Apart B1 B2 w w') {m : Nat} (hf : fromB m v) (h1 : B1 < m) (h2 : B2 < m) : powersAt w' v us := ⟨h.1.apart ha hf h1 h2, h.2⟩

theorem RefD.Ok.apart {B1 B2 : Nat} {w w' : World} {r : RefD} {bv bg : List Int} {vs1 vs2 : List VoteD} {ps1 ps2 : List PowD} (h : r.Ok w bv bg vs1 vs2 ps1 ps2) (ha : Apart B1 B2 w w') {m : Nat} (hf : r.From m vs1 vs2) (h1 : B1 < m) (h2 : B2 < m) : r.Ok w' bv bg vs1 vs2 ps1 ps2 :=
  ⟨h.id, sliceAt.apart h.value ha hf.value h1 h2, sliceAt.apart h.sig ha hf.sig h1 h2, h.pv.apart ha hf.pv h1 h2, h.pc.apart ha hf.pc h1 h2, h.pp.apart ha hf.pp h1 h2, h.cp.apart ha hf.cp h1 h2⟩

theorem sliceAt.setCell {w : World} {s : Nat} {v : Value} {n : Nat} {cs : List Value} (h : sliceAt w s v n cs) {m b : Nat} (hf : fromB m v) (hm : b < m) (o : Nat) (u : Value) : sliceAt (w.setCell ⟨b, o, none⟩ u) s v n cs :=
  h.setCells hf hm o [u]

theorem CR.init (w : World) (cs : List Value) (z1 z2 : Array Value) (h1 : z1.size = 47) (h2 : z2.size = 47) (hl : cs.length = 47) :
    CR w cs cs ((((w.alloc (.cells cs.toArray 59)).alloc (.cells z1 59)).alloc (.cells z2 59)).setCells (w.heap.size + 1 + 1) 0 cs) := by
  have s1 : (w.alloc (.cells cs.toArray 59)).heap.size = w.heap.size + 1 := by simp
  have s2 : ((w.alloc (.cells cs.toArray 59)).alloc (.cells z1 59)).heap.size = w.heap.size + 1 + 1 := by simp
  have b1 : Below w.heap.size w (w.alloc (.cells cs.toArray 59)) := (Below.refl _ _).alloc (Nat.le_refl _) _
  have b2 := b1.alloc (by omega) (.cells z1 59)
  have b3 := b2.alloc (by omega) (.cells z2 59)
  refine ⟨?_, ⟨z1.toList, by simpa using h1, ?_⟩, ?_, below_setCells' b3 (by omega) _ _⟩
  · rw [heap_setCells_other _ _ _ _ _ (by omega), Below.heap_alloc _ _ _ (by omega), Below.heap_alloc _ _ _ (by omega)]
    exact heap_alloc_new _ _
  · rw [heap_setCells_other _ _ _ _ _ (by omega), Below.heap_alloc _ _ _ (by omega)]
    have := heap_alloc_new (w.alloc (.cells cs.toArray 59)) (.cells z1 59)
    rw [s1] at this
    simpa using this
  · have := heap_alloc_new ((w.alloc (.cells cs.toArray 59)).alloc (.cells z1 59)) (.cells z2 59)
    rw [s2] at this
    have := heap_setCells_same (w.heap.size + 1 + 1) 59 cs 0 (((w.alloc (.cells cs.toArray 59)).alloc (.cells z1 59)).alloc (.cells z2 59)) z2.toList this (by simp; omega)
    rw [this, overlay, List.take_zero, List.nil_append, List.drop_eq_nil_of_le (by simp; omega), List.append_nil]

set_option maxRecDepth 100000 in
set_option maxHeartbeats 2000000 in
theorem cloneRefill_any (r : RefD) (bv bg : List Int) (vs1 vs2 : List VoteD) (ps1 ps2 : List PowD) (w : World) (hok : r.Ok w bv bg vs1 vs2 ps1 ps2)
    (hbv : bv.length ≤ 1048576) (hbg : bg.length ≤ 1048576) (hn1 : vs1.length ≤ 65536) (hn2 : vs2.length ≤ 65536) (hp1 : ps1.length ≤ 65536) (hp2 : ps2.length ≤ 65536)
    (hs1 : ∀ x ∈ vs1, lenV x.ext ≤ 1048576 ∧ lenV x.sig ≤ 1048576) (hs2 : ∀ x ∈ vs2, lenV x.ext ≤ 1048576 ∧ lenV x.sig ≤ 1048576) :
    Calls Try.prog 31 #[.agg r.cells.toArray] w fun e w' => ∃ (r' : RefD) (us1 us2 : List VoteD), e = .returned (.agg r'.cells.toArray) ∧ r'.Ok w' bv bg us1 us2 ps1 ps2 ∧ us1.length = vs1.length ∧ us2.length = vs2.length ∧ r'.From w.heap.size us1 us2 ∧ Below w.heap.size w w' := by
  have hid := hok.id
  have hlen := RefD.cells_len hid
  have hone := RefD.oneAll hok
  have hrd0 : ∀ o, rd (w.alloc (.cells r.cells.toArray 59) |>.alloc o) w.heap.size 0 47 = r.cells.toArray := fun o =>
    rd_of_range (World.rangeAt_alloc (range_of_block (heap_alloc_new w _) 0 _ (fun j v hv => by simpa using hv)) o) hlen
  have hcr0 : ∀ o, canRd (w.alloc (.cells r.cells.toArray 59) |>.alloc o) w.heap.size 0 47 := fun o =>
    canRd_of_range (World.rangeAt_alloc (range_of_block (heap_alloc_new w _) 0 _ (fun j v hv => by simpa using hv)) o) hlen
  have hth0 : ∀ (o1 o2 : Obj) (z : Array Value), z.size = 47 → (((w.alloc o1).alloc o2).alloc (.cells z 59)).there (w.heap.size + 1 + 1) 0 47 := fun o1 o2 z hz =>
    there_of_block (cur := z.toList) (by have := heap_alloc_new ((w.alloc o1).alloc o2) (.cells z 59); simpa using this) 0 47 (by simp [hz])
  have hsrc0 : ∀ (o1 o2 : Obj), ((((w.alloc (.cells r.cells.toArray 59)).alloc o1).alloc o2).setCells (w.heap.size + 1 + 1) 0 r.cells).cell? ⟨w.heap.size, 1, none⟩ = some r.value := fun o1 o2 => by
    rw [World.cell?_setCells_out _ _ _ _ _ (fun h => by simp only at h; omega)]
    exact cell_alloc2 (by rw [cell_of_block (heap_alloc_new _ _)]; exact RefD.g1 _) _ _
  go_enter Try.func31, Try.ntmps31
  go_wp2_with fail
  generalize hW : World.setCells _ (w.heap.size + 1 + 1) 0 r.cells = W
  have hcr : CR w r.cells r.cells W := by rw [← hW]; exact CR.init w r.cells _ _ (by simp) (by simp) hlen
  clear hW hrd0 hcr0 hth0 hone hsrc0
  refine (cloneBytes_any r.value bv _ (hok.value.below hcr.bel) hbv).mono ?_
  rintro e w0 ⟨v0, rfl, hv0, hf0, hbel0⟩
  obtain ⟨a0, n0, cp0, rfl⟩ := hv0.form
  have hcw0 := hcr.below hbel0
  have dst0 := hcw0.dst 1 (by simp [hlen])
  have fro0 := hcw0.fro 1
  have src1 : w0.cell? ⟨w.heap.size, 35, none⟩ = some r.sig := by rw [hcw0.cell]; exact RefD.g35 hid
  go_wp2_with fail
  generalize hW0 : World.setCell w0 _ _ = W0
  have hcr0 := hcw0.set 1 (.slice a0 n0 cp0)
  rw [hW0] at hcr0
  have ap0 : Apart (w.heap.size + 1) (w.heap.size + 1 + 1) w0 W0 := by rw [← hW0]; exact Apart.set2 w0 1 [.slice a0 n0 cp0]
  have lt0 := hcr.lt
  clear dst0 fro0 src1 hW0
  refine (cloneBytes_any r.sig bg _ (hok.sig.below hcr0.bel) hbg).mono ?_
  rintro e w1 ⟨v1, rfl, hv1, hf1, hbel1⟩
  obtain ⟨a1, n1, cp1, rfl⟩ := hv1.form
  have hcw1 := hcr0.below hbel1
  have dst1 := hcw1.dst 35 (by simp [hlen])
  have fro1 := hcw1.fro 35
  have src2 : w1.cell? ⟨w.heap.size, 41, none⟩ = some r.pv := by rw [hcw1.cell]; exact RefD.g41 hid
  go_wp2_with fail
  generalize hW1 : World.setCell w1 _ _ = W1
  have hcr1 := hcw1.set 35 (.slice a1 n1 cp1)
  rw [hW1] at hcr1
  have ap1 : Apart (w.heap.size + 1) (w.heap.size + 1 + 1) w1 W1 := by rw [← hW1]; exact Apart.set2 w1 35 [.slice a1 n1 cp1]
  have ap0 := (ap0.trans (Apart.below hbel1)).trans ap1
  have lt1 := hcr0.lt
  clear dst1 fro1 src2 hW1
  refine (cloneVotes_any r.pv vs1 _ (hok.pv.below hcr1.bel) hn1 hs1).mono ?_
  rintro e w2 ⟨v2, us2, rfl, hv2, hfr2, hidv2, hf2, hbel2⟩
  obtain ⟨a2, n2, cp2, rfl⟩ := hv2.1.form
  have hcw2 := hcr1.below hbel2
  have dst2 := hcw2.dst 41 (by simp [hlen])
  have fro2 := hcw2.fro 41
  have src3 : w2.cell? ⟨w.heap.size, 42, none⟩ = some r.pc := by rw [hcw2.cell]; exact RefD.g42 hid
  go_wp2_with fail
  generalize hW2 : World.setCell w2 _ _ = W2
  have hcr2 := hcw2.set 41 (.slice a2 n2 cp2)
  rw [hW2] at hcr2
  have ap2 : Apart (w.heap.size + 1) (w.heap.size + 1 + 1) w2 W2 := by rw [← hW2]; exact Apart.set2 w2 41 [.slice a2 n2 cp2]
  have ap0 := (ap0.trans (Apart.below hbel2)).trans ap2
  have ap1 := (ap1.trans (Apart.below hbel2)).trans ap2
  have lt2 := hcr1.lt
  clear dst2 fro2 src3 hW2
  refine (cloneVotes_any r.pc vs2 _ (hok.pc.below hcr2.bel) hn2 hs2).mono ?_
  rintro e w3 ⟨v3, us3, rfl, hv3, hfr3, hidv3, hf3, hbel3⟩
  obtain ⟨a3, n3, cp3, rfl⟩ := hv3.1.form
  have hcw3 := hcr2.below hbel3
  have dst3 := hcw3.dst 42 (by simp [hlen])
  have fro3 := hcw3.fro 42
  have src4 : w3.cell? ⟨w.heap.size, 43, none⟩ = some r.pp := by rw [hcw3.cell]; exact RefD.g43 hid
  go_wp2_with fail
  generalize hW3 : World.setCell w3 _ _ = W3
  have hcr3 := hcw3.set 42 (.slice a3 n3 cp3)
  rw [hW3] at hcr3
  have ap3 : Apart (w.heap.size + 1) (w.heap.size + 1 + 1) w3 W3 := by rw [← hW3]; exact Apart.set2 w3 42 [.slice a3 n3 cp3]
  have ap0 := (ap0.trans (Apart.below hbel3)).trans ap3
  have ap1 := (ap1.trans (Apart.below hbel3)).trans ap3
  have ap2 := (ap2.trans (Apart.below hbel3)).trans ap3
  have lt3 := hcr2.lt
  clear dst3 fro3 src4 hW3
  refine (clonePowers_any r.pp ps1 _ (hok.pp.below hcr3.bel) hp1).mono ?_
  rintro e w4 ⟨v4, rfl, hv4, hf4, hbel4⟩
  obtain ⟨a4, n4, cp4, rfl⟩ := hv4.1.form
  have hcw4 := hcr3.below hbel4
  have dst4 := hcw4.dst 43 (by simp [hlen])
  have fro4 := hcw4.fro 43
  have src5 : w4.cell? ⟨w.heap.size, 44, none⟩ = some r.cp := by rw [hcw4.cell]; exact RefD.g44 hid
  go_wp2_with fail
  generalize hW4 : World.setCell w4 _ _ = W4
  have hcr4 := hcw4.set 43 (.slice a4 n4 cp4)
  rw [hW4] at hcr4
  have ap4 : Apart (w.heap.size + 1) (w.heap.size + 1 + 1) w4 W4 := by rw [← hW4]; exact Apart.set2 w4 43 [.slice a4 n4 cp4]
  have ap0 := (ap0.trans (Apart.below hbel4)).trans ap4
  have ap1 := (ap1.trans (Apart.below hbel4)).trans ap4
  have ap2 := (ap2.trans (Apart.below hbel4)).trans ap4
  have ap3 := (ap3.trans (Apart.below hbel4)).trans ap4
  have lt4 := hcr3.lt
  clear dst4 fro4 src5 hW4
  refine (clonePowers_any r.cp ps2 _ (hok.cp.below hcr4.bel) hp2).mono ?_
  rintro e w5 ⟨v5, rfl, hv5, hf5, hbel5⟩
  obtain ⟨a5, n5, cp5, rfl⟩ := hv5.1.form
  have hcw5 := hcr4.below hbel5
  have dst5 := hcw5.dst 44 (by simp [hlen])
  have fro5 := hcw5.fro 44
  have hcr5 := hcw5.set 44 (.slice a5 n5 cp5)
  have ap5 : Apart (w.heap.size + 1) (w.heap.size + 1 + 1) w5 (w5.setCell ⟨w.heap.size + 1 + 1, 44, none⟩ (.slice a5 n5 cp5)) := Apart.set2 w5 44 [.slice a5 n5 cp5]
  have ap0 := (ap0.trans (Apart.below hbel5)).trans ap5
  have ap1 := (ap1.trans (Apart.below hbel5)).trans ap5
  have ap2 := (ap2.trans (Apart.below hbel5)).trans ap5
  have ap3 := (ap3.trans (Apart.below hbel5)).trans ap5
  have ap4 := (ap4.trans (Apart.below hbel5)).trans ap5
  have lt5 := hcr4.lt
  rw [RefD.set_all hid] at hcr5
  have hokr : (RefD.mk r.hp (.slice a0 n0 cp0) r.id r.vr (.slice a1 n1 cp1) r.c1 r.c2 r.c3 r.c4 r.c5 (.slice a2 n2 cp2) (.slice a3 n3 cp3) (.slice a4 n4 cp4) (.slice a5 n5 cp5) r.pt r.ct).Ok (w5.setCell ⟨w.heap.size + 1 + 1, 44, none⟩ (.slice a5 n5 cp5)) bv bg us2 us3 ps1 ps2 :=
    ⟨hid, hv0.apart ap0 hf0 (by omega) (by omega), hv1.apart ap1 hf1 (by omega) (by omega), hv2.apart ap2 hf2 (by omega) (by omega), hv3.apart ap3 hf3 (by omega) (by omega), hv4.apart ap4 hf4 (by omega) (by omega), hv5.apart ap5 hf5 (by omega) (by omega)⟩
  have apf := Apart.set1 (B1 := w.heap.size + 1) (B2 := w.heap.size + 1 + 1) (w5.setCell ⟨w.heap.size + 1 + 1, 44, none⟩ (.slice a5 n5 cp5)) 0 (RefD.mk r.hp (.slice a0 n0 cp0) r.id r.vr (.slice a1 n1 cp1) r.c1 r.c2 r.c3 r.c4 r.c5 (.slice a2 n2 cp2) (.slice a3 n3 cp3) (.slice a4 n4 cp4) (.slice a5 n5 cp5) r.pt r.ct).cells
  have hokf : (RefD.mk r.hp (.slice a0 n0 cp0) r.id r.vr (.slice a1 n1 cp1) r.c1 r.c2 r.c3 r.c4 r.c5 (.slice a2 n2 cp2) (.slice a3 n3 cp3) (.slice a4 n4 cp4) (.slice a5 n5 cp5) r.pt r.ct).Ok ((w5.setCell ⟨w.heap.size + 1 + 1, 44, none⟩ (.slice a5 n5 cp5)).setCells (w.heap.size + 1) 0 (RefD.mk r.hp (.slice a0 n0 cp0) r.id r.vr (.slice a1 n1 cp1) r.c1 r.c2 r.c3 r.c4 r.c5 (.slice a2 n2 cp2) (.slice a3 n3 cp3) (.slice a4 n4 cp4) (.slice a5 n5 cp5) r.pt r.ct).cells) bv bg us2 us3 ps1 ps2 :=
    ⟨hid, hv0.apart (ap0.trans apf) hf0 (by omega) (by omega), hv1.apart (ap1.trans apf) hf1 (by omega) (by omega), hv2.apart (ap2.trans apf) hf2 (by omega) (by omega), hv3.apart (ap3.trans apf) hf3 (by omega) (by omega), hv4.apart (ap4.trans apf) hf4 (by omega) (by omega), hv5.apart (ap5.trans apf) hf5 (by omega) (by omega)⟩
  have hfrm : (RefD.mk r.hp (.slice a0 n0 cp0) r.id r.vr (.slice a1 n1 cp1) r.c1 r.c2 r.c3 r.c4 r.c5 (.slice a2 n2 cp2) (.slice a3 n3 cp3) (.slice a4 n4 cp4) (.slice a5 n5 cp5) r.pt r.ct).From w.heap.size us2 us3 := ⟨hf0.mono (by omega), hf1.mono (by omega), fromVs_mono hf2 (by omega), fromVs_mono hf3 (by omega), hf4.mono (by omega), hf5.mono (by omega)⟩
  have hl2 : us2.length = vs1.length := by simpa using congrArg List.length hfr2
  have hl3 : us3.length = vs2.length := by simpa using congrArg List.length hfr3
  generalize hr' : RefD.mk r.hp (.slice a0 n0 cp0) r.id r.vr (.slice a1 n1 cp1) r.c1 r.c2 r.c3 r.c4 r.c5 (.slice a2 n2 cp2) (.slice a3 n3 cp3) (.slice a4 n4 cp4) (.slice a5 n5 cp5) r.pt r.ct = r' at hcr5 hokr hokf hfrm
  have hlen' := RefD.cells_len hokr.id
  have hone' := RefD.oneAll hokr
  have hra : (w5.setCell ⟨w.heap.size + 1 + 1, 44, none⟩ (.slice a5 n5 cp5)).rangeAt (w.heap.size + 1 + 1) 0 r'.cells := range_of_block hcr5.copy 0 _ (fun j v hv => by simpa using hv)
  have hrd := rd_of_range hra hlen'
  have hcan := canRd_of_range hra hlen'
  have hth : (w5.setCell ⟨w.heap.size + 1 + 1, 44, none⟩ (.slice a5 n5 cp5)).there (w.heap.size + 1) 0 47 := by
    obtain ⟨z, hz, hzb⟩ := hcr5.res
    exact there_of_block hzb 0 47 (by omega)
  clear hra hr' hcw5 apf
  go_wp2
  exact bodyPost_ret (results_cell_mid Try.results31 _ _ (w.heap.size + 1) 0 r'.cells _ rfl (World.rangeAt_setCells_same _ _ _ _ (by rw [hlen']; exact hth)) Try.underlying59 rfl (by rw [Try.size59, hlen'])) rfl
    ⟨r', us2, us3, rfl, hokf, hl2, hl3, hfrm, below_setCells' hcr5.bel (by omega) _ _⟩

end Go.Proofs.Qxb6604712a
