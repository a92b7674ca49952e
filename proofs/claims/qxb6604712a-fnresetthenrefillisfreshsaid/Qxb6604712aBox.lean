/-
  Seat b6604712a: the two parameters of FnResetThenRefillIsFresh in their boxes.
-/
import Derived.Test.Qxb6604712aSame3
import Derived.Test.Qxb6604712aBytes
import Derived.Test.Qxb6604712aFit
namespace Go.Proofs.Qxb6604712a
open Go.RowKit
set_option linter.unusedSimpArgs false
set_option linter.unusedVariables false

theorem exec_load62 (ρ : Operand → Value) (xp : Operand) (dst : Option Tmp) (ty : TypeId) (pos : String) (af : Array Edge) (gd : Option (Nat × Bool)) (w : World)
    (hp : isPtr (ρ xp) = true) (hc : canRd w (ptrB (ρ xp)) (ptrO (ρ xp)) 49) :
    Sem.run Try.prog (execOp ρ ⟨dst, .load 62 xp, ty, pos, af, gd⟩) w = .ok (.value (.agg (rd w (ptrB (ρ xp)) (ptrO (ρ xp)) 49))) w := exec_load_of Try.size62 Try.underlying62 rfl ρ xp dst ty pos af gd w hp hc

/-- The boxes of the two parameters. -/
structure BX (w : World) (f : FillD) (r : RefD) (W : World) : Prop where
  h1 : W.heap[w.heap.size]? = some (.cells f.cells.toArray 62 (0, 0))
  h2 : W.heap[w.heap.size + 1]? = some (.cells r.cells.toArray 59 (0, 0))
  bel : Below w.heap.size w W
theorem BX.lt {w : World} {f : FillD} {r : RefD} {W : World} (h : BX w f r W) : w.heap.size + 2 ≤ W.heap.size := (Array.getElem?_eq_some_iff.1 h.h2).1
theorem BX.below {w : World} {f : FillD} {r : RefD} {W W' : World} (h : BX w f r W) (hb : Below W.heap.size W W') : BX w f r W' := by
  have := h.lt
  exact ⟨by rw [hb.block _ (by omega)]; exact h.h1, by rw [hb.block _ (by omega)]; exact h.h2, below_then h.bel (Nat.le_refl _) hb⟩
theorem BX.steps {w : World} {f : FillD} {r : RefD} {W W' : World} {P : Nat → Prop} (h : BX w f r W) (hs : Steps P W W') (hP : ∀ k, k < w.heap.size + 2 → P k) : BX w f r W' :=
  ⟨by rw [hs.keep _ (hP _ (by omega))]; exact h.h1, by rw [hs.keep _ (hP _ (by omega))]; exact h.h2, h.bel.trans (hs.below (fun k hk => hP k (by omega)))⟩
theorem BX.init (w : World) (f : FillD) (r : RefD) : BX w f r ((w.alloc (.cells f.cells.toArray 62)).alloc (.cells r.cells.toArray 59)) :=
  ⟨heap_alloc2_old _ _ _, heap_alloc2_new _ _ _, ((Below.refl _ _).alloc (Nat.le_refl _) _).alloc (by simp) _⟩

/-- What the walk asks of the boxes, in one world. -/
structure BF (w : World) (f : FillD) (r : RefD) (W : World) : Prop where
  rF : rd W w.heap.size 0 49 = f.cells.toArray
  cF : canRd W w.heap.size 0 49
  rB : rd W w.heap.size 0 47 = f.body.cells.toArray
  cB : canRd W w.heap.size 0 47
  rR : rd W (w.heap.size + 1) 0 47 = r.cells.toArray
  cR : canRd W (w.heap.size + 1) 0 47
  sn : W.cell? ⟨w.heap.size, 47, none⟩ = some f.sn
  p1 : W.cell? ⟨w.heap.size, 41, none⟩ = some f.body.pv
  p2 : W.cell? ⟨w.heap.size, 42, none⟩ = some f.body.pc
  p3 : W.cell? ⟨w.heap.size + 1, 41, none⟩ = some r.pv
  p4 : W.cell? ⟨w.heap.size + 1, 42, none⟩ = some r.pc
theorem BX.facts {w : World} {f : FillD} {r : RefD} {W : World} (h : BX w f r W) (hf : f.body.id.length = 32) (hr : r.id.length = 32) : BF w f r W := by
  have q1 : W.rangeAt w.heap.size 0 f.cells := range_of_block h.h1 0 _ (fun j v hv => by simpa using hv)
  have q2 : W.rangeAt w.heap.size 0 f.body.cells := range_of_block h.h1 0 _ fun j v hv => by
    have hj := (List.getElem?_eq_some_iff.1 hv).1
    rw [Nat.zero_add, FillD.low hf (by rw [← RefD.cells_len hf]; exact hj)]
    exact hv
  have q3 : W.rangeAt (w.heap.size + 1) 0 r.cells := range_of_block h.h2 0 _ (fun j v hv => by simpa using hv)
  exact ⟨rd_of_range q1 (FillD.cells_len hf), canRd_of_range q1 (FillD.cells_len hf), rd_of_range q2 (RefD.cells_len hf), canRd_of_range q2 (RefD.cells_len hf), rd_of_range q3 (RefD.cells_len hr), canRd_of_range q3 (RefD.cells_len hr),
    by rw [cell_of_block h.h1]; exact FillD.g47 hf, by rw [cell_of_block h.h1, FillD.low hf (by omega)]; exact RefD.g41 hf, by rw [cell_of_block h.h1, FillD.low hf (by omega)]; exact RefD.g42 hf, by rw [cell_of_block h.h2]; exact RefD.g41 hr, by rw [cell_of_block h.h2]; exact RefD.g42 hr⟩

/-- zzBytes at the record's own words. -/
theorem zzBytes_any (rd : Int) (f : FillD) (r : RefD) (bv1 bg1 bv2 bg2 : List Int) (vs1 vs2 us1 us2 : List VoteD) (ps1 ps2 qs1 qs2 : List PowD) (sw : List Int) (w : World) (hf : f.body.Ok w bv1 bg1 vs1 vs2 ps1 ps2) (hs : sliceAt w 1 f.sn sw.length (sw.map (Value.int .u64))) (hr : r.Ok w bv2 bg2 us1 us2 qs1 qs2) :
    Calls Try.prog 27 #[.int .i64 rd, .agg f.cells.toArray, .agg r.cells.toArray] w fun e w' => RetBool True e ∧ Below w.heap.size w w' := by
  obtain ⟨a1, l1, c1, e1⟩ := hf.value.form
  obtain ⟨a4, l4, c4, e4⟩ := hf.sig.form
  obtain ⟨a10, l10, c10, e10⟩ := hf.pv.1.form
  obtain ⟨a11, l11, c11, e11⟩ := hf.pc.1.form
  obtain ⟨a12, l12, c12, e12⟩ := hf.pp.1.form
  obtain ⟨a13, l13, c13, e13⟩ := hf.cp.1.form
  obtain ⟨a15, l15, c15, e15⟩ := hs.form
  obtain ⟨b1, m1, d1, f1⟩ := hr.value.form
  obtain ⟨b4, m4, d4, f4⟩ := hr.sig.form
  obtain ⟨b10, m10, d10, f10⟩ := hr.pv.1.form
  obtain ⟨b11, m11, d11, f11⟩ := hr.pc.1.form
  obtain ⟨b12, m12, d12, f12⟩ := hr.pp.1.form
  obtain ⟨b13, m13, d13, f13⟩ := hr.cp.1.form
  refine (zzBytesReset rd f.cells.toArray r.cells.toArray a1 a4 a10 a11 a12 a13 a15 l1 l4 l10 l11 l12 l13 l15 c1 c4 c10 c11 c12 c13 c15 b1 b4 b10 b11 b12 b13 m1 m4 m10 m11 m12 m13 d1 d4 d10 d11 d12 d13 vs1 vs2 us1 us2 w ?_ ?_ ?_ ?_ ?_ ?_ ?_ ?_ ?_ ?_ ?_ ?_ ?_ ?_ ?_ ?_ ?_).mono ?_
  · simp only [List.getElem?_toArray]; rw [FillD.low hf.id (by omega), RefD.g1, e1]
  · simp only [List.getElem?_toArray]; rw [FillD.low hf.id (by omega), RefD.g35 hf.id, e4]
  · simp only [List.getElem?_toArray]; rw [FillD.low hf.id (by omega), RefD.g41 hf.id, e10]
  · simp only [List.getElem?_toArray]; rw [FillD.low hf.id (by omega), RefD.g42 hf.id, e11]
  · simp only [List.getElem?_toArray]; rw [FillD.low hf.id (by omega), RefD.g43 hf.id, e12]
  · simp only [List.getElem?_toArray]; rw [FillD.low hf.id (by omega), RefD.g44 hf.id, e13]
  · simp only [List.getElem?_toArray]; rw [FillD.g47 hf.id, e15]
  · simp only [List.getElem?_toArray]; rw [RefD.g1, f1]
  · simp only [List.getElem?_toArray]; rw [RefD.g35 hr.id, f4]
  · simp only [List.getElem?_toArray]; rw [RefD.g41 hr.id, f10]
  · simp only [List.getElem?_toArray]; rw [RefD.g42 hr.id, f11]
  · simp only [List.getElem?_toArray]; rw [RefD.g43 hr.id, f12]
  · simp only [List.getElem?_toArray]; rw [RefD.g44 hr.id, f13]
  · rw [← e10]; exact hf.pv
  · rw [← e11]; exact hf.pc
  · rw [← f10]; exact hr.pv
  · rw [← f11]; exact hr.pc
  · rintro e w' ⟨h, rfl⟩
    exact ⟨h, ((Below.refl _ _).alloc (Nat.le_refl _) _).alloc (by simp) _⟩

/-- refillListsFit at the record's own words. -/
theorem fit_is (r : RefD) (bv bg : List Int) (vs1 vs2 : List VoteD) (ps1 ps2 : List PowD) (w : World) (hr : r.Ok w bv bg vs1 vs2 ps1 ps2) :
    Calls Try.prog 28 #[.agg r.cells.toArray] w fun e w' => RetBool (bv.length ≤ 65536 ∧ bg.length ≤ 65536 ∧ vs1.length ≤ 65536 ∧ vs2.length ≤ 65536 ∧ ps1.length ≤ 65536 ∧ ps2.length ≤ 65536) e ∧ Below w.heap.size w w' := by
  obtain ⟨b1, d1, f1, _⟩ := hr.value
  obtain ⟨b4, d4, f4, _⟩ := hr.sig
  obtain ⟨b10, d10, f10, _⟩ := hr.pv.1
  obtain ⟨b11, d11, f11, _⟩ := hr.pc.1
  obtain ⟨b12, d12, f12, _⟩ := hr.pp.1
  obtain ⟨b13, d13, f13, _⟩ := hr.cp.1
  refine (fit_any r.cells.toArray b1 b4 b10 b11 b12 b13 bv.length bg.length vs1.length vs2.length ps1.length ps2.length d1 d4 d10 d11 d12 d13 w ?_ ?_ ?_ ?_ ?_ ?_).mono ?_
  · simp only [List.getElem?_toArray]; rw [RefD.g1, f1]
  · simp only [List.getElem?_toArray]; rw [RefD.g35 hr.id, f4]
  · simp only [List.getElem?_toArray]; rw [RefD.g41 hr.id, f10]
  · simp only [List.getElem?_toArray]; rw [RefD.g42 hr.id, f11]
  · simp only [List.getElem?_toArray]; rw [RefD.g43 hr.id, f12]
  · simp only [List.getElem?_toArray]; rw [RefD.g44 hr.id, f13]
  · rintro e w' ⟨h, rfl⟩
    exact ⟨h, (Below.refl _ _).alloc (Nat.le_refl _) _⟩

end Go.Proofs.Qxb6604712a
