/-
  Seat b6604712a: applyFill.
-/
import Derived.Test.Qxb6604712aApply2
namespace Go.Proofs.Qxb6604712a
open Go.RowKit
set_option linter.unusedSimpArgs false
set_option linter.unusedVariables false
attribute [local go_sem ↓] exec_load59
attribute [local go_sem] ptrB ptrO isPtr

set_option maxRecDepth 100000 in
set_option maxHeartbeats 2000000 in
theorem applyFill_is (g : Nat) (f : FillD) (bv bg : List Int) (us1 us2 : List VoteD) (ps1 ps2 : List PowD) (sw : List Int) (P : Nat → Prop) (a : StD) (w0 w : World) (hok : f.body.Ok w0 bv bg us1 us2 ps1 ps2) (hsn : sliceAt w0 1 f.sn sw.length (sw.map (Value.int .u64))) (hsw : sw.length ≤ 1048576) (hP : ∀ k, k < w0.heap.size → P k) (hb : Below w0.heap.size w0 w) (h : IsS w P g a)
    (hn1 : (a.vs 1).length + us1.length ≤ 1000000) (hn2 : (a.vs 2).length + us2.length ≤ 1000000) (hm1 : (a.ps 1).length + ps1.length ≤ 1000000) (hm2 : (a.ps 2).length + ps2.length ≤ 1000000) :
    Calls Try.prog 33 #[.pointer (some ⟨g, 0, none⟩), .agg f.cells.toArray] w fun e w' => e = .returned (.tuple #[]) ∧ IsS w' P g { a.fill g f.body us1 us2 ps1 ps2 with ws := sw, sp := f.sp } ∧ Steps P w w' := by
  have hid := hok.id
  have hpl : ∀ k, P k → k < w.heap.size := by obtain ⟨_, _, _, _, _, h⟩ := h; exact h.pl
  obtain ⟨W, hW⟩ : ∃ W, W = w.alloc (Obj.cells f.cells.toArray 62) := ⟨_, rfl⟩
  have hbW : Below w.heap.size w W := by rw [hW]; exact (Below.refl _ _).alloc (Nat.le_refl _) _
  have hbx : W.heap[w.heap.size]? = some (.cells f.cells.toArray 62 (0, 0)) := by rw [hW]; exact heap_alloc_new _ _
  have hszW : W.heap.size = w.heap.size + 1 := by rw [hW]; simp
  obtain ⟨Q, hQ⟩ : ∃ Q : Nat → Prop, Q = fun k => P k ∨ k = w.heap.size := ⟨_, rfl⟩
  have hQP : ∀ k, P k → Q k := fun k hk => by rw [hQ]; exact .inl hk
  have hQx : Q w.heap.size := by rw [hQ]; exact .inr rfl
  have hI : IsS W Q g a := by
    obtain ⟨pv, pp, cv, cp, sn, h⟩ := h
    refine ⟨pv, pp, cv, cp, sn, h.below hbW Q fun k hk => ?_⟩
    rw [hQ] at hk
    rcases hk with hk | hk
    · exact ⟨.inl hk, by have := hpl k hk; omega⟩
    · exact ⟨.inr (by omega), by omega⟩
  have hS0 : Steps P w W := Steps.ofBelow hbW hpl
  have hbW0 : Below w0.heap.size w0 W := hb.trans (hbW.mono hb.size)
  have hP0 : ∀ k, k < w0.heap.size → Q k := fun k hk => hQP k (hP k hk)
  have hcell : ∀ {w' : World} {i : Nat} {u : Value}, Steps Q W w' → f.cells[i]? = some u → w'.cell? ⟨w.heap.size, i, none⟩ = some u := fun hs hu => by rw [cell_of_block (by rw [hs.keep _ hQx]; exact hbx)]; exact hu
  have hra : W.rangeAt w.heap.size 0 f.body.cells := range_of_block hbx 0 _ fun j v hv => by
    have hj := (List.getElem?_eq_some_iff.1 hv).1
    rw [Nat.zero_add, FillD.low hid (by rw [← RefD.cells_len hid]; exact hj)]
    exact hv
  have hrd := rd_of_range hra (RefD.cells_len hid)
  have hcr := canRd_of_range hra (RefD.cells_len hid)
  have g47 := FillD.g47 hid
  have g48 := FillD.g48 hid
  have HH : Hid (IsS W Q g a ∧ Steps P w W ∧ Below w0.heap.size w0 W ∧ f.body.Ok w0 bv bg us1 us2 ps1 ps2) := ⟨hI, hS0, hbW0, hok⟩
  clear hok hb hbW hI hS0 hbW0 h hra
  rw [hW] at hrd hcr
  go_enter Try.func33, Try.ntmps33
  go_wp2_with fail
  rw [← hW]
  refine (applyRefill_is g f.body bv bg us1 us2 ps1 ps2 Q a w0 W HH.out.2.2.2 hP0 HH.out.2.2.1 HH.out.1 hn1 hn2 hm1 hm2).mono ?_
  rintro e w1 ⟨rfl, hI1, hS1⟩
  have c47 := hcell hS1 g47
  clear hrd hcr
  go_wp2_with fail
  refine (setSenders_is g f.sn sw Q _ _ hI1 (hsn.below (HH.out.2.2.1.trans (hS1.below hP0))) hsw).mono ?_
  rintro e w2 ⟨rfl, hI2, hS2⟩
  have hT2 := hS1.trans hS2
  have c48 := hcell hT2 g48
  go_wp2_with fail
  refine (setSP_is g f.sp Q _ _ hI2).mono ?_
  rintro e w3 ⟨rfl, hI3, hS3⟩
  go_wp2
  go_end0
  exact ⟨rfl, hI3.mono hQP, HH.out.2.1.trans ((hT2.trans hS3).mono hQP)⟩

end Go.Proofs.Qxb6604712a
