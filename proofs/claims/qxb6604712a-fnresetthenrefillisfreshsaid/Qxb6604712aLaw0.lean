/-
  Seat b6604712a: the boxes, and two rounds filled from one refill.
-/
import Derived.Test.Qxb6604712aBox
namespace Go.Proofs.Qxb6604712a
open Go.RowKit
set_option linter.unusedSimpArgs false
set_option linter.unusedVariables false
attribute [local go_sem ↓] exec_load62 exec_load59 exec_store62 exec_store59
attribute [local go_sem] ptrB ptrO isPtr

theorem BX.drew {w : World} {f : FillD} {r : RefD} {W : World} (h : BX w f r W) : BX w f r W.drew := ⟨h.h1, h.h2, h.bel.drew⟩
theorem BX.drewN {w : World} {f : FillD} {r : RefD} {W : World} (h : BX w f r W) (n : Nat) : BX w f r (W.drewN n) := ⟨h.h1, h.h2, h.bel.trans (below_drewN _ _ _)⟩

/-- The boxes once the copies lie in them. -/
structure BY (w : World) (f : FillD) (r : RefD) (W : World) : Prop where
  h1 : W.rangeAt w.heap.size 0 f.cells
  h2 : W.rangeAt (w.heap.size + 1) 0 r.cells
  bel : Below w.heap.size w W
theorem BY.facts {w : World} {f : FillD} {r : RefD} {W : World} (h : BY w f r W) (hf : f.body.id.length = 32) (hr : r.id.length = 32) :
    rd W w.heap.size 0 49 = f.cells.toArray ∧ canRd W w.heap.size 0 49 ∧ rd W (w.heap.size + 1) 0 47 = r.cells.toArray ∧ canRd W (w.heap.size + 1) 0 47 :=
  ⟨rd_of_range h.h1 (FillD.cells_len hf), canRd_of_range h.h1 (FillD.cells_len hf), rd_of_range h.h2 (RefD.cells_len hr), canRd_of_range h.h2 (RefD.cells_len hr)⟩
theorem BY.below {w : World} {f : FillD} {r : RefD} {W W' : World} (h : BY w f r W) (hw : w.heap.size ≤ W.heap.size) (hb : Below W.heap.size W W') : BY w f r W' :=
  ⟨rangeAt_below h.h1 hb, rangeAt_below h.h2 hb, h.bel.trans (hb.mono hw)⟩
theorem BY.steps {w : World} {f : FillD} {r : RefD} {W W' : World} {P : Nat → Prop} (h : BY w f r W) (hs : Steps P W W') (hP : ∀ k, k < w.heap.size + 2 → P k) : BY w f r W' :=
  ⟨hs.range (hP _ (by omega)) h.h1, hs.range (hP _ (by omega)) h.h2, h.bel.trans (hs.below (fun k hk => hP k (by omega)))⟩

theorem fill_eq (a : StD) (g : Nat) (r : RefD) (us1 us2 : List VoteD) (ps1 ps2 : List PowD) :
    a.fill g r us1 us2 ps1 ps2 = ⟨a.round, (a.prop0 g r).prop, (a.prop0 g r).held, a.vs1 ++ us1, a.ps1 ++ ps1, r.pt, a.vs2 ++ us2, a.ps2 ++ ps2, r.ct, a.ws, a.sp⟩ := by
  unfold StD.fill StD.prop0
  cases r.hp <;> rfl

theorem heldZero_eq : heldZero = propCells (.slice none 0 0) (List.replicate 32 0) 0 (.slice none 0 0) false false false false false := by
  simp [heldZero, propCells]

/-- Two rounds filled from one refill are the same. -/
theorem same_end (rn : Int) (g1 g2 : Nat) (P1 P2 : Nat → Prop) (r : RefD) (bv bg : List Int) (us1 us2 : List VoteD) (ps1 ps2 : List PowD) (n : Nat) (w : World) (hr : r.Ok w bv bg us1 us2 ps1 ps2)
    (h1 : IsS w P1 g1 (StD.fill ⟨rn, .pointer none, heldZero, [], [], 0, [], [], 0, List.replicate n 0, 0⟩ g1 r us1 us2 ps1 ps2)) (h2 : IsS w P2 g2 ((stZero rn).fill g2 r us1 us2 ps1 ps2)) (hn : n ≤ 1048576)
    (l1 : us1.length ≤ 1048576) (l2 : us2.length ≤ 1048576) (l3 : ps1.length ≤ 1048576) (l4 : ps2.length ≤ 1048576) :
    Calls Try.prog 36 #[.pointer (some ⟨g1, 0, none⟩), .pointer (some ⟨g2, 0, none⟩)] w fun e w' => e = .returned (.bool true) ∧ Below w.heap.size w w' := by
  obtain ⟨a1, m1, c1, e1⟩ := hr.value.form
  obtain ⟨a2, m2, c2, e2⟩ := hr.sig.form
  have hv : bytesAt w (.slice a1 m1 c1) bv := e1 ▸ hr.value
  have hg : bytesAt w (.slice a2 m2 c2) bg := e2 ▸ hr.sig
  rw [fill_eq] at h1 h2
  have hnil : bytesAt w (.slice none 0 0) [] := ⟨none, 0, rfl, by simp, by simp, .inl rfl⟩
  have hall : ∀ (a : StD) (st : Int), st = 1 ∨ st = 2 → a.vs1 = us1 → a.vs2 = us2 → a.ps1 = ps1 → a.ps2 = ps2 → (∀ x ∈ a.vs st, x.ok w) ∧ (a.vs st).length ≤ 1048576 ∧ (a.ps st).length ≤ 1048576 ∧ (∀ x ∈ a.ps st, x.id.length = 32) := by
    intro a st hst q1 q2 q3 q4
    rcases hst with rfl | rfl
    · have z1 : a.vs 1 = a.vs1 := rfl
      have z2 : a.ps 1 = a.ps1 := rfl
      rw [z1, z2, q1, q3]
      exact ⟨hr.pv.2, l1, l3, hr.pp.2⟩
    · have z1 : a.vs 2 = a.vs2 := rfl
      have z2 : a.ps 2 = a.ps2 := rfl
      rw [z1, z2, q2, q4]
      exact ⟨hr.pc.2, l2, l4, hr.cp.2⟩
  cases hp : r.hp
  · simp only [StD.prop0, hp, stZero] at h1 h2
    refine sameState_any g1 g2 P1 P2 _ _ none none none none 0 0 0 0 (List.replicate 32 0) (by simp) 0 false false false false false [] [] w h1 h2 rfl rfl rfl rfl heldZero_eq heldZero_eq hnil hnil ?_ ?_ rfl (by simpa using hn) rfl
    · intro st hst
      exact ⟨rfl, rfl, rfl, hall _ st hst rfl rfl rfl rfl⟩
    · intro k hk
      simp
  · simp only [StD.prop0, hp, stZero, StD.setProp, if_true] at h1 h2
    rw [e1, e2] at h1 h2
    refine sameState_any g1 g2 P1 P2 _ _ (some ⟨g1, 2, none⟩) (some ⟨g2, 2, none⟩) a1 a2 m1 m2 c1 c2 r.id hr.id r.vr r.c1 r.c2 r.c3 r.c4 r.c5 bv bg w h1 h2 rfl rfl rfl rfl rfl rfl hv hg ?_ ?_ rfl (by simpa using hn) rfl
    · intro st hst
      exact ⟨rfl, rfl, rfl, hall _ st hst rfl rfl rfl rfl⟩
    · intro k hk
      simp

end Go.Proofs.Qxb6604712a
