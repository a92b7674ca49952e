/-
  Seat b6604712a: the round's record as memory holds it, and how each step turns it. No walk here.
-/
import Derived.Test.Qxb6604712aState
namespace Go.Proofs.Qxb6604712a
open Go.RowKit
set_option linter.unusedSimpArgs false
set_option linter.unusedVariables false

/-- What a round's record holds. -/
structure StD where
  round : Int
  prop : Value
  held : List Value
  vs1 : List VoteD
  ps1 : List PowD
  pt : Int
  vs2 : List VoteD
  ps2 : List PowD
  ct : Int
  ws : List Int
  sp : Int

def stCells (a : StD) (pv pp cv cp sn : Value) : List Value := .int .i64 a.round :: a.prop :: (a.held ++ [pv, pp, .int .i64 a.pt, cv, cp, .int .i64 a.ct, sn, .int .i64 a.sp])

theorem stCells_len {a : StD} (h : a.held.length = 40) (pv pp cv cp sn : Value) : (stCells a pv pp cv cp sn).length = 50 := by simp [stCells, h]

/-- No two of them share a block. -/
def sep (u v : Value) : Prop := u.ownBlock = none ∨ u.ownBlock ≠ v.ownBlock
theorem sep.symm {u v : Value} (h : sep u v) : sep v u := by
  unfold sep at *
  cases hv : v.ownBlock with
  | none => exact .inl rfl
  | some k =>
    right
    rcases h with h | h
    · rw [h]; simp
    · rw [hv] at h; exact Ne.symm h

/-- Of the blocks that P names nothing turns. -/
structure Steps (P : Nat → Prop) (w w' : World) : Prop where
  os : w'.os = w.os
  tape : w'.tape = w.tape
  output : w'.output = w.output
  size : w.heap.size ≤ w'.heap.size
  keep : ∀ k, P k → w'.heap[k]? = w.heap[k]?
theorem Steps.refl (P : Nat → Prop) (w : World) : Steps P w w := ⟨rfl, rfl, rfl, Nat.le_refl _, fun _ _ => rfl⟩
theorem Steps.trans {P : Nat → Prop} {a b c : World} (h : Steps P a b) (k : Steps P b c) : Steps P a c := ⟨k.os.trans h.os, k.tape.trans h.tape, k.output.trans h.output, Nat.le_trans h.size k.size, fun i hi => (k.keep i hi).trans (h.keep i hi)⟩
theorem Steps.mono {P Q : Nat → Prop} {w w' : World} (h : Steps P w w') (hQ : ∀ k, Q k → P k) : Steps Q w w' := ⟨h.os, h.tape, h.output, h.size, fun k hk => h.keep k (hQ k hk)⟩
theorem Steps.grown {P : Nat → Prop} {w w' : World} {row : Option Nat} (hg : w.grownBy w' row) (hl : ∀ k, P k → k < w.heap.size) (hr : ∀ k, P k → row ≠ some k) : Steps P w w' :=
  ⟨hg.os, hg.tape, hg.output, hg.size, fun k hk => hg.block k (hl k hk) (Ne.symm (hr k hk))⟩
theorem Steps.ofBelow {P : Nat → Prop} {w w' : World} (hb : Below w.heap.size w w') (hl : ∀ k, P k → k < w.heap.size) : Steps P w w' := ⟨hb.os, hb.tape, hb.output, hb.size, fun k hk => hb.block k (hl k hk)⟩
theorem Steps.below {P : Nat → Prop} {w w' : World} {B : Nat} (h : Steps P w w') (hB : ∀ k, k < B → P k) : Below B w w' := ⟨h.os, h.tape, h.output, h.size, fun k hk => h.keep k (hB k hk)⟩

structure Is (w : World) (P : Nat → Prop) (g : Nat) (a : StD) (pv pp cv cp sn : Value) : Prop where
  blk : w.heap[g]? = some (.cells (stCells a pv pp cv cp sn).toArray 104 (0, 0))
  pl : ∀ k, P k → k < w.heap.size
  pg : ∀ k, P k → some g ≠ some k
  hheld : a.held.length = 40
  r1 : w.ownsRow 0 88 35 pv a.vs1.length (a.vs1.flatMap VoteD.cells)
  r2 : w.ownsRow 0 128 33 pp a.ps1.length (a.ps1.flatMap PowD.cells)
  r3 : w.ownsRow 0 88 35 cv a.vs2.length (a.vs2.flatMap VoteD.cells)
  r4 : w.ownsRow 0 128 33 cp a.ps2.length (a.ps2.flatMap PowD.cells)
  r5 : w.ownsRow 0 126 1 sn a.ws.length (a.ws.map (Value.int .u64))
  p1 : ∀ k, P k → pv.ownBlock ≠ some k
  p2 : ∀ k, P k → pp.ownBlock ≠ some k
  p3 : ∀ k, P k → cv.ownBlock ≠ some k
  p4 : ∀ k, P k → cp.ownBlock ≠ some k
  p5 : ∀ k, P k → sn.ownBlock ≠ some k
  s1 : sep pv cv
  s2 : sep pp cp
  i1 : ∀ x ∈ a.vs1, x.id.length = 32
  i2 : ∀ x ∈ a.ps1, x.id.length = 32
  i3 : ∀ x ∈ a.vs2, x.id.length = 32
  i4 : ∀ x ∈ a.ps2, x.id.length = 32

def IsS (w : World) (P : Nat → Prop) (g : Nat) (a : StD) : Prop := ∃ pv pp cv cp sn, Is w P g a pv pp cv cp sn

/-- A row's block is of its own kind. -/
theorem owns_ne {w : World} {base e s : Nat} {v : Value} {n : Nat} {xs : List Value} (h : w.ownsRow base e s v n xs) {k : Nat} {cs : Array Value} {t : Nat} {fr : Nat × Nat} (hk : w.heap[k]? = some (.cells cs t fr)) (hne : t ≠ e) : v.ownBlock ≠ some k := by
  rcases h.2 with ⟨rfl, _⟩ | ⟨g, cap, cur, rfl, _, hg, _⟩
  · simp [Value.ownBlock]
  · intro h'
    simp [Value.ownBlock] at h'
    subst h'
    rw [hg] at hk
    simp at hk
    exact hne hk.2.1.symm
theorem owns_sep {w : World} {base e s : Nat} {v : Value} {n : Nat} {xs : List Value} (h : w.ownsRow base e s v n xs) {base' e' s' : Nat} {v' : Value} {n' : Nat} {xs' : List Value} (h' : w.ownsRow base' e' s' v' n' xs') (hne : e' ≠ e) : sep v v' := by
  unfold sep
  rcases h'.2 with ⟨rfl, _⟩ | ⟨g, cap, cur, rfl, _, hg, _⟩
  · cases hv : v.ownBlock with
    | none => exact .inl rfl
    | some k => right; simp [Value.ownBlock]
  · exact .inr (owns_ne h hg hne)
theorem owns_block {w : World} {base e s : Nat} {v : Value} {n : Nat} {xs : List Value} (h : w.ownsRow base e s v n xs) : ∀ k, v.ownBlock = some k → base ≤ k ∧ k < w.heap.size := h.lt

theorem grown_set (w : World) (g i : Nat) (u : Value) : w.grownBy (w.setCell ⟨g, i, none⟩ u) (some g) :=
  ⟨rfl, rfl, rfl, by simp [World.setCell], fun k _ hk => Below.heap_setCell w _ u k (fun e => hk (by rw [e]))⟩
theorem grown_sets (w : World) (g o : Nat) (vs : List Value) : w.grownBy (w.setCells g o vs) (some g) := by
  obtain ⟨h1, h2, h3⟩ := rest_setCells g vs o w
  exact ⟨h1, h2, h3, by rw [size_setCells']; exact Nat.le_refl _, fun k _ hk => heap_setCells_other g vs o w k (fun e => hk (by rw [e]))⟩

/-- A step that turns block g alone, to the cells of a'. -/
theorem Is.turn {w w' : World} {P : Nat → Prop} {g : Nat} {a : StD} {pv pp cv cp sn : Value} (h : Is w P g a pv pp cv cp sn) (hg : w.grownBy w' (some g)) (a' : StD)
    (hblk : w'.heap[g]? = some (.cells (stCells a' pv pp cv cp sn).toArray 104 (0, 0))) (hheld : a'.held.length = 40)
    (e1 : a'.vs1 = a.vs1) (e2 : a'.ps1 = a.ps1) (e3 : a'.vs2 = a.vs2) (e4 : a'.ps2 = a.ps2) (e5 : a'.ws = a.ws) : Is w' P g a' pv pp cv cp sn := by
  refine ⟨hblk, fun k hk => Nat.lt_of_lt_of_le (h.pl k hk) hg.size, h.pg, hheld, ?_, ?_, ?_, ?_, ?_, h.p1, h.p2, h.p3, h.p4, h.p5, h.s1, h.s2, e1 ▸ h.i1, e2 ▸ h.i2, e3 ▸ h.i3, e4 ▸ h.i4⟩
  · rw [e1]; exact h.r1.kept hg (.inr (owns_ne h.r1 h.blk (by decide)))
  · rw [e2]; exact h.r2.kept hg (.inr (owns_ne h.r2 h.blk (by decide)))
  · rw [e3]; exact h.r3.kept hg (.inr (owns_ne h.r3 h.blk (by decide)))
  · rw [e4]; exact h.r4.kept hg (.inr (owns_ne h.r4 h.blk (by decide)))
  · rw [e5]; exact h.r5.kept hg (.inr (owns_ne h.r5 h.blk (by decide)))

theorem Is.lt {w : World} {P : Nat → Prop} {g : Nat} {a : StD} {pv pp cv cp sn : Value} (h : Is w P g a pv pp cv cp sn) : g < w.heap.size := (Array.getElem?_eq_some_iff.1 h.blk).1

/-- All that is there stays: something was made behind it. P may name what was made. -/
theorem Is.below {w w' : World} {P : Nat → Prop} {g : Nat} {a : StD} {pv pp cv cp sn : Value} (h : Is w P g a pv pp cv cp sn) (hb : Below w.heap.size w w') (Q : Nat → Prop) (hQ : ∀ k, Q k → (P k ∨ w.heap.size ≤ k) ∧ k < w'.heap.size) : Is w' Q g a pv pp cv cp sn := by
  have hg : w.grownBy w' none := ⟨hb.os, hb.tape, hb.output, hb.size, fun k hk _ => hb.block k hk⟩
  have hn : ∀ v : Value, v.ownBlock = none ∨ v.ownBlock ≠ none := fun v => by cases v.ownBlock <;> simp
  have hr : ∀ {e s : Nat} {v : Value} {n : Nat} {xs : List Value}, w.ownsRow 0 e s v n xs → (∀ k, P k → v.ownBlock ≠ some k) → ∀ k, Q k → v.ownBlock ≠ some k := by
    intro e s v n xs ho hp k hk
    rcases (hQ k hk).1 with h1 | h1
    · exact hp k h1
    · intro e'
      have := (ho.lt k e').2
      omega
  refine ⟨by rw [hb.block g h.lt]; exact h.blk, fun k hk => (hQ k hk).2, ?_, h.hheld, h.r1.kept hg (hn _), h.r2.kept hg (hn _), h.r3.kept hg (hn _), h.r4.kept hg (hn _), h.r5.kept hg (hn _), hr h.r1 h.p1, hr h.r2 h.p2, hr h.r3 h.p3, hr h.r4 h.p4, hr h.r5 h.p5, h.s1, h.s2, h.i1, h.i2, h.i3, h.i4⟩
  intro k hk
  rcases (hQ k hk).1 with h1 | h1
  · exact h.pg k h1
  · intro e'
    have := h.lt
    simp at e'
    omega
/-- Fewer blocks named. -/
theorem Is.mono {w : World} {P Q : Nat → Prop} {g : Nat} {a : StD} {pv pp cv cp sn : Value} (h : Is w P g a pv pp cv cp sn) (hQ : ∀ k, Q k → P k) : Is w Q g a pv pp cv cp sn :=
  ⟨h.blk, fun k hk => h.pl k (hQ k hk), fun k hk => h.pg k (hQ k hk), h.hheld, h.r1, h.r2, h.r3, h.r4, h.r5, fun k hk => h.p1 k (hQ k hk), fun k hk => h.p2 k (hQ k hk), fun k hk => h.p3 k (hQ k hk), fun k hk => h.p4 k (hQ k hk), fun k hk => h.p5 k (hQ k hk), h.s1, h.s2, h.i1, h.i2, h.i3, h.i4⟩
theorem IsS.mono {w : World} {P Q : Nat → Prop} {g : Nat} {a : StD} (h : IsS w P g a) (hQ : ∀ k, Q k → P k) : IsS w Q g a := by
  obtain ⟨pv, pp, cv, cp, sn, h⟩ := h
  exact ⟨pv, pp, cv, cp, sn, h.mono hQ⟩

/-- What an append to one of the rows does to another row. -/
theorem grew_other {base e size : Nat} {w w' : World} {g o : Nat} {v v' : Value} {n : Nat} {xs : List Value} (hG : Grew base e size w w' g o v v' n xs) {e2 s2 : Nat} {u : Value} {m : Nat} {ys : List Value}
    (hu : w.ownsRow base e2 s2 u m ys) (hs : sep u v) (hug : u.ownBlock ≠ some g) : w'.ownsRow base e2 s2 u m ys := by
  obtain ⟨w1, hg, hown, hat, rfl⟩ := hG
  exact (hu.kept hg hs).kept (grown_set w1 g o v') (.inr hug)
theorem grew_self {base e size : Nat} {w w' : World} {g o : Nat} {v v' : Value} {n : Nat} {xs : List Value} (hG : Grew base e size w w' g o v v' n xs) {cs : Array Value} {t : Nat} (hb : w.heap[g]? = some (.cells cs t (0, 0))) (hne : t ≠ e) (hvg : v.ownBlock ≠ some g) :
    w'.ownsRow base e size v' n xs ∧ w'.heap[g]? = some (.cells (cs.setIfInBounds o v') t (0, 0)) ∧ v'.ownBlock ≠ some g := by
  obtain ⟨w1, hg, hown, hat, rfl⟩ := hG
  have hlt := (Array.getElem?_eq_some_iff.1 hb).1
  have hb1 : w1.heap[g]? = some (.cells cs t (0, 0)) := by rw [hg.block g hlt (Ne.symm hvg)]; exact hb
  have hv' := owns_ne hown hb1 hne
  exact ⟨hown.kept (grown_set w1 g o v') (.inr hv'), heap_setCell_same w1 g o cs t v' hb1, hv'⟩
theorem grew_sep {base e size : Nat} {w w' : World} {g o : Nat} {v v' : Value} {n : Nat} {xs : List Value} (hG : Grew base e size w w' g o v v' n xs) {e2 s2 : Nat} {u : Value} {m : Nat} {ys : List Value}
    (hu : w.ownsRow base e2 s2 u m ys) (hs : sep u v) : sep u v' := by
  obtain ⟨w1, hg, hown, hat, rfl⟩ := hG
  unfold sep at *
  rcases hat with h | ⟨k, h, hk⟩
  · rw [h]; exact hs
  · rw [h]
    cases hb : u.ownBlock with
    | none => exact .inl rfl
    | some j =>
      right
      have := (hu.lt j hb).2
      simp; omega
theorem grew_free {base e size : Nat} {w w' : World} {g o : Nat} {v v' : Value} {n : Nat} {xs : List Value} (hG : Grew base e size w w' g o v v' n xs) {P : Nat → Prop} (hl : ∀ k, P k → k < w.heap.size) (hv : ∀ k, P k → v.ownBlock ≠ some k) : ∀ k, P k → v'.ownBlock ≠ some k := by
  obtain ⟨w1, hg, hown, hat, rfl⟩ := hG
  intro k hk
  rcases hat with h | ⟨j, h, hj⟩
  · rw [h]; exact hv k hk
  · rw [h]
    have := hl k hk
    intro e; simp at e; omega
theorem grew_steps {base e size : Nat} {w w' : World} {g o : Nat} {v v' : Value} {n : Nat} {xs : List Value} (hG : Grew base e size w w' g o v v' n xs) {P : Nat → Prop} (hl : ∀ k, P k → k < w.heap.size) (hv : ∀ k, P k → v.ownBlock ≠ some k) (hg0 : ∀ k, P k → some g ≠ some k) : Steps P w w' := by
  obtain ⟨w1, hg, hown, hat, rfl⟩ := hG
  exact (Steps.grown hg hl hv).trans (Steps.grown (grown_set w1 g o v') (fun k hk => Nat.lt_of_lt_of_le (hl k hk) hg.size) hg0)

theorem set_42 (a : StD) (h : a.held.length = 40) (pv pp cv cp sn u : Value) : (stCells a pv pp cv cp sn).set 42 u = stCells a u pp cv cp sn := by simp [stCells, List.set_append, h]
theorem set_43 (a : StD) (h : a.held.length = 40) (pv pp cv cp sn u : Value) : (stCells a pv pp cv cp sn).set 43 u = stCells a pv u cv cp sn := by simp [stCells, List.set_append, h]
theorem set_45 (a : StD) (h : a.held.length = 40) (pv pp cv cp sn u : Value) : (stCells a pv pp cv cp sn).set 45 u = stCells a pv pp u cp sn := by simp [stCells, List.set_append, h]
theorem set_46 (a : StD) (h : a.held.length = 40) (pv pp cv cp sn u : Value) : (stCells a pv pp cv cp sn).set 46 u = stCells a pv pp cv u sn := by simp [stCells, List.set_append, h]
theorem set_48 (a : StD) (h : a.held.length = 40) (pv pp cv cp sn u : Value) : (stCells a pv pp cv cp sn).set 48 u = stCells a pv pp cv cp u := by simp [stCells, List.set_append, h]

theorem Is.vote1 {w w' : World} {P : Nat → Prop} {g : Nat} {a : StD} {pv pp cv cp sn pv' : Value} (h : Is w P g a pv pp cv cp sn) (x : VoteD) (hx : x.id.length = 32) (hG : Grew 0 88 35 w w' g 42 pv pv' (a.vs1.length + 1) (a.vs1.flatMap VoteD.cells ++ x.cells)) :
    Is w' P g { a with vs1 := a.vs1 ++ [x] } pv' pp cv cp sn ∧ Steps P w w' := by
  obtain ⟨q1, q2, q3⟩ := grew_self hG h.blk (by decide) (owns_ne h.r1 h.blk (by decide))
  refine ⟨⟨?_, fun k hk => Nat.lt_of_lt_of_le (h.pl k hk) (grew_steps hG h.pl h.p1 h.pg).size, h.pg, h.hheld, ?_, grew_other hG h.r2 (owns_sep h.r2 h.r1 (by decide)) (owns_ne h.r2 h.blk (by decide)), grew_other hG h.r3 h.s1.symm (owns_ne h.r3 h.blk (by decide)),
    grew_other hG h.r4 (owns_sep h.r4 h.r1 (by decide)) (owns_ne h.r4 h.blk (by decide)), grew_other hG h.r5 (owns_sep h.r5 h.r1 (by decide)) (owns_ne h.r5 h.blk (by decide)), grew_free hG h.pl h.p1, h.p2, h.p3, h.p4, h.p5, (grew_sep hG h.r3 h.s1.symm).symm, h.s2, ?_, h.i2, h.i3, h.i4⟩,
    grew_steps hG h.pl h.p1 h.pg⟩
  · rw [q2, List.setIfInBounds_toArray, set_42 a h.hheld]; rfl
  · simpa using q1
  · intro y hy
    rcases List.mem_append.1 hy with hy | hy
    · exact h.i1 y hy
    · simp at hy; rw [hy]; exact hx
theorem Is.vote2 {w w' : World} {P : Nat → Prop} {g : Nat} {a : StD} {pv pp cv cp sn cv' : Value} (h : Is w P g a pv pp cv cp sn) (x : VoteD) (hx : x.id.length = 32) (hG : Grew 0 88 35 w w' g 45 cv cv' (a.vs2.length + 1) (a.vs2.flatMap VoteD.cells ++ x.cells)) :
    Is w' P g { a with vs2 := a.vs2 ++ [x] } pv pp cv' cp sn ∧ Steps P w w' := by
  obtain ⟨q1, q2, q3⟩ := grew_self hG h.blk (by decide) (owns_ne h.r3 h.blk (by decide))
  refine ⟨⟨?_, fun k hk => Nat.lt_of_lt_of_le (h.pl k hk) (grew_steps hG h.pl h.p3 h.pg).size, h.pg, h.hheld, grew_other hG h.r1 h.s1 (owns_ne h.r1 h.blk (by decide)), grew_other hG h.r2 (owns_sep h.r2 h.r3 (by decide)) (owns_ne h.r2 h.blk (by decide)), ?_,
    grew_other hG h.r4 (owns_sep h.r4 h.r3 (by decide)) (owns_ne h.r4 h.blk (by decide)), grew_other hG h.r5 (owns_sep h.r5 h.r3 (by decide)) (owns_ne h.r5 h.blk (by decide)), h.p1, h.p2, grew_free hG h.pl h.p3, h.p4, h.p5, grew_sep hG h.r1 h.s1, h.s2, h.i1, h.i2, ?_, h.i4⟩,
    grew_steps hG h.pl h.p3 h.pg⟩
  · rw [q2, List.setIfInBounds_toArray, set_45 a h.hheld]; rfl
  · simpa using q1
  · intro y hy
    rcases List.mem_append.1 hy with hy | hy
    · exact h.i3 y hy
    · simp at hy; rw [hy]; exact hx
theorem Is.pow1 {w w' : World} {P : Nat → Prop} {g : Nat} {a : StD} {pv pp cv cp sn pp' : Value} (h : Is w P g a pv pp cv cp sn) (x : PowD) (hx : x.id.length = 32) (hG : Grew 0 128 33 w w' g 43 pp pp' (a.ps1.length + 1) (a.ps1.flatMap PowD.cells ++ x.cells)) :
    Is w' P g { a with ps1 := a.ps1 ++ [x] } pv pp' cv cp sn ∧ Steps P w w' := by
  obtain ⟨q1, q2, q3⟩ := grew_self hG h.blk (by decide) (owns_ne h.r2 h.blk (by decide))
  refine ⟨⟨?_, fun k hk => Nat.lt_of_lt_of_le (h.pl k hk) (grew_steps hG h.pl h.p2 h.pg).size, h.pg, h.hheld, grew_other hG h.r1 (owns_sep h.r1 h.r2 (by decide)) (owns_ne h.r1 h.blk (by decide)), ?_, grew_other hG h.r3 (owns_sep h.r3 h.r2 (by decide)) (owns_ne h.r3 h.blk (by decide)),
    grew_other hG h.r4 h.s2.symm (owns_ne h.r4 h.blk (by decide)), grew_other hG h.r5 (owns_sep h.r5 h.r2 (by decide)) (owns_ne h.r5 h.blk (by decide)), h.p1, grew_free hG h.pl h.p2, h.p3, h.p4, h.p5, h.s1, (grew_sep hG h.r4 h.s2.symm).symm, h.i1, ?_, h.i3, h.i4⟩,
    grew_steps hG h.pl h.p2 h.pg⟩
  · rw [q2, List.setIfInBounds_toArray, set_43 a h.hheld]; rfl
  · simpa using q1
  · intro y hy
    rcases List.mem_append.1 hy with hy | hy
    · exact h.i2 y hy
    · simp at hy; rw [hy]; exact hx
theorem Is.pow2 {w w' : World} {P : Nat → Prop} {g : Nat} {a : StD} {pv pp cv cp sn cp' : Value} (h : Is w P g a pv pp cv cp sn) (x : PowD) (hx : x.id.length = 32) (hG : Grew 0 128 33 w w' g 46 cp cp' (a.ps2.length + 1) (a.ps2.flatMap PowD.cells ++ x.cells)) :
    Is w' P g { a with ps2 := a.ps2 ++ [x] } pv pp cv cp' sn ∧ Steps P w w' := by
  obtain ⟨q1, q2, q3⟩ := grew_self hG h.blk (by decide) (owns_ne h.r4 h.blk (by decide))
  refine ⟨⟨?_, fun k hk => Nat.lt_of_lt_of_le (h.pl k hk) (grew_steps hG h.pl h.p4 h.pg).size, h.pg, h.hheld, grew_other hG h.r1 (owns_sep h.r1 h.r4 (by decide)) (owns_ne h.r1 h.blk (by decide)), grew_other hG h.r2 h.s2 (owns_ne h.r2 h.blk (by decide)), grew_other hG h.r3 (owns_sep h.r3 h.r4 (by decide)) (owns_ne h.r3 h.blk (by decide)),
    ?_, grew_other hG h.r5 (owns_sep h.r5 h.r4 (by decide)) (owns_ne h.r5 h.blk (by decide)), h.p1, h.p2, h.p3, grew_free hG h.pl h.p4, h.p5, h.s1, grew_sep hG h.r2 h.s2, h.i1, h.i2, h.i3, ?_⟩,
    grew_steps hG h.pl h.p4 h.pg⟩
  · rw [q2, List.setIfInBounds_toArray, set_46 a h.hheld]; rfl
  · simpa using q1
  · intro y hy
    rcases List.mem_append.1 hy with hy | hy
    · exact h.i4 y hy
    · simp at hy; rw [hy]; exact hx

end Go.Proofs.Qxb6604712a
