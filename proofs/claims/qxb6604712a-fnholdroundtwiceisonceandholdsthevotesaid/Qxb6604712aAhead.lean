/-
  Seat b6604712a: a sender's held rounds as memory holds them; how a step turns them. No walk here.
-/
import Derived.Test.Qxb6604712aBin
namespace Go.Proofs.Qxb6604712a
open Go.RowKit
set_option linter.unusedSimpArgs false
set_option linter.unusedVariables false

def ahCells (v : Value) : List Value := [.slice none 0 0, .int .i64 0, .int .i64 0, v, .slice none 0 0]

/-- The block g is a senderAhead whose dropped votes are the row v, of the rounds hs; all of it lies from block B on. -/
structure AH (w : World) (B g : Nat) (v : Value) (hs : List HrD) : Prop where
  blk : w.heap[g]? = some (.cells (ahCells v).toArray 86 (0, 0))
  base : B ≤ g
  own : w.ownsRow B 91 73 v hs.length (hs.flatMap HrD.cells)
  fit : ∀ x ∈ hs, x.fit

/-- Of the old blocks only g and v's have turned; the row v' lies where v lay, or in a new block. -/
structure Moved (w w' : World) (g : Nat) (v v' : Value) : Prop where
  os : w'.os = w.os
  tape : w'.tape = w.tape
  output : w'.output = w.output
  size : w.heap.size ≤ w'.heap.size
  keep : ∀ k, k < w.heap.size → k ≠ g → v.ownBlock ≠ some k → w'.heap[k]? = w.heap[k]?
  lies : v'.ownBlock = v.ownBlock ∨ ∃ k, v'.ownBlock = some k ∧ w.heap.size ≤ k

theorem Moved.refl (w : World) (g : Nat) (v : Value) : Moved w w g v v := ⟨rfl, rfl, rfl, Nat.le_refl _, fun _ _ _ _ => rfl, .inl rfl⟩
theorem Moved.trans {a b c : World} {g : Nat} {v v' v'' : Value} (h : Moved a b g v v') (k : Moved b c g v' v'') : Moved a c g v v'' := by
  refine ⟨k.os.trans h.os, k.tape.trans h.tape, k.output.trans h.output, Nat.le_trans h.size k.size, fun i hi hg hv => ?_, ?_⟩
  · have hv' : v'.ownBlock ≠ some i := by
      rcases h.lies with e | ⟨m, e, hm⟩
      · rw [e]; exact hv
      · rw [e]; intro hh; cases hh; omega
    rw [k.keep i (Nat.lt_of_lt_of_le hi h.size) hg hv', h.keep i hi hg hv]
  · rcases k.lies with e | ⟨m, e, hm⟩
    · rcases h.lies with e2 | ⟨m, e2, hm⟩
      · exact .inl (e.trans e2)
      · exact .inr ⟨m, e.trans e2, hm⟩
    · exact .inr ⟨m, e, Nat.le_trans h.size hm⟩
theorem Moved.ofBelow {w w' : World} (h : Below w.heap.size w w') (g : Nat) (v : Value) : Moved w w' g v v := ⟨h.os, h.tape, h.output, h.size, fun k hk _ _ => h.block k hk, .inl rfl⟩
theorem Moved.ofGrown {w w' : World} {row : Option Nat} (hg : w.grownBy w' row) (g : Nat) (v : Value) (hr : row = some g ∨ row = v.ownBlock ∨ row = none) : Moved w w' g v v := by
  refine ⟨hg.os, hg.tape, hg.output, hg.size, fun k hk hkg hv => hg.block k hk ?_, .inl rfl⟩
  rcases hr with e | e | e
  · rw [e]; simpa using hkg
  · rw [e]; exact Ne.symm hv
  · rw [e]; simp
theorem Moved.ofTurned {B : Nat} {w w' : World} {g : Nat} {v v' : Value} {n : Nat} {xs : List Value} (h : Turned B w w' v v' n xs) : Moved w w' g v v' :=
  ⟨h.grown.os, h.grown.tape, h.grown.output, h.grown.size, fun k hk _ hv => h.grown.block k hk (Ne.symm hv), h.lies⟩
theorem Moved.below {w w' : World} {g : Nat} {v v' : Value} {B : Nat} (h : Moved w w' g v v') (hB : B ≤ w.heap.size) (hg : B ≤ g) (hv : ∀ k, v.ownBlock = some k → B ≤ k) : Below B w w' :=
  ⟨h.os, h.tape, h.output, h.size, fun k hk => h.keep k (by omega) (by omega) (fun e => by have := hv k e; omega)⟩

theorem AH.lt {w : World} {B g : Nat} {v : Value} {hs : List HrD} (h : AH w B g v hs) : g < w.heap.size := (Array.getElem?_eq_some_iff.1 h.blk).1
theorem AH.ne {w : World} {B g : Nat} {v : Value} {hs : List HrD} (h : AH w B g v hs) : v.ownBlock ≠ some g := owns_ne h.own h.blk (by decide)
theorem AH.cell {w : World} {B g : Nat} {v : Value} {hs : List HrD} (h : AH w B g v hs) : w.cell? ⟨g, 3, none⟩ = some v := by rw [cell_of_block h.blk]; rfl
theorem AH.fro {w : World} {B g : Nat} {v : Value} {hs : List HrD} (h : AH w B g v hs) : w.frozen? ⟨g, 3, none⟩ = false := frozen_of_row w g 3 _ _ h.blk
theorem AH.ids {w : World} {B g : Nat} {v : Value} {hs : List HrD} (h : AH w B g v hs) : ∀ x ∈ hs, x.ids := fun x hx => (h.fit x hx).1
theorem AH.below {w w' : World} {B g : Nat} {v : Value} {hs : List HrD} (h : AH w B g v hs) (hb : Below w.heap.size w w') : AH w' B g v hs := by
  refine ⟨by rw [hb.block g h.lt]; exact h.blk, h.base, ?_, h.fit⟩
  exact owns_grown (row := none) h.own ⟨hb.os, hb.tape, hb.output, hb.size, fun k hk _ => hb.block k hk⟩ (.inl rfl)
theorem AH.form {w : World} {B g : Nat} {v : Value} {hs : List HrD} (h : AH w B g v hs) : ∃ a cap, v = .slice a hs.length cap := by
  rcases h.own.2 with ⟨h0, h1⟩ | ⟨g', cap', cur, hv, _⟩
  · exact ⟨none, 0, by rw [h0, h1]⟩
  · exact ⟨_, _, hv⟩
theorem AH.one {w : World} {B g : Nat} {v : Value} {hs : List HrD} (h : AH w B g v hs) : ∀ u ∈ hs.flatMap HrD.cells, u.oneCell' = true := fun u hu => by
  obtain ⟨x, hx, hux⟩ := List.mem_flatMap.1 hu
  exact HrD.one (h.fit x hx) u hux

/-- The row has turned, and its new value is stored in the field. -/
theorem AH.turn {w w' : World} {B g : Nat} {v v' : Value} {hs hs' : List HrD} (h : AH w B g v hs) (hT : Turned B w w' v v' hs'.length (hs'.flatMap HrD.cells)) (hf : ∀ x ∈ hs', x.fit) :
    AH (w'.setCell ⟨g, 3, none⟩ v') B g v' hs' ∧ Moved w (w'.setCell ⟨g, 3, none⟩ v') g v v' := by
  have hb : w'.heap[g]? = some (.cells (ahCells v).toArray 86 (0, 0)) := by rw [hT.grown.block g h.lt (Ne.symm h.ne)]; exact h.blk
  have hg2 := grown_set w' g 3 v'
  have hne : v'.ownBlock ≠ some g := owns_ne hT.own hb (by decide)
  refine ⟨⟨?_, h.base, owns_grown hT.own hg2 (.inr (Ne.symm hne)), hf⟩, (Moved.ofTurned hT).trans (Moved.ofGrown hg2 g v' (.inl rfl))⟩
  rw [heap_setCell_same w' g 3 _ 86 v' hb]; rfl

/-- The cells of one round have turned. -/
theorem overlay_mid (A c D cs : List Value) (o : Nat) (h : o + cs.length ≤ c.length) : overlay (A ++ (c ++ D)) cs (A.length + o) = A ++ (overlay c cs o ++ D) := by
  unfold overlay
  rw [List.take_append, List.drop_append]
  have e1 : A.length + o - A.length = o := by omega
  have e2 : A.length + o + cs.length - A.length = o + cs.length := by omega
  rw [e1, e2, List.take_of_length_le (show A.length ≤ A.length + o by omega), List.drop_eq_nil_of_le (show A.length ≤ A.length + o + cs.length by omega), List.take_append_of_le_length (by omega), List.drop_append_of_le_length h]
  simp

theorem flat_split (hs : List HrD) (i : Nat) (y : HrD) (hy : hs[i]? = some y) (hid : ∀ x ∈ hs, x.ids) (z : HrD) :
    hs.flatMap HrD.cells = (hs.take i).flatMap HrD.cells ++ (y.cells ++ (hs.drop (i + 1)).flatMap HrD.cells) ∧ (hs.set i z).flatMap HrD.cells = (hs.take i).flatMap HrD.cells ++ (z.cells ++ (hs.drop (i + 1)).flatMap HrD.cells) ∧ ((hs.take i).flatMap HrD.cells).length = i * 73 := by
  obtain ⟨hi, hyy⟩ := List.getElem?_eq_some_iff.1 hy
  refine ⟨?_, ?_, ?_⟩
  · have e : hs = hs.take i ++ y :: hs.drop (i + 1) := by rw [← hyy, ← List.drop_eq_getElem_cons hi, List.take_append_drop]
    conv => lhs; rw [e]
    simp
  · have e : hs.set i z = hs.take i ++ z :: hs.drop (i + 1) := by
      rw [List.set_eq_take_append_cons_drop, if_pos hi]
    rw [e]; simp
  · rw [flat_len HrD.cells 73 _ (fun x hx => HrD.cells_len (hid x (List.mem_of_mem_take hx))), List.length_take]
    rw [Nat.min_eq_left (by omega)]

/-- The step's vote laid into a round. -/
def HrD.upd (y : HrD) (st : Int) (x : VoteD) : HrD := if st = 2 then { y with v1 := x, h1 := true } else { y with v0 := x, h0 := true }
theorem HrD.upd_fit {y : HrD} {x : VoteD} (st : Int) (hy : y.fit) (hx : x.id.length = 32) (hs : x.sl) : (y.upd st x).fit := by
  unfold HrD.upd
  split
  · exact ⟨⟨hy.1.1, hx⟩, hy.2.1, hs⟩
  · exact ⟨⟨hx, hy.1.2⟩, hs, hy.2.2⟩

theorem ov_vote1 (y : HrD) (x : VoteD) (hy : y.ids) (hx : x.id.length = 32) : overlay y.cells x.cells 1 = ({ y with v0 := x } : HrD).cells := by
  have l1 := VoteD.cells_len hy.1
  have l2 := VoteD.cells_len hx
  unfold overlay HrD.cells
  simp only [List.take_succ_cons, List.take_zero, show 1 + x.cells.length = x.cells.length + 1 by omega, List.drop_succ_cons]
  rw [l2, ← l1, List.drop_left]
  simp
theorem ov_vote2 (y : HrD) (x : VoteD) (hy : y.ids) (hx : x.id.length = 32) : overlay y.cells x.cells 36 = ({ y with v1 := x } : HrD).cells := by
  have l0 := VoteD.cells_len hy.1
  have l1 := VoteD.cells_len hy.2
  have l2 := VoteD.cells_len hx
  unfold overlay HrD.cells
  simp only [l2, show 36 + 35 = 70 + 1 by omega, List.drop_succ_cons]
  rw [show 36 = 35 + 1 from rfl, List.take_succ_cons, ← l0, List.take_left, List.drop_append, List.drop_eq_nil_of_le (by omega), l0, show 70 - 35 = 35 by omega, ← l1, List.drop_left]
  simp
theorem ov_has1 (y : HrD) (b : Bool) (hy : y.ids) : overlay y.cells [.bool b] 71 = ({ y with h0 := b } : HrD).cells := by
  have l0 := VoteD.cells_len hy.1
  have l1 := VoteD.cells_len hy.2
  unfold overlay HrD.cells
  rw [show 71 + [Value.bool b].length = 71 + 1 from rfl, List.drop_succ_cons, show 71 = 70 + 1 from rfl, List.take_succ_cons]
  rw [List.take_append, List.take_of_length_le (by omega), List.take_append, List.take_of_length_le (by omega), List.drop_append, List.drop_eq_nil_of_le (by omega), List.drop_append, List.drop_eq_nil_of_le (by omega), l0, l1]
  simp
theorem ov_has2 (y : HrD) (b : Bool) (hy : y.ids) : overlay y.cells [.bool b] 72 = ({ y with h1 := b } : HrD).cells := by
  have l0 := VoteD.cells_len hy.1
  have l1 := VoteD.cells_len hy.2
  unfold overlay HrD.cells
  rw [show 72 + [Value.bool b].length = 72 + 1 from rfl, List.drop_succ_cons, show 72 = 71 + 1 from rfl, List.take_succ_cons]
  rw [List.take_append, List.take_of_length_le (by omega), List.take_append, List.take_of_length_le (by omega), List.drop_append, List.drop_eq_nil_of_le (by omega), List.drop_append, List.drop_eq_nil_of_le (by omega), l0, l1]
  simp

/-- A store into one round's cells. -/
theorem AH.put {w : World} {B g gr cap : Nat} {hs : List HrD} (h : AH w B g (.slice (some ⟨gr, 0, none⟩) hs.length cap) hs) (i o : Nat) (y z : HrD) (hy : hs[i]? = some y) (cs : List Value) (hl : o + cs.length ≤ 73) (ho : overlay y.cells cs o = z.cells) (hz : z.fit) :
    AH (w.setCells gr (i * 73 + o) cs) B g (.slice (some ⟨gr, 0, none⟩) hs.length cap) (hs.set i z) ∧ Moved w (w.setCells gr (i * 73 + o) cs) g (.slice (some ⟨gr, 0, none⟩) hs.length cap) (.slice (some ⟨gr, 0, none⟩) hs.length cap) := by
  have hg := grown_sets w gr (i * 73 + o) cs
  obtain ⟨e1, e2, e3⟩ := flat_split hs i y hy h.ids z
  have hi := (List.getElem?_eq_some_iff.1 hy).1
  refine ⟨⟨?_, h.base, ?_, ?_⟩, Moved.ofGrown hg g _ (.inr (.inl rfl))⟩
  · rw [hg.block g h.lt (Ne.symm h.ne)]; exact h.blk
  · have := owns_setCells cs (i * 73 + o) h.own (by omega)
    rw [e1, ← e3, overlay_mid _ _ _ _ _ (by rw [HrD.cells_len (h.ids y (List.mem_of_getElem? hy))]; exact hl), ho, e3] at this
    rw [e2, List.length_set]
    exact this
  · intro x hx
    rcases List.mem_or_eq_of_mem_set hx with hx | rfl
    · exact h.fit x hx
    · exact hz

end Go.Proofs.Qxb6604712a
