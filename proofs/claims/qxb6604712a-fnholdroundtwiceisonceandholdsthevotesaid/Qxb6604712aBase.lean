/-
  Seat b6604712a: how the data of the roads read in memory; plain lemmas on lists. No walk here.
-/
import Derived.Test.Qxb6604712aRows
import Derived.WalkKit
import Derived.WalkSpells
import Derived.WalkLawsBesides
import Derived.Deep.MidRow
import Derived.Deep.QuietTactic
import Derived.BigQuiet
import Derived.Lib.SliceRun
namespace Go.Proofs.Qxb6604712a
open Go.RowKit
set_option linter.unusedSimpArgs false
set_option linter.unusedVariables false

theorem Try.info5 : (Try.prog.info? 5).map (fun i => (i.zero, i.size, i.bytes)) = some (some (.int .u8 0), 1, 1) := by kernel_rfl
theorem Try.info126 : (Try.prog.info? 126).map (fun i => (i.zero, i.size, i.bytes)) = some (some (.int .u64 0), 1, 8) := by kernel_rfl

/-- The slice value v of n elements, s cells each, reads in world w as the cells cs. -/
def sliceAt (w : World) (s : Nat) (v : Value) (n : Nat) (cs : List Value) : Prop :=
  ∃ a cap, v = .slice a n cap ∧ cs.length = n * s ∧ n ≤ 9223372036854775807 ∧ (n = 0 ∨ ∃ b o, a = some ⟨b, o, none⟩ ∧ w.rangeAt b o cs)

/-- The slice value v reads, in world w, as the bytes bs. -/
def bytesAt (w : World) (v : Value) (bs : List Int) : Prop := sliceAt w 1 v bs.length (bs.map (Value.int .u8))

/-- How long a slice value is. -/
def lenV : Value → Nat
  | .slice _ n _ => n
  | _ => 0

theorem sliceAt.len {w : World} {s : Nat} {v : Value} {n : Nat} {cs : List Value} (h : sliceAt w s v n cs) : lenV v = n := by
  obtain ⟨a, cap, rfl, _⟩ := h; rfl

/-- The slice's array lies in block n or behind it (or there is none). -/
def fromB (n : Nat) : Value → Prop
  | .slice (some a) _ _ => n ≤ a.block
  | _ => True
theorem fromB.mono {n m : Nat} {v : Value} (h : fromB n v) (hm : m ≤ n) : fromB m v := by
  match v, h with
  | .slice (some a) _ _, h => exact Nat.le_trans hm h
  | .slice none _ _, _ => trivial
  | .bool _, _ | .int _ _, _ | .float _ _, _ | .complex _ _ _, _ | .string _, _ | .pointer _, _ | .map _, _ | .chan _, _ | .func _ _ _, _ | .nilFunc, _ | .iface _ _, _ | .nilIface, _ | .agg _, _ | .tuple _, _ => trivial

theorem sliceAt.form {w : World} {s : Nat} {v : Value} {n : Nat} {cs : List Value} (h : sliceAt w s v n cs) : ∃ a m cap, v = .slice a m cap := by
  obtain ⟨a, cap, rfl, _⟩ := h; exact ⟨_, _, _, rfl⟩

theorem sliceAt.below {w w' : World} {s : Nat} {v : Value} {n : Nat} {cs : List Value} (h : sliceAt w s v n cs) (hb : Below w.heap.size w w') : sliceAt w' s v n cs := by
  obtain ⟨a, cap, rfl, h1, h2, h3⟩ := h
  refine ⟨a, cap, rfl, h1, h2, ?_⟩
  rcases h3 with h | ⟨b, o, rfl, h⟩
  · exact .inl h
  · refine .inr ⟨b, o, rfl, fun j v hv => ?_⟩
    have hc := h j v hv
    exact (hb.cell (World.block_lt_of_cell? _ _ hc)).trans hc

theorem sliceAt.drewN {w : World} {s : Nat} {v : Value} {n : Nat} {cs : List Value} (h : sliceAt w s v n cs) (k : Nat) : sliceAt (w.drewN k) s v n cs := h
theorem sliceAt.alloc {w : World} {s : Nat} {v : Value} {n : Nat} {cs : List Value} (h : sliceAt w s v n cs) (o : Obj) : sliceAt (w.alloc o) s v n cs := h.below ((Below.refl _ _).alloc (Nat.le_refl _) _)

/-- Out of a list of rows of one length the j-th cell of the i-th row. -/
theorem flat_get {α : Type} (f : α → List Value) (s : Nat) : ∀ (xs : List α) (_ : ∀ x ∈ xs, (f x).length = s) (i j : Nat) (hi : i < xs.length) (_ : j < s), (xs.flatMap f)[i * s + j]? = (f (xs[i]))[j]?
  | [], _, i, _, hi, _ => by simp at hi
  | x :: xs, hs, 0, j, _, hj => by
    have := hs x (by simp)
    simp [List.flatMap_cons, List.getElem?_append_left (show j < (f x).length by omega)]
  | x :: xs, hs, i + 1, j, hi, hj => by
    have hx := hs x (by simp)
    have e : (i + 1) * s + j = (f x).length + (i * s + j) := by rw [hx, Nat.succ_mul]; omega
    rw [List.flatMap_cons, e, List.getElem?_append_right (by omega)]
    simpa using flat_get f s xs (fun y hy => hs y (by simp [hy])) i j (by simpa using hi) hj

theorem flat_len {α : Type} (f : α → List Value) (s : Nat) : ∀ (xs : List α) (_ : ∀ x ∈ xs, (f x).length = s), (xs.flatMap f).length = xs.length * s
  | [], _ => by simp
  | x :: xs, hs => by
    rw [List.flatMap_cons, List.length_append, hs x (by simp), flat_len f s xs (fun y hy => hs y (by simp [hy]))]
    simp [Nat.succ_mul]; omega

/-- A vote as its cells hold it. -/
structure VoteD where
  frm : Int
  id : List Int
  ext : Value
  sig : Value

def VoteD.cells (x : VoteD) : List Value := .int .i64 x.frm :: (x.id.map (Value.int .u8) ++ [x.ext, x.sig])

def VoteD.ok (w : World) (x : VoteD) : Prop := x.id.length = 32 ∧ (∃ bs, bytesAt w x.ext bs) ∧ (∃ bs, bytesAt w x.sig bs)

theorem VoteD.ok.below {w w' : World} {x : VoteD} (h : x.ok w) (hb : Below w.heap.size w w') : x.ok w' :=
  ⟨h.1, let ⟨bs, hbs⟩ := h.2.1; ⟨bs, hbs.below hb⟩, let ⟨bs, hbs⟩ := h.2.2; ⟨bs, hbs.below hb⟩⟩

theorem VoteD.cells_len {x : VoteD} (h : x.id.length = 32) : x.cells.length = 35 := by simp [VoteD.cells, h]
theorem VoteD.cells_0 (x : VoteD) : x.cells[0]? = some (.int .i64 x.frm) := rfl
theorem VoteD.cells_33 {x : VoteD} (h : x.id.length = 32) : x.cells[33]? = some x.ext := by
  simp [VoteD.cells, h]
theorem VoteD.cells_34 {x : VoteD} (h : x.id.length = 32) : x.cells[34]? = some x.sig := by
  simp [VoteD.cells, h]

/-- The slice value v reads, in world w, as the votes vs. -/
def votesAt (w : World) (v : Value) (vs : List VoteD) : Prop :=
  sliceAt w 35 v vs.length (vs.flatMap VoteD.cells) ∧ ∀ x ∈ vs, x.ok w

theorem votesAt.below {w w' : World} {v : Value} {vs : List VoteD} (h : votesAt w v vs) (hb : Below w.heap.size w w') : votesAt w' v vs :=
  ⟨h.1.below hb, fun x hx => (h.2 x hx).below hb⟩

theorem below_drewN (w : World) (B k : Nat) : Below B w (w.drewN k) := ⟨rfl, rfl, rfl, Nat.le_refl _, fun _ _ => rfl⟩

/-- What a copy of bs that has come as far as k holds. -/
def part (z : Value) (bs : List Value) (k : Nat) : List Value := bs.take k ++ List.replicate (bs.length - k) z
theorem part_zero (z : Value) (bs : List Value) : part z bs 0 = List.replicate bs.length z := by simp [part]
theorem part_all (z : Value) (bs : List Value) (k : Nat) (h : bs.length ≤ k) : part z bs k = bs := by simp [part, List.take_of_length_le h, show bs.length - k = 0 by omega]
theorem part_set (z : Value) (bs : List Value) (k : Nat) (h : k < bs.length) : (part z bs k).set k bs[k] = part z bs (k + 1) := by
  unfold part
  have e : bs.length - k = (bs.length - (k + 1)) + 1 := by omega
  rw [e, List.replicate_succ, List.set_append_right _ _ (by simp; omega)]
  have e2 : k - (List.take k bs).length = 0 := by simp; omega
  rw [e2, List.set_cons_zero, List.take_succ_eq_append_getElem h, List.append_assoc]
  rfl
theorem part_length (z : Value) (bs : List Value) (k : Nat) : (part z bs k).length = bs.length := by simp [part]; omega

theorem sliceAt_of_owns {w : World} {base e s g n cap : Nat} {xs : List Value} (h : w.ownsRow base e s (.slice (some ⟨g, 0, none⟩) n cap) n xs) (hn : n ≤ 9223372036854775807) :
    sliceAt w s (.slice (some ⟨g, 0, none⟩) n cap) n xs := by
  refine ⟨_, _, rfl, h.1, hn, .inr ⟨g, 0, rfl, fun j v hv => ?_⟩⟩
  have hj : j < n * s := by rw [← h.1]; exact (List.getElem?_eq_some_iff.1 hv).1
  rw [Nat.zero_add, h.cellAt j hj, hv]

/-- The call hands back a bool; where that is true, p holds. -/
def RetBool (p : Prop) (e : Ending) : Prop := ∃ b : Bool, e = .returned (.bool b) ∧ (b = true → p)
theorem RetBool.no {p : Prop} : RetBool p (.returned (.bool false)) := ⟨false, rfl, fun h => by cases h⟩
theorem RetBool.yes {p : Prop} (h : p) : RetBool p (.returned (.bool true)) := ⟨true, rfl, fun _ => h⟩
theorem RetBool.of {p : Prop} (b : Bool) (h : b = true → p) : RetBool p (.returned (.bool b)) := ⟨b, rfl, h⟩

theorem cell_alloc1 {w : World} {a : Addr} {v : Value} (h : w.cell? a = some v) (o : Obj) : (w.alloc o).cell? a = some v := (World.cell?_alloc_lt w o a (World.block_lt_of_cell? _ _ h)).trans h
theorem cell_alloc2 {w : World} {a : Addr} {v : Value} (h : w.cell? a = some v) (o o' : Obj) : ((w.alloc o).alloc o').cell? a = some v := cell_alloc1 (cell_alloc1 h o) o'

end Go.Proofs.Qxb6604712a
