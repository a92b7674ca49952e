/-
  Seat b6604712a: a struct literal whose parts bear many cells ('Vote{From: .., ID: v.ID, ..}'): its cells are its parts' cells, one behind the other.
-/
import Derived.Test.Qxb6604712aBase
namespace Go.Proofs.Qxb6604712a
open Go.RowKit
set_option linter.unusedSimpArgs false
set_option linter.unusedVariables false

def flatV (vs : List Value) : List Value := vs.flatMap fun v => v.cells.toList

theorem put_cells (off : Nat) : ∀ (cs : List Value) (k : Nat) (pre mid post : List Value) (_ : mid.length = cs.length) (_ : pre.length = off + k),
    (cs.zipIdx k).foldl (fun (acc : Array Value) p => acc.setIfInBounds (off + p.2) p.1) (pre ++ mid ++ post).toArray = (pre ++ cs ++ post).toArray
  | [], k, pre, mid, post, hm, hp => by
    have : mid = [] := List.eq_nil_of_length_eq_zero (by simpa using hm)
    subst this; simp
  | c :: cs, k, pre, mid, post, hm, hp => by
    match mid, hm with
    | m :: mid, hm =>
      simp only [List.zipIdx_cons, List.foldl_cons]
      have e : (pre ++ (m :: mid) ++ post).toArray.setIfInBounds (off + k) c = ((pre ++ [c]) ++ mid ++ post).toArray := by
        rw [← hp]
        simp [List.setIfInBounds_toArray]
      rw [e, put_cells off cs (k + 1) (pre ++ [c]) mid post (by simpa using hm) (by simp; omega)]
      simp

theorem fill_seq (place : Nat → Option (Nat × Nat)) : ∀ (vs : List Value) (i : Nat) (pre post : List Value)
    (_ : ∀ j (hj : j < vs.length), place (i + j) = some (pre.length + (flatV (vs.take j)).length, (vs[j]).cells.size))
    (_ : post.length = (flatV vs).length),
    Instr.fill place (pre ++ post).toArray ((vs.zipIdx i).map fun p => (p.2, p.1)) = some (pre ++ flatV vs).toArray
  | [], i, pre, post, hp, hl => by
    have : post = [] := List.eq_nil_of_length_eq_zero (by simpa [flatV] using hl)
    subst this
    simp [Instr.fill, flatV]
  | v :: vs, i, pre, post, hp, hl => by
    have h0 := hp 0 (by simp)
    simp [flatV] at h0
    have hl' : post.length = v.cells.size + (flatV vs).length := by rw [hl]; simp [flatV]
    simp only [List.zipIdx_cons, List.map_cons, Instr.fill, h0]
    have hfit : ¬ (pre.length + v.cells.size > (pre ++ post).toArray.size) := by simp; omega
    rw [if_neg (by simpa using hfit)]
    have ef : (v.cells.zipIdx.foldl (fun (cs : Array Value) (p : Value × Nat) => match p with | (c, j) => cs.setIfInBounds (pre.length + j) c) (pre ++ post).toArray) = (pre ++ v.cells.toList ++ post.drop v.cells.size).toArray := by
      have := put_cells pre.length v.cells.toList 0 pre (post.take v.cells.size) (post.drop v.cells.size) (by simp; omega) (by simp)
      rw [← this, ← Array.foldl_toList, Array.toList_zipIdx]
      congr 1
      simp [List.take_append_drop]
    have hrec := fill_seq place vs (i + 1) (pre ++ v.cells.toList) (post.drop v.cells.size) (fun j hj => by
      have := hp (j + 1) (by simpa using hj)
      rw [show i + 1 + j = i + (j + 1) by omega, this]
      simp [flatV, Nat.add_assoc]) (by rw [List.length_drop]; omega)
    rw [ef, hrec]
    simp [flatV]

/-- THE LAW: all fields given, in order. -/
theorem run_build_seq {P : Program} (w : World) (t : TypeId) (fields : Array Field) (z : Value) (places : Array (Nat × Nat)) (vs : List Value)
    (hu : P.underlying t = some (.struct fields)) (hz : (zeroValue t).run P w = .ok z w)
    (hpl : (fields.mapM fun (f : Field) => do pure (f.offset, ← sizeOf f.type)).run P w = .ok places w)
    (hp : ∀ j (hj : j < vs.length), places[j]? = some ((flatV (vs.take j)).length, (vs[j]).cells.size)) (hl : z.cells.size = (flatV vs).length) :
    (Instr.build t ((vs.zipIdx).map fun p => (p.2, p.1)).toArray).run P w = .ok (.agg (flatV vs).toArray) w := by
  have hf := fill_seq (places[·]?) vs 0 [] z.cells.toList (by simpa using hp) (by simpa using hl)
  simp only [List.nil_append, Array.toArray_toList] at hf
  simp only [Instr.build, Sem.run_bind, hz, Result.andThen_ok, run_underlying hu]
  simp only [Sem.run_bind, hpl, Result.andThen_ok, hf]
  rfl

/-- The places of a struct type's fields: a closed fact each. -/
def placesAre (t : TypeId) (n : Nat) (pl : Array (Nat × Nat)) : Prop :=
  ∀ w : World, ∃ fields z, Try.prog.underlying t = some (.struct fields) ∧ (zeroValue t).run Try.prog w = .ok z w ∧ (fields.mapM fun (f : Field) => do pure (f.offset, ← sizeOf f.type)).run Try.prog w = .ok pl w ∧ z.cells.size = n

theorem run_build_at (w : World) (t n : Nat) (pl : Array (Nat × Nat)) (vs : List Value) (h : placesAre t n pl)
    (hp : ∀ j (hj : j < vs.length), pl[j]? = some ((flatV (vs.take j)).length, (vs[j]).cells.size)) (hl : n = (flatV vs).length) :
    (Instr.build t ((vs.zipIdx).map fun p => (p.2, p.1)).toArray).run Try.prog w = .ok (.agg (flatV vs).toArray) w := by
  obtain ⟨fields, z, hu, hz, hpl, hn⟩ := h w
  exact run_build_seq w t fields z pl vs hu hz hpl hp (by rw [hn, hl])

theorem places43 : placesAre 43 35 #[(0, 1), (1, 32), (33, 1), (34, 1)] := fun w => ⟨_, _, Try.underlying43, Try.zeroValue43 w, by kernel_rfl, by kernel_rfl⟩
theorem places88 : placesAre 88 35 #[(0, 1), (1, 32), (33, 1), (34, 1)] := fun w => ⟨_, _, Try.underlying88, Try.zeroValue88 w, by kernel_rfl, by kernel_rfl⟩
theorem places128 : placesAre 128 33 #[(0, 32), (32, 1)] := fun w => ⟨_, _, Try.underlying128, Try.zeroValue128 w, by kernel_rfl, by kernel_rfl⟩
theorem places97 : placesAre 97 40 #[(0, 1), (1, 32), (33, 1), (34, 1), (35, 1), (36, 1), (37, 1), (38, 1), (39, 1)] := fun w => ⟨_, _, Try.underlying97, Try.zeroValue97 w, by kernel_rfl, by kernel_rfl⟩
theorem places62 : placesAre 62 49 #[(0, 47), (47, 1), (48, 1)] := fun w => ⟨_, _, Try.underlying62, Try.zeroValue62 w, by kernel_rfl, by kernel_rfl⟩

/-- A vote's literal, as the operation that builds it. -/
theorem exec_build43 (ρ : Operand → Value) (x0 x1 x2 x3 : Operand) (dst : Option Tmp) (ty : TypeId) (pos : String) (af : Array Edge) (gd : Option (Nat × Bool)) (w : World)
    (h0 : (ρ x0).cells.size = 1) (h1 : (ρ x1).cells.size = 32) (h2 : (ρ x2).cells.size = 1) (h3 : (ρ x3).cells.size = 1) :
    Sem.run Try.prog (execOp ρ ⟨dst, .build 43 #[(0, x0), (1, x1), (2, x2), (3, x3)], ty, pos, af, gd⟩) w = .ok (.value (.agg ((ρ x0).cells ++ (ρ x1).cells ++ (ρ x2).cells ++ (ρ x3).cells))) w := by
  have := run_build_at w 43 35 _ [ρ x0, ρ x1, ρ x2, ρ x3] places43 (by
    intro j hj
    match j, hj with
    | 0, _ => simp [flatV, h0]
    | 1, _ => simp [flatV, h0, h1]
    | 2, _ => simp [flatV, h0, h1, h2]
    | 3, _ => simp [flatV, h0, h1, h2, h3]) (by simp [flatV, h0, h1, h2, h3])
  simp only [execOp, Sem.run_bind]
  have e : (Array.map (fun (p : Nat × Operand) => match p with | (i, x) => (i, ρ x)) #[(0, x0), (1, x1), (2, x2), (3, x3)]) = (([ρ x0, ρ x1, ρ x2, ρ x3].zipIdx).map fun p => (p.2, p.1)).toArray := by simp
  rw [e, this]
  simp [flatV]

end Go.Proofs.Qxb6604712a
