/-
  Seat b6604712a: a held round as its cells; laws for rows of many cells: copy, append of zeros, cuts. No walk here.
-/
import Derived.Test.Qxb6604712aState2
import Derived.Lib.AppendZerosOnto
import Derived.Lib.Overlaps
namespace Go.Proofs.Qxb6604712a
open Go.RowKit
set_option linter.unusedSimpArgs false
set_option linter.unusedVariables false

/-- A held round as its cells hold it. -/
structure HrD where
  rnd : Int
  v0 : VoteD
  v1 : VoteD
  h0 : Bool
  h1 : Bool

def HrD.cells (x : HrD) : List Value := .int .i64 x.rnd :: (x.v0.cells ++ (x.v1.cells ++ [.bool x.h0, .bool x.h1]))
/-- The ids are whole. -/
def HrD.ids (x : HrD) : Prop := x.v0.id.length = 32 ∧ x.v1.id.length = 32
/-- The slices are slices. -/
def VoteD.sl (x : VoteD) : Prop := x.ext.oneCell' = true ∧ x.sig.oneCell' = true
def HrD.fit (x : HrD) : Prop := x.ids ∧ x.v0.sl ∧ x.v1.sl
def HrD.ok (w : World) (x : HrD) : Prop := x.v0.ok w ∧ x.v1.ok w

theorem HrD.cells_len {x : HrD} (h : x.ids) : x.cells.length = 73 := by
  simp [HrD.cells, VoteD.cells_len h.1, VoteD.cells_len h.2]
theorem VoteD.ok.sl {w : World} {x : VoteD} (h : x.ok w) : x.sl := by
  obtain ⟨_, ⟨b1, a1, c1, e1, _⟩, ⟨b2, a2, c2, e2, _⟩⟩ := h
  exact ⟨by rw [e1]; rfl, by rw [e2]; rfl⟩
theorem HrD.ok.fit {w : World} {x : HrD} (h : x.ok w) : x.fit := ⟨⟨h.1.1, h.2.1⟩, h.1.sl, h.2.sl⟩
theorem HrD.ok.below {w w' : World} {x : HrD} (h : x.ok w) (hb : Below w.heap.size w w') : x.ok w' := ⟨h.1.below hb, h.2.below hb⟩

theorem HrD.cells_0 (x : HrD) : x.cells[0]? = some (.int .i64 x.rnd) := rfl
theorem HrD.cells_v0 {x : HrD} (h : x.ids) (j : Nat) (v : Value) (hv : x.v0.cells[j]? = some v) : x.cells[1 + j]? = some v := by
  have hj := (List.getElem?_eq_some_iff.1 hv).1
  rw [HrD.cells, Nat.add_comm, List.getElem?_cons_succ, List.getElem?_append_left hj, hv]
theorem HrD.cells_v1 {x : HrD} (h : x.ids) (j : Nat) (v : Value) (hv : x.v1.cells[j]? = some v) : x.cells[36 + j]? = some v := by
  have hj := (List.getElem?_eq_some_iff.1 hv).1
  have h0 := VoteD.cells_len h.1
  rw [HrD.cells, show 36 + j = (35 + j) + 1 by omega, List.getElem?_cons_succ, List.getElem?_append_right (by omega), h0, show 35 + j - 35 = j by omega, List.getElem?_append_left hj, hv]
theorem HrD.cells_71 {x : HrD} (h : x.ids) : x.cells[71]? = some (.bool x.h0) := by
  simp [HrD.cells, VoteD.cells_len h.1, VoteD.cells_len h.2, List.getElem?_append]
theorem HrD.cells_72 {x : HrD} (h : x.ids) : x.cells[72]? = some (.bool x.h1) := by
  simp [HrD.cells, VoteD.cells_len h.1, VoteD.cells_len h.2, List.getElem?_append]

theorem VoteD.one' {x : VoteD} (h : x.sl) : ∀ u ∈ x.cells, u.oneCell' = true := VoteD.one h.1 h.2
theorem HrD.one {x : HrD} (h : x.fit) : ∀ u ∈ x.cells, u.oneCell' = true := by
  intro u hu
  simp only [HrD.cells, List.mem_cons, List.mem_append] at hu
  rcases hu with rfl | hu | hu | hu
  · rfl
  · exact VoteD.one' h.2.1 u hu
  · exact VoteD.one' h.2.2 u hu
  · rcases hu with rfl | rfl | hu
    · rfl
    · rfl
    · cases hu

/-- A vote of nothing. -/
def zeroV : VoteD := ⟨0, List.replicate 32 0, .slice none 0 0, .slice none 0 0⟩
/-- A held round that has just been made. -/
def fresh (r : Int) : HrD := ⟨r, zeroV, zeroV, false, false⟩
theorem fresh_fit (r : Int) : (fresh r).fit := ⟨⟨by simp [fresh, zeroV], by simp [fresh, zeroV]⟩, ⟨rfl, rfl⟩, ⟨rfl, rfl⟩⟩
theorem bytesAt_nil (w : World) : bytesAt w (.slice none 0 0) [] := ⟨none, 0, rfl, rfl, by simp, .inl rfl⟩
theorem zeroV_ok (w : World) : zeroV.ok w := ⟨by simp [zeroV], ⟨[], bytesAt_nil w⟩, ⟨[], bytesAt_nil w⟩⟩
theorem fresh_ok (w : World) (r : Int) : (fresh r).ok w := ⟨zeroV_ok w, zeroV_ok w⟩

theorem zero91_eq (r : Int) : Try.zeroCells91.setIfInBounds 0 (.int .i64 r) = (fresh r).cells.toArray := by kernel_rfl

/-- A struct literal with its first field alone, of one cell. -/
theorem run_build_first (w : World) (t : Nat) (z : Array Value) (fields : Array Field) (pl : Array (Nat × Nat)) (x : Value) (hx : x.cells = #[x]) (hu : Try.prog.underlying t = some (.struct fields)) (hz : (zeroValue t).run Try.prog w = .ok (.agg z) w)
    (hpl : (fields.mapM fun (f : Field) => do pure (f.offset, ← sizeOf f.type)).run Try.prog w = .ok pl w) (h0 : pl[0]? = some (0, 1)) (hn : 0 < z.size) :
    (Instr.build t #[(0, x)]).run Try.prog w = .ok (.agg (z.setIfInBounds 0 x)) w := by
  have hn' : ¬ (z.size = 0) := by omega
  have hf : Instr.fill (pl[·]?) z [(0, x)] = some (z.setIfInBounds 0 x) := by
    simp [Instr.fill, h0, hx, Nat.not_lt.2 hn, hn']
  simp only [Instr.build, Sem.run_bind, hz, Result.andThen_ok, run_underlying hu]
  simp only [Sem.run_bind, hpl, Result.andThen_ok]
  simp only [Value.cells, hf]
  rfl

theorem zero91_size : Try.zeroCells91.size = 73 := by kernel_rfl
theorem run_build91 (w : World) (r : Int) : (Instr.build 91 #[(0, .int .i64 r)]).run Try.prog w = .ok (.agg (fresh r).cells.toArray) w := by
  have := run_build_first w 91 Try.zeroCells91 _ #[(0, 1), (1, 70), (71, 2)] (.int .i64 r) rfl Try.underlying91 (Try.zeroValue91 w) (by kernel_rfl) (by rfl) (by rw [zero91_size]; omega)
  rw [this, zero91_eq]

theorem exec_build91 (ρ : Operand → Value) (x0 : Operand) (dst : Option Tmp) (ty : TypeId) (pos : String) (af : Array Edge) (gd : Option (Nat × Bool)) (w : World) (r : Int) (h0 : ρ x0 = .int .i64 r) :
    Sem.run Try.prog (execOp ρ ⟨dst, .build 91 #[(0, x0)], ty, pos, af, gd⟩) w = .ok (.value (.agg (fresh r).cells.toArray)) w := by
  simp [execOp, Sem.run_bind, h0, run_build91]

end Go.Proofs.Qxb6604712a
