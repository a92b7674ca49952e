/-
  Seat b6604712a: a slice of held rounds that came in, opened.
-/
import Derived.Test.Qxb6604712aOpen
import Derived.Test.Qxb6604712aHeldAt
namespace Go.Proofs.Qxb6604712a
open Go.ChangeShapes Go.WideShapes Go.ChangeAt Go.RowKit
set_option linter.unusedSimpArgs false
set_option linter.unusedVariables false
variable {H : Type} {enc : TypeId × Value → H} {w : World} {spare : Nat → Bool} {held : Bool}

theorem Try.cells49 : Try.prog.cellsOf 49 = 73 := by kernel_rfl
theorem Try.cells46 : Try.prog.cellsOf 46 = 70 := by kernel_rfl
theorem Try.cells47 : Try.prog.cellsOf 47 = 2 := by kernel_rfl

theorem open_two {fuel : Nat} {cs : List Value} {x : DataW H × List MemPlace} (h : DataW.trod enc Try.prog w 0 spare held fuel 46 cs = some x) : ∃ v0 v1 : VoteD, cs = v0.cells ++ v1.cells ∧ v0.ok w ∧ v1.ok w := by
  obtain ⟨xs, m, _, _, hl, hx, hel⟩ := DataW.trod_array Try.underlying46 h
  rw [Try.cells46] at hl
  rw [Try.cells43] at hel
  have h0 := hel 0 (by omega)
  have h1 := hel 1 (by omega)
  rw [List.getElem?_eq_getElem (by omega)] at h0 h1
  obtain ⟨v0, e0, k0⟩ := open_vote h0
  obtain ⟨v1, e1, k1⟩ := open_vote h1
  refine ⟨v0, v1, ?_, k0, k1⟩
  have q0 := chop cs 0 35
  have q1 := chop cs 35 35
  rw [show 0 * 35 = 0 from rfl] at e0
  rw [show 1 * 35 = 35 from rfl] at e1
  rw [e0, List.drop_zero] at q0
  rw [e1, List.drop_eq_nil_of_le (show cs.length ≤ 35 + 35 by omega), List.append_nil] at q1
  rw [q0, Nat.zero_add, q1]

theorem open_flags {fuel : Nat} {cs : List Value} {x : DataW H × List MemPlace} (h : DataW.trod enc Try.prog w 0 spare held fuel 47 cs = some x) : ∃ b0 b1 : Bool, cs = [.bool b0, .bool b1] := by
  obtain ⟨xs, m, _, _, hl, hx, hel⟩ := DataW.trod_array Try.underlying47 h
  rw [Try.cells47] at hl
  rw [Try.cells4] at hel
  have h0 := hel 0 (by omega)
  have h1 := hel 1 (by omega)
  rw [List.getElem?_eq_getElem (by omega)] at h0 h1
  obtain ⟨b0, e0, _⟩ := DataW.trod_bool Try.underlying4 h0
  obtain ⟨b1, e1, _⟩ := DataW.trod_bool Try.underlying4 h1
  refine ⟨b0, b1, ?_⟩
  have q0 := chop cs 0 1
  have q1 := chop cs 1 1
  rw [show 0 * 1 = 0 from rfl] at e0
  rw [show 1 * 1 = 1 from rfl] at e1
  rw [e0, List.drop_zero] at q0
  rw [e1, List.drop_eq_nil_of_le (show cs.length ≤ 1 + 1 by omega), List.append_nil] at q1
  rw [q0, Nat.zero_add, q1]
  rfl

theorem open_hr {fuel : Nat} {cs : List Value} {x : DataW H × List MemPlace} (h : DataW.trod enc Try.prog w 0 spare held fuel 49 cs = some x) : ∃ y : HrD, cs = y.cells ∧ y.ok w := by
  obtain ⟨n, hl, hf⟩ := fld Try.underlying49 h
  rw [Try.cells49] at hl
  obtain ⟨y0, h0⟩ := hf 0 3 0 1 rfl Try.cells3
  obtain ⟨y1, h1⟩ := hf 1 46 1 70 rfl Try.cells46
  obtain ⟨y2, h2⟩ := hf 2 47 71 2 rfl Try.cells47
  obtain ⟨r, e0, _⟩ := DataW.trod_int Try.underlying3 h0
  obtain ⟨v0, v1, e1, k0, k1⟩ := open_two h1
  obtain ⟨b0, b1, e2⟩ := open_flags h2
  refine ⟨⟨r, v0, v1, b0, b1⟩, ?_, k0, k1⟩
  have q0 := chop cs 0 1
  have q1 := chop cs 1 70
  have q2 := chop cs 71 2
  rw [e0] at q0
  rw [e1] at q1
  rw [e2, List.drop_eq_nil_of_le (show cs.length ≤ 71 + 2 by omega)] at q2
  rw [List.drop_zero] at q0
  rw [q0, q1, q2]
  simp [HrD.cells]
theorem open_held {fuel : Nat} {cs : List Value} {x : DataW H × List MemPlace} (h : DataW.trod enc Try.prog w 0 spare held fuel 22 cs = some x) : ∃ v hs, cs = [v] ∧ heldAt w v hs := by
  obtain ⟨v, xs, h1, h2, h3⟩ := open_row HrD.cells (fun y => y.ok w) 22 49 73 Try.underlying22 Try.cells49 (by omega) (fun a ha => HrD.cells_len ha.fit.1) (fun n cs x h => open_hr h) h
  exact ⟨v, xs, h1, h2, h3⟩
end Go.Proofs.Qxb6604712a
