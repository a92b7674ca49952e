/-
  Seat b6604712a: ZZnewRoundState, ZZsetTotal, ZZsetSenderPower, ZZsetSenders, ZZsetProposal.
-/
import Derived.Test.Qxb6604712aState3
namespace Go.Proofs.Qxb6604712a
open Go.RowKit
set_option linter.unusedSimpArgs false
set_option linter.unusedVariables false

def heldZero : List Value := .slice none 0 0 :: (List.replicate 32 (.int .u8 0) ++ [.int .i64 0, .slice none 0 0, .bool false, .bool false, .bool false, .bool false, .bool false])
def stZero (r : Int) : StD := ⟨r, .pointer none, heldZero, [], [], 0, [], [], 0, [], 0⟩

theorem sep_nil (v : Value) : sep (.slice none 0 0) v := .inl rfl

set_option maxRecDepth 10000 in
set_option maxHeartbeats 400000 in
theorem newRound_any (r : Int) (w : World) : Calls Try.prog 32 #[.int .i64 r] w fun e w' => e = .returned (.pointer (some ⟨w.heap.size, 0, none⟩)) ∧ IsS w' (fun k => k < w.heap.size) w.heap.size (stZero r) ∧ Below w.heap.size w w' := by
  go_enter Try.func32, Try.ntmps32
  go_wp2
  go_ret
  have hnil : ∀ k, k < w.heap.size → (Value.slice none 0 0).ownBlock ≠ some k := fun k _ => by simp [Value.ownBlock]
  refine ⟨rfl, ⟨.slice none 0 0, .slice none 0 0, .slice none 0 0, .slice none 0 0, .slice none 0 0, ?_, fun k hk => by simp; omega, fun k hk => by simp; omega, rfl, World.ownsRow_nil _ _ _ _, World.ownsRow_nil _ _ _ _, World.ownsRow_nil _ _ _ _, World.ownsRow_nil _ _ _ _, World.ownsRow_nil _ _ _ _, hnil, hnil, hnil, hnil, hnil, sep_nil _, sep_nil _, by simp [stZero], by simp [stZero], by simp [stZero], by simp [stZero]⟩, (Below.refl _ _).alloc (Nat.le_refl _) _⟩
  rw [heap_alloc_new]
  rfl

theorem Is.set1 {w : World} {P : Nat → Prop} {g : Nat} {a : StD} {pv pp cv cp sn : Value} (h : Is w P g a pv pp cv cp sn) (i : Nat) (u : Value) (a' : StD) (hc : (stCells a pv pp cv cp sn).set i u = stCells a' pv pp cv cp sn) (hheld : a'.held.length = 40)
    (e1 : a'.vs1 = a.vs1) (e2 : a'.ps1 = a.ps1) (e3 : a'.vs2 = a.vs2) (e4 : a'.ps2 = a.ps2) (e5 : a'.ws = a.ws) : Is (w.setCell ⟨g, i, none⟩ u) P g a' pv pp cv cp sn ∧ Steps P w (w.setCell ⟨g, i, none⟩ u) := by
  refine ⟨h.turn (grown_set w g i u) a' ?_ hheld e1 e2 e3 e4 e5, Steps.grown (grown_set w g i u) h.pl h.pg⟩
  rw [heap_setCell_same w g i _ 104 u h.blk, List.setIfInBounds_toArray, hc]

set_option maxHeartbeats 400000 in
theorem setTotal_walk (g : Nat) (st : Int) (hst : st = 1 ∨ st = 2) (t : Int) (u : Value) (w : World) (hc : w.cell? ⟨g, (if st = 2 then 45 else 42) + 2, none⟩ = some u) (hfz : w.frozen? ⟨g, (if st = 2 then 45 else 42) + 2, none⟩ = false) :
    Calls Try.prog 52 #[.pointer (some ⟨g, 0, none⟩), .int .i8 st, .int .i64 t] w fun e w' => e = .returned (.tuple #[]) ∧ w' = w.setCell ⟨g, (if st = 2 then 45 else 42) + 2, none⟩ (.int .i64 t) := by
  generalize hoo : (if st = 2 then 45 else 42) = o at *
  go_enter Try.func52, Try.ntmps52
  go_wp2_with (go_at_call 61; refine (tally_any g st hst _).mono ?_; rintro e w' ⟨rfl, rfl⟩; rw [hoo])
  go_end0
  exact ⟨rfl, rfl⟩
def StD.setT (a : StD) (st t : Int) : StD := if st = 2 then { a with ct := t } else { a with pt := t }
theorem setTotal_is (g : Nat) (st : Int) (hst : st = 1 ∨ st = 2) (t : Int) (P : Nat → Prop) (a : StD) (w : World) (h : IsS w P g a) :
    Calls Try.prog 52 #[.pointer (some ⟨g, 0, none⟩), .int .i8 st, .int .i64 t] w fun e w' => e = .returned (.tuple #[]) ∧ IsS w' P g (a.setT st t) ∧ Steps P w w' := by
  obtain ⟨pv, pp, cv, cp, sn, h⟩ := h
  rcases hst with rfl | rfl
  · refine (setTotal_walk g 1 (.inl rfl) t _ w (by rw [if_neg (by decide), h.cell]; exact get_44 h.hheld _ _ _ _ _) (h.fro _)).mono ?_
    rintro e w' ⟨rfl, rfl⟩
    rw [if_neg (by decide)]
    obtain ⟨q1, q2⟩ := h.set1 44 (.int .i64 t) { a with pt := t } (by simp [stCells, List.set_append, h.hheld]) h.hheld rfl rfl rfl rfl rfl
    exact ⟨rfl, ⟨_, _, _, _, _, q1⟩, q2⟩
  · refine (setTotal_walk g 2 (.inr rfl) t _ w (by rw [if_pos rfl, h.cell]; exact get_47 h.hheld _ _ _ _ _) (h.fro _)).mono ?_
    rintro e w' ⟨rfl, rfl⟩
    rw [if_pos rfl]
    obtain ⟨q1, q2⟩ := h.set1 47 (.int .i64 t) { a with ct := t } (by simp [stCells, List.set_append, h.hheld]) h.hheld rfl rfl rfl rfl rfl
    exact ⟨rfl, ⟨_, _, _, _, _, q1⟩, q2⟩

set_option maxHeartbeats 400000 in
theorem setSP_walk (g : Nat) (t : Int) (u : Value) (w : World) (hc : w.cell? ⟨g, 49, none⟩ = some u) (hfz : w.frozen? ⟨g, 49, none⟩ = false) :
    Calls Try.prog 48 #[.pointer (some ⟨g, 0, none⟩), .int .i64 t] w fun e w' => e = .returned (.tuple #[]) ∧ w' = w.setCell ⟨g, 49, none⟩ (.int .i64 t) := by
  go_enter Try.func48, Try.ntmps48
  go_wp2
  go_end0
  exact ⟨rfl, rfl⟩
theorem setSP_is (g : Nat) (t : Int) (P : Nat → Prop) (a : StD) (w : World) (h : IsS w P g a) :
    Calls Try.prog 48 #[.pointer (some ⟨g, 0, none⟩), .int .i64 t] w fun e w' => e = .returned (.tuple #[]) ∧ IsS w' P g { a with sp := t } ∧ Steps P w w' := by
  obtain ⟨pv, pp, cv, cp, sn, h⟩ := h
  refine (setSP_walk g t _ w (by rw [h.cell]; exact get_49 h.hheld _ _ _ _ _) (h.fro _)).mono ?_
  rintro e w' ⟨rfl, rfl⟩
  obtain ⟨q1, q2⟩ := h.set1 49 (.int .i64 t) { a with sp := t } (by simp [stCells, List.set_append, h.hheld]) h.hheld rfl rfl rfl rfl rfl
  exact ⟨rfl, ⟨_, _, _, _, _, q1⟩, q2⟩

end Go.Proofs.Qxb6604712a
