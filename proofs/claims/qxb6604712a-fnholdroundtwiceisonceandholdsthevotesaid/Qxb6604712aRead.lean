/-
  Seat b6604712a: the record's readers.
-/
import Derived.Test.Qxb6604712aApply3
namespace Go.Proofs.Qxb6604712a
open Go.RowKit
set_option linter.unusedSimpArgs false
set_option linter.unusedVariables false

theorem exec_store53 (ρ : Operand → Value) (xp xv : Operand) (dst : Option Tmp) (ty : TypeId) (pos : String) (af : Array Edge) (gd : Option (Nat × Bool)) (w : World)
    (hp : isPtr (ρ xp) = true) (ht : w.there (ptrB (ρ xp)) (ptrO (ρ xp)) 32) (hs : (ρ xv).cells.size = 32) (h1 : oneAll (ρ xv) = true) :
    Sem.run Try.prog (execOp ρ ⟨dst, .store 53 xp xv, ty, pos, af, gd⟩) w = .ok .skip (w.setCells (ptrB (ρ xp)) (ptrO (ρ xp)) (ρ xv).cells.toList) := exec_store_of Try.size53 ρ xp xv dst ty pos af gd w hp ht hs h1
theorem exec_store88 (ρ : Operand → Value) (xp xv : Operand) (dst : Option Tmp) (ty : TypeId) (pos : String) (af : Array Edge) (gd : Option (Nat × Bool)) (w : World)
    (hp : isPtr (ρ xp) = true) (ht : w.there (ptrB (ρ xp)) (ptrO (ρ xp)) 35) (hs : (ρ xv).cells.size = 35) (h1 : oneAll (ρ xv) = true) :
    Sem.run Try.prog (execOp ρ ⟨dst, .store 88 xp xv, ty, pos, af, gd⟩) w = .ok .skip (w.setCells (ptrB (ρ xp)) (ptrO (ρ xp)) (ρ xv).cells.toList) := exec_store_of Try.size88 ρ xp xv dst ty pos af gd w hp ht hs h1
theorem exec_store128 (ρ : Operand → Value) (xp xv : Operand) (dst : Option Tmp) (ty : TypeId) (pos : String) (af : Array Edge) (gd : Option (Nat × Bool)) (w : World)
    (hp : isPtr (ρ xp) = true) (ht : w.there (ptrB (ρ xp)) (ptrO (ρ xp)) 33) (hs : (ρ xv).cells.size = 33) (h1 : oneAll (ρ xv) = true) :
    Sem.run Try.prog (execOp ρ ⟨dst, .store 128 xp xv, ty, pos, af, gd⟩) w = .ok .skip (w.setCells (ptrB (ρ xp)) (ptrO (ρ xp)) (ρ xv).cells.toList) := exec_store_of Try.size128 ρ xp xv dst ty pos af gd w hp ht hs h1

theorem IsS.below {w w' : World} {P : Nat → Prop} {g : Nat} {a : StD} (h : IsS w P g a) (hb : Below w.heap.size w w') : IsS w' P g a := by
  obtain ⟨pv, pp, cv, cp, sn, h⟩ := h
  exact ⟨pv, pp, cv, cp, sn, h.below hb P fun k hk => ⟨.inl hk, Nat.lt_of_lt_of_le (h.pl k hk) hb.size⟩⟩

/-! ### single cells -/
set_option maxHeartbeats 400000 in
theorem round_any (g : Nat) (P : Nat → Prop) (a : StD) (w : World) (h : IsS w P g a) : Calls Try.prog 53 #[.pointer (some ⟨g, 0, none⟩)] w fun e w' => e = .returned (.int .i64 a.round) ∧ w' = w := by
  obtain ⟨pv, pp, cv, cp, sn, h⟩ := h
  have c : w.cell? ⟨g, 0, none⟩ = some (.int .i64 a.round) := by rw [h.cell]; rfl
  clear h
  go_enter Try.func53, Try.ntmps53
  go_wp2
  go_ret
  exact ⟨rfl, rfl⟩
set_option maxHeartbeats 400000 in
theorem sp_any (g : Nat) (P : Nat → Prop) (a : StD) (w : World) (h : IsS w P g a) : Calls Try.prog 59 #[.pointer (some ⟨g, 0, none⟩)] w fun e w' => e = .returned (.int .i64 a.sp) ∧ w' = w := by
  obtain ⟨pv, pp, cv, cp, sn, h⟩ := h
  have c : w.cell? ⟨g, 49, none⟩ = some (.int .i64 a.sp) := by rw [h.cell]; exact get_49 h.hheld _ _ _ _ _
  clear h
  go_enter Try.func59, Try.ntmps59
  go_wp2
  go_ret
  exact ⟨rfl, rfl⟩
theorem q95 (w : World) (x : Option Addr) : (binOp .eql 95 (.pointer x) (.pointer none)).run Try.prog w = .ok (.bool x.isNone) w := by
  have h : ∀ d : Nat, (Op.equalIn (d + 1) 95 (.pointer x) (.pointer none)).run Try.prog w = .ok x.isNone w := fun d => by
    cases x <;> simp [Op.equalIn, run_underlying Try.underlying95]
  simp only [binOp]
  simp [Op.equal, Op.maxDepth, h 9999]
set_option maxHeartbeats 400000 in
theorem propNil_any (g : Nat) (P : Nat → Prop) (a : StD) (x : Option Addr) (hx : a.prop = .pointer x) (w : World) (h : IsS w P g a) : Calls Try.prog 54 #[.pointer (some ⟨g, 0, none⟩)] w fun e w' => e = .returned (.bool x.isNone) ∧ w' = w := by
  obtain ⟨pv, pp, cv, cp, sn, h⟩ := h
  have c : w.cell? ⟨g, 1, none⟩ = some (.pointer x) := by rw [h.cell, ← hx]; rfl
  have q := q95
  clear h hx
  go_enter Try.func54, Try.ntmps54
  go_wp2
  go_ret
  exact ⟨rfl, rfl⟩
def StD.tot (a : StD) (st : Int) : Int := if st = 2 then a.ct else a.pt
set_option maxHeartbeats 400000 in
theorem total_any (g : Nat) (st : Int) (hst : st = 1 ∨ st = 2) (P : Nat → Prop) (a : StD) (w : World) (h : IsS w P g a) : Calls Try.prog 69 #[.pointer (some ⟨g, 0, none⟩), .int .i8 st] w fun e w' => e = .returned (.int .i64 (a.tot st)) ∧ w' = w := by
  obtain ⟨pv, pp, cv, cp, sn, h⟩ := h
  obtain ⟨o, ho, c⟩ : ∃ o, (if st = 2 then 45 else 42) = o ∧ w.cell? ⟨g, o + 2, none⟩ = some (.int .i64 (a.tot st)) := by
    refine ⟨_, rfl, ?_⟩
    rcases hst with rfl | rfl
    · rw [if_neg (by decide), h.cell]; exact get_44 h.hheld _ _ _ _ _
    · rw [if_pos rfl, h.cell]; exact get_47 h.hheld _ _ _ _ _
  clear h
  go_enter Try.func69, Try.ntmps69
  go_wp2_with (go_at_call 61; refine (tally_any g st hst _).mono ?_; rintro e w' ⟨rfl, rfl⟩; rw [ho])
  go_ret
  exact ⟨rfl, rfl⟩

/-- The step's two rows. -/
theorem IsS.rows {w : World} {P : Nat → Prop} {g : Nat} {a : StD} (h : IsS w P g a) (st : Int) (hst : st = 1 ∨ st = 2) :
    ∃ v p o, (if st = 2 then 45 else 42) = o ∧ w.cell? ⟨g, o, none⟩ = some v ∧ w.cell? ⟨g, o + 1, none⟩ = some p ∧ w.ownsRow 0 88 35 v (a.vs st).length ((a.vs st).flatMap VoteD.cells) ∧ w.ownsRow 0 128 33 p (a.ps st).length ((a.ps st).flatMap PowD.cells) ∧ (∀ x ∈ a.vs st, x.id.length = 32) ∧ (∀ x ∈ a.ps st, x.id.length = 32) := by
  obtain ⟨pv, pp, cv, cp, sn, h⟩ := h
  rcases hst with rfl | rfl
  · exact ⟨pv, pp, 42, by rw [if_neg (by decide)], by rw [h.cell]; exact get_42 h.hheld _ _ _ _ _, by rw [h.cell]; exact get_43 h.hheld _ _ _ _ _, h.r1, h.r2, h.i1, h.i2⟩
  · exact ⟨cv, cp, 45, by rw [if_pos rfl], by rw [h.cell]; exact get_45 h.hheld _ _ _ _ _, by rw [h.cell]; exact get_46 h.hheld _ _ _ _ _, h.r3, h.r4, h.i3, h.i4⟩

set_option maxHeartbeats 400000 in
theorem tallyLen_any (g : Nat) (st : Int) (hst : st = 1 ∨ st = 2) (P : Nat → Prop) (a : StD) (w : World) (h : IsS w P g a) : Calls Try.prog 65 #[.pointer (some ⟨g, 0, none⟩), .int .i8 st] w fun e w' => e = .returned (.int .i64 (a.vs st).length) ∧ w' = w := by
  obtain ⟨v, p, o, ho, c, _, hr, _⟩ := h.rows st hst
  obtain ⟨b, n, cp, rfl⟩ := owns_form hr
  have e := own_len hr
  subst e
  clear h hr
  go_enter Try.func65, Try.ntmps65
  go_wp2_with (go_at_call 61; refine (tally_any g st hst _).mono ?_; rintro e w' ⟨rfl, rfl⟩; rw [ho])
  go_ret
  exact ⟨rfl, rfl⟩
set_option maxHeartbeats 400000 in
theorem powerLen_any (g : Nat) (st : Int) (hst : st = 1 ∨ st = 2) (P : Nat → Prop) (a : StD) (w : World) (h : IsS w P g a) : Calls Try.prog 67 #[.pointer (some ⟨g, 0, none⟩), .int .i8 st] w fun e w' => e = .returned (.int .i64 (a.ps st).length) ∧ w' = w := by
  obtain ⟨v, p, o, ho, _, c, _, hr, _⟩ := h.rows st hst
  obtain ⟨b, n, cp, rfl⟩ := owns_form hr
  have e := own_len hr
  subst e
  clear h hr
  go_enter Try.func67, Try.ntmps67
  go_wp2_with (go_at_call 61; refine (tally_any g st hst _).mono ?_; rintro e w' ⟨rfl, rfl⟩; rw [ho])
  go_ret
  exact ⟨rfl, rfl⟩
set_option maxHeartbeats 400000 in
theorem sendersLen_any (g : Nat) (P : Nat → Prop) (a : StD) (w : World) (h : IsS w P g a) : Calls Try.prog 70 #[.pointer (some ⟨g, 0, none⟩)] w fun e w' => e = .returned (.int .i64 a.ws.length) ∧ w' = w := by
  obtain ⟨pv, pp, cv, cp, sn, h⟩ := h
  have c : w.cell? ⟨g, 48, none⟩ = some sn := by rw [h.cell]; exact get_48 h.hheld _ _ _ _ _
  obtain ⟨b, n, cq, rfl⟩ := owns_form h.r5
  have e := own_len h.r5
  subst e
  clear h
  go_enter Try.func70, Try.ntmps70
  go_wp2
  go_ret
  exact ⟨rfl, rfl⟩
set_option maxHeartbeats 400000 in
theorem sendersWord_any (g : Nat) (P : Nat → Prop) (a : StD) (k : Nat) (hk : k < a.ws.length) (w : World) (h : IsS w P g a) : Calls Try.prog 71 #[.pointer (some ⟨g, 0, none⟩), .int .i64 k] w fun e w' => e = .returned (.int .u64 a.ws[k]) ∧ w' = w := by
  obtain ⟨pv, pp, cv, cp, sn, h⟩ := h
  have c : w.cell? ⟨g, 48, none⟩ = some sn := by rw [h.cell]; exact get_48 h.hheld _ _ _ _ _
  obtain ⟨gg, cq, rfl, _, _⟩ := h.r5.form (by omega)
  have hck : w.cell? ⟨gg, k, none⟩ = some (.int .u64 a.ws[k]) := by rw [h.r5.cellAt k (by omega)]; simp [hk]
  have hlt : (k : Int) < (a.ws.length : Int) := by omega
  generalize a.ws[k] = z at *
  generalize a.ws.length = n at *
  clear h
  go_enter Try.func71, Try.ntmps71
  go_wp2
  go_ret
  exact ⟨rfl, rfl⟩
set_option maxHeartbeats 400000 in
theorem stepOf_any (k : Nat) (hk : k < 2) (w : World) : Calls Try.prog 57 #[.int .i64 k] w fun e w' => e = .returned (.int .i8 (if k = 1 then 2 else 1)) ∧ w' = w := by
  match k, hk with
  | 0, _ =>
    go_enter Try.func57, Try.ntmps57
    go_wp2
    go_ret
    exact ⟨rfl, rfl⟩
  | 1, _ =>
    go_enter Try.func57, Try.ntmps57
    go_wp2
    go_ret
    exact ⟨rfl, rfl⟩

end Go.Proofs.Qxb6604712a
