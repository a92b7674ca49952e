/-
  Seat b6604712a: ZZaddPower; ZZaddVote, ZZaddPower upon a record; ZZnewRoundState, ZZsetTotal, ZZsetSenderPower.
-/
import Derived.Test.Qxb6604712aState2
namespace Go.Proofs.Qxb6604712a
open Go.RowKit
set_option linter.unusedSimpArgs false
set_option linter.unusedVariables false

theorem exec_build128 (ρ : Operand → Value) (x0 x1 : Operand) (dst : Option Tmp) (ty : TypeId) (pos : String) (af : Array Edge) (gd : Option (Nat × Bool)) (w : World)
    (h0 : (ρ x0).cells.size = 32) (h1 : (ρ x1).cells.size = 1) :
    Sem.run Try.prog (execOp ρ ⟨dst, .build 128 #[(0, x0), (1, x1)], ty, pos, af, gd⟩) w = .ok (.value (.agg ((ρ x0).cells ++ (ρ x1).cells))) w := by
  have := run_build_at w 128 33 _ [ρ x0, ρ x1] places128 (by
    intro j hj
    match j, hj with
    | 0, _ => simp [flatV, h0]
    | 1, _ => simp [flatV, h0, h1]) (by simp [flatV, h0, h1])
  simp only [execOp, Sem.run_bind]
  have e : (Array.map (fun (p : Nat × Operand) => match p with | (i, x) => (i, ρ x)) #[(0, x0), (1, x1)]) = (([ρ x0, ρ x1].zipIdx).map fun p => (p.2, p.1)).toArray := by simp
  rw [e, this]
  simp [flatV]

attribute [local go_sem ↓] exec_build128 exec_buildSlice99 exec_load53 Go.wp_at_zero Go.wp_at_succ
attribute [local go_sem] ptrB ptrO isPtr

set_option maxRecDepth 100000 in
set_option maxHeartbeats 2000000 in
theorem addPower_any (g : Nat) (st : Int) (hst : st = 1 ∨ st = 2) (f : Int) (id : List Int) (hid : id.length = 32) (base : Nat) (v : Value) (n : Nat) (xs : List Value) (w : World)
    (hc : w.cell? ⟨g, (if st = 2 then 45 else 42) + 1, none⟩ = some v) (hfz : w.frozen? ⟨g, (if st = 2 then 45 else 42) + 1, none⟩ = false) (hown : w.ownsRow base 128 33 v n xs) (hne : v.ownBlock ≠ some g) (hbase : base ≤ w.heap.size) (hn : n ≤ 1000000) :
    Calls Try.prog 51 #[.pointer (some ⟨g, 0, none⟩), .int .i8 st, .agg (id.map (Value.int .u8)).toArray, .int .i64 f] w fun e w' => e = .returned (.tuple #[]) ∧ ∃ v', Grew base 128 33 w w' g ((if st = 2 then 45 else 42) + 1) v v' (n + 1) (xs ++ (PowD.mk id f).cells) := by
  obtain ⟨i0, z0, hi0, hz0, hz1, hz2, hz3⟩ := info_ex Try.inf128
  generalize hoo : (if st = 2 then 45 else 42) = o at *
  go_enter Try.func51, Try.ntmps51
  go_wp2_with (go_at_call 61; refine (tally_any g st hst _).mono ?_; rintro e w' ⟨rfl, rfl⟩; rw [hoo])
  generalize hW : w.alloc (Obj.cells (id.map (Value.int .u8)).toArray 53) = W
  have hra : W.rangeAt w.heap.size 0 (id.map (Value.int .u8)) := by rw [← hW]; exact range_of_block (heap_alloc_new _ _) 0 _ (fun j v hv => by simpa using hv)
  have hrd : rd W.drew w.heap.size 0 32 = (id.map (Value.int .u8)).toArray := rd_of_range (w := W.drew) hra (by simp [hid])
  have hcr : canRd W.drew w.heap.size 0 32 := canRd_of_range (w := W.drew) hra (by simp [hid])
  have hcW : W.cell? ⟨g, o + 1, none⟩ = some v := by rw [← hW]; exact cell_alloc1 hc _
  have hfW : W.frozen? ⟨g, o + 1, none⟩ = false := by rw [← hW, World.frozen?_alloc_past _ _ _ (World.block_lt_of_cell? _ _ hc)]; exact hfz
  have hoW : W.ownsRow base 128 33 v n xs := by rw [← hW]; exact hown.alloc _
  have hbW : base ≤ W.heap.size := by rw [← hW]; simp; omega
  have hgr : w.grownBy W v.ownBlock := by rw [← hW]; exact World.grownBy_alloc _ _ _
  have hgW := World.block_lt_of_cell? _ _ hcW
  clear hW hra hc hfz
  go_region_law ((refine step_append_lies _ (by rfl) _ _ _ (by rfl) base 128 i0 z0 33 40 Try.underlying99 hi0 hz0 hz1 hz2 hz3 (by omega) v n xs (by rfl) ((hoW.alloc _).drew) ⟨W.heap.size, 0, none⟩ 1 1 (PowD.mk id f).cells (by rfl) (by simp [PowD.cells, hid]) (World.news_of_block (cs := (PowD.mk id f).cells.toArray) (t := 128) (fr := (0, 0)) (heap_alloc_new W _)) (PowD.one _) (by omega) (by unfold maxLen; omega) (by omega) (by simp; omega) (W.heap.size + 1) (by simp) ?_; intro gg cap w1 hown1 hgrow hat hlt; have hc1 := far_cell hgrow hcW hne; have hf1 := far_frozen hgrow hcW hfW hne))
  all_goals
    go_wp2
    go_end0
    refine ⟨rfl, .slice (some ⟨gg, 0, none⟩) (n + 1) cap, w1, grown_trans hgr (grown_trans (grown_alloc_drew _ _ _) hgrow), hown1, ?_, rfl⟩
    rcases hat with h | h
    · exact .inl (by rw [h]; rfl)
    · exact .inr ⟨gg, rfl, by have := hgr.size; omega⟩

/-! ### upon a record -/
theorem Is.cell {w : World} {P : Nat → Prop} {g : Nat} {a : StD} {pv pp cv cp sn : Value} (h : Is w P g a pv pp cv cp sn) (i : Nat) : w.cell? ⟨g, i, none⟩ = (stCells a pv pp cv cp sn)[i]? := cell_of_block h.blk i
theorem Is.fro {w : World} {P : Nat → Prop} {g : Nat} {a : StD} {pv pp cv cp sn : Value} (h : Is w P g a pv pp cv cp sn) (i : Nat) : w.frozen? ⟨g, i, none⟩ = false := frozen_of_row w g i _ _ h.blk
theorem get_42 {a : StD} (h : a.held.length = 40) (pv pp cv cp sn : Value) : (stCells a pv pp cv cp sn)[42]? = some pv := by simp [stCells, h]
theorem get_43 {a : StD} (h : a.held.length = 40) (pv pp cv cp sn : Value) : (stCells a pv pp cv cp sn)[43]? = some pp := by simp [stCells, h]
theorem get_44 {a : StD} (h : a.held.length = 40) (pv pp cv cp sn : Value) : (stCells a pv pp cv cp sn)[44]? = some (.int .i64 a.pt) := by simp [stCells, h]
theorem get_45 {a : StD} (h : a.held.length = 40) (pv pp cv cp sn : Value) : (stCells a pv pp cv cp sn)[45]? = some cv := by simp [stCells, h]
theorem get_46 {a : StD} (h : a.held.length = 40) (pv pp cv cp sn : Value) : (stCells a pv pp cv cp sn)[46]? = some cp := by simp [stCells, h]
theorem get_47 {a : StD} (h : a.held.length = 40) (pv pp cv cp sn : Value) : (stCells a pv pp cv cp sn)[47]? = some (.int .i64 a.ct) := by simp [stCells, h]
theorem get_48 {a : StD} (h : a.held.length = 40) (pv pp cv cp sn : Value) : (stCells a pv pp cv cp sn)[48]? = some sn := by simp [stCells, h]
theorem get_49 {a : StD} (h : a.held.length = 40) (pv pp cv cp sn : Value) : (stCells a pv pp cv cp sn)[49]? = some (.int .i64 a.sp) := by simp [stCells, h]

/-- A record with one vote more in the step's tally. -/
def StD.addV (a : StD) (st : Int) (x : VoteD) : StD := if st = 2 then { a with vs2 := a.vs2 ++ [x] } else { a with vs1 := a.vs1 ++ [x] }
def StD.addP (a : StD) (st : Int) (x : PowD) : StD := if st = 2 then { a with ps2 := a.ps2 ++ [x] } else { a with ps1 := a.ps1 ++ [x] }
def StD.vs (a : StD) (st : Int) : List VoteD := if st = 2 then a.vs2 else a.vs1
def StD.ps (a : StD) (st : Int) : List PowD := if st = 2 then a.ps2 else a.ps1

theorem addVote_is (g : Nat) (st : Int) (hst : st = 1 ∨ st = 2) (f : Int) (id : List Int) (hid : id.length = 32) (a1 a2 : Option Addr) (l1 l2 cp1 cp2 : Nat) (P : Nat → Prop) (a : StD) (w : World) (h : IsS w P g a) (hn : (a.vs st).length ≤ 1000000) :
    Calls Try.prog 60 #[.pointer (some ⟨g, 0, none⟩), .int .i8 st, .int .i64 f, .agg (id.map (Value.int .u8)).toArray, .slice a1 l1 cp1, .slice a2 l2 cp2] w fun e w' => e = .returned (.tuple #[]) ∧ IsS w' P g (a.addV st ⟨f, id, .slice a1 l1 cp1, .slice a2 l2 cp2⟩) ∧ Steps P w w' := by
  obtain ⟨pv, pp, cv, cp, sn, h⟩ := h
  rcases hst with rfl | rfl
  · refine (addVote_any g 1 (.inl rfl) f id hid a1 a2 l1 l2 cp1 cp2 0 pv a.vs1.length _ w (by rw [if_neg (by decide), h.cell]; exact get_42 h.hheld _ _ _ _ _) (by rw [if_neg (by decide)]; exact h.fro _) h.r1 (owns_ne h.r1 h.blk (by decide)) (Nat.zero_le _) hn).mono ?_
    rintro e w' ⟨rfl, v', hG⟩
    rw [if_neg (by decide)] at hG
    obtain ⟨q1, q2⟩ := h.vote1 ⟨f, id, .slice a1 l1 cp1, .slice a2 l2 cp2⟩ hid hG
    exact ⟨rfl, ⟨_, _, _, _, _, q1⟩, q2⟩
  · refine (addVote_any g 2 (.inr rfl) f id hid a1 a2 l1 l2 cp1 cp2 0 cv a.vs2.length _ w (by rw [if_pos rfl, h.cell]; exact get_45 h.hheld _ _ _ _ _) (by rw [if_pos rfl]; exact h.fro _) h.r3 (owns_ne h.r3 h.blk (by decide)) (Nat.zero_le _) hn).mono ?_
    rintro e w' ⟨rfl, v', hG⟩
    rw [if_pos rfl] at hG
    obtain ⟨q1, q2⟩ := h.vote2 ⟨f, id, .slice a1 l1 cp1, .slice a2 l2 cp2⟩ hid hG
    exact ⟨rfl, ⟨_, _, _, _, _, q1⟩, q2⟩

theorem addPower_is (g : Nat) (st : Int) (hst : st = 1 ∨ st = 2) (f : Int) (id : List Int) (hid : id.length = 32) (P : Nat → Prop) (a : StD) (w : World) (h : IsS w P g a) (hn : (a.ps st).length ≤ 1000000) :
    Calls Try.prog 51 #[.pointer (some ⟨g, 0, none⟩), .int .i8 st, .agg (id.map (Value.int .u8)).toArray, .int .i64 f] w fun e w' => e = .returned (.tuple #[]) ∧ IsS w' P g (a.addP st ⟨id, f⟩) ∧ Steps P w w' := by
  obtain ⟨pv, pp, cv, cp, sn, h⟩ := h
  rcases hst with rfl | rfl
  · refine (addPower_any g 1 (.inl rfl) f id hid 0 pp a.ps1.length _ w (by rw [if_neg (by decide), h.cell]; exact get_43 h.hheld _ _ _ _ _) (by rw [if_neg (by decide)]; exact h.fro _) h.r2 (owns_ne h.r2 h.blk (by decide)) (Nat.zero_le _) hn).mono ?_
    rintro e w' ⟨rfl, v', hG⟩
    rw [if_neg (by decide)] at hG
    obtain ⟨q1, q2⟩ := h.pow1 ⟨id, f⟩ hid hG
    exact ⟨rfl, ⟨_, _, _, _, _, q1⟩, q2⟩
  · refine (addPower_any g 2 (.inr rfl) f id hid 0 cp a.ps2.length _ w (by rw [if_pos rfl, h.cell]; exact get_46 h.hheld _ _ _ _ _) (by rw [if_pos rfl]; exact h.fro _) h.r4 (owns_ne h.r4 h.blk (by decide)) (Nat.zero_le _) hn).mono ?_
    rintro e w' ⟨rfl, v', hG⟩
    rw [if_pos rfl] at hG
    obtain ⟨q1, q2⟩ := h.pow2 ⟨id, f⟩ hid hG
    exact ⟨rfl, ⟨_, _, _, _, _, q1⟩, q2⟩

end Go.Proofs.Qxb6604712a
