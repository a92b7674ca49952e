/-
  Seat b6604712a: the round's record: what it holds; tally, ZZaddVote.
-/
import Derived.Test.Qxb6604712aClone3
import Derived.Deep.RegionLaw
import Derived.Deep.DrawnRows
namespace Go.Proofs.Qxb6604712a
open Go.RowKit
set_option linter.unusedSimpArgs false
set_option linter.unusedVariables false

set_option maxHeartbeats 400000 in
theorem tally_pre (g : Nat) (w : World) : Calls Try.prog 61 #[.pointer (some ⟨g, 0, none⟩), .int .i8 1] w fun e w' => e = .returned (.pointer (some ⟨g, 42, none⟩)) ∧ w' = w := by
  go_enter Try.func61, Try.ntmps61
  go_wp2
  go_ret
  exact ⟨rfl, rfl⟩
set_option maxHeartbeats 400000 in
theorem tally_com (g : Nat) (w : World) : Calls Try.prog 61 #[.pointer (some ⟨g, 0, none⟩), .int .i8 2] w fun e w' => e = .returned (.pointer (some ⟨g, 45, none⟩)) ∧ w' = w := by
  go_enter Try.func61, Try.ntmps61
  go_wp2
  go_ret
  exact ⟨rfl, rfl⟩
theorem tally_any (g : Nat) (st : Int) (hst : st = 1 ∨ st = 2) (w : World) : Calls Try.prog 61 #[.pointer (some ⟨g, 0, none⟩), .int .i8 st] w fun e w' => e = .returned (.pointer (some ⟨g, if st = 2 then 45 else 42, none⟩)) ∧ w' = w := by
  rcases hst with rfl | rfl
  · exact tally_pre g w
  · exact tally_com g w

theorem info_ex {e size bytes : Nat} (h : (Try.prog.info? e).map (fun i => (i.size, i.bytes, i.zero.map (·.cells.size))) = some (size, bytes, some size)) :
    ∃ i z, Try.prog.info? e = some i ∧ i.zero = some z ∧ i.size = size ∧ i.bytes = bytes ∧ z.cells.size = size := by
  obtain ⟨i, hi, hzz⟩ := Option.map_eq_some_iff.1 h
  simp only [Prod.mk.injEq] at hzz
  obtain ⟨h1, h2, h3⟩ := hzz
  obtain ⟨z, hz, hzs⟩ := Option.map_eq_some_iff.1 h3
  exact ⟨i, z, hi, hz, h1, h2, hzs⟩
theorem Try.inf88 : (Try.prog.info? 88).map (fun i => (i.size, i.bytes, i.zero.map (·.cells.size))) = some (35, 88, some 35) := by kernel_rfl
theorem Try.inf128 : (Try.prog.info? 128).map (fun i => (i.size, i.bytes, i.zero.map (·.cells.size))) = some (33, 40, some 33) := by kernel_rfl

theorem exec_build88 (ρ : Operand → Value) (x0 x1 x2 x3 : Operand) (dst : Option Tmp) (ty : TypeId) (pos : String) (af : Array Edge) (gd : Option (Nat × Bool)) (w : World)
    (h0 : (ρ x0).cells.size = 1) (h1 : (ρ x1).cells.size = 32) (h2 : (ρ x2).cells.size = 1) (h3 : (ρ x3).cells.size = 1) :
    Sem.run Try.prog (execOp ρ ⟨dst, .build 88 #[(0, x0), (1, x1), (2, x2), (3, x3)], ty, pos, af, gd⟩) w = .ok (.value (.agg ((ρ x0).cells ++ (ρ x1).cells ++ (ρ x2).cells ++ (ρ x3).cells))) w := by
  have := run_build_at w 88 35 _ [ρ x0, ρ x1, ρ x2, ρ x3] places88 (by
    intro j hj
    match j, hj with
    | 0, _ => simp [flatV, h0]
    | 1, _ => simp [flatV, h0, h1]
    | 2, _ => simp [flatV, h0, h1, h2]
    | 3, _ => simp [flatV, h0, h1, h2, h3]) (by simp [flatV, h0, h1, h2, h3])
  simp only [execOp, Sem.run_bind]
  have e : (Array.map (fun (p : Nat × Operand) => match p with | (i, x) => (i, ρ x)) #[(0, x0), (1, x1), (2, x2), (3, x3)]) = (([ρ x0, ρ x1, ρ x2, ρ x3].zipIdx).map fun p => (p.2, p.1)).toArray := by simp
  rw [e, this]
  simp [flatV]

/-- A slice literal of one element of many cells. -/
theorem run_buildSlice_one (w : World) (t e n : Nat) (x : Value) (hu : Try.prog.underlying t = some (.slice e)) (hi : (Try.prog.info? e).map (fun i => (i.size, i.zero.isSome)) = some (n, true)) (hx : x.cells.size = n) (h0 : 0 < n) (hn : n ≤ 16777216) :
    (Instr.buildSlice t 1 #[(0, x)]).run Try.prog w = .ok (.slice (some ⟨w.heap.size, 0, none⟩) 1 1) (w.alloc (.cells x.cells e)) := by
  obtain ⟨i, hi', hzz⟩ := Option.map_eq_some_iff.1 hi
  simp only [Prod.mk.injEq] at hzz
  obtain ⟨h1, h2⟩ := hzz
  obtain ⟨z, hz⟩ := Option.isSome_iff_exists.1 h2
  have hf := fill_seq (fun i => some (i * n, n)) [x] 0 [] ((Array.range (1 * n)).map (z.cells[· % z.cells.size]!)).toList (by intro j hj; match j, hj with | 0, _ => simp [flatV, hx]) (by simp [flatV, hx])
  simp only [List.nil_append, Array.toArray_toList, List.zipIdx_cons, List.zipIdx_nil, List.map_cons, List.map_nil, flatV, List.flatMap_cons, List.flatMap_nil, List.append_nil] at hf
  have hn0 : ¬ n = 0 := by omega
  have hn1 : ¬ 16777216 < n := by omega
  simp only [Nat.one_mul] at hf
  simp [Instr.buildSlice, run_underlying hu, sizeOf, typeInfo, hi', h1, zeroValue, hz, hn0, hn1, hf, newRow]

theorem exec_buildSlice98 (ρ : Operand → Value) (x : Operand) (dst : Option Tmp) (ty : TypeId) (pos : String) (af : Array Edge) (gd : Option (Nat × Bool)) (w : World) (hx : (ρ x).cells.size = 35) :
    Sem.run Try.prog (execOp ρ ⟨dst, .buildSlice 98 1 #[(0, x)], ty, pos, af, gd⟩) w = .ok (.value (.slice (some ⟨w.heap.size, 0, none⟩) 1 1)) (w.alloc (.cells (ρ x).cells 88)) := by
  have := run_buildSlice_one w 98 88 35 (ρ x) Try.underlying98 (by kernel_rfl) hx (by omega) (by omega)
  simp [execOp, Sem.run_bind, this]
theorem exec_buildSlice99 (ρ : Operand → Value) (x : Operand) (dst : Option Tmp) (ty : TypeId) (pos : String) (af : Array Edge) (gd : Option (Nat × Bool)) (w : World) (hx : (ρ x).cells.size = 33) :
    Sem.run Try.prog (execOp ρ ⟨dst, .buildSlice 99 1 #[(0, x)], ty, pos, af, gd⟩) w = .ok (.value (.slice (some ⟨w.heap.size, 0, none⟩) 1 1)) (w.alloc (.cells (ρ x).cells 128)) := by
  have := run_buildSlice_one w 99 128 33 (ρ x) Try.underlying99 (by kernel_rfl) hx (by omega) (by omega)
  simp [execOp, Sem.run_bind, this]

theorem VoteD.one {x : VoteD} (h1 : x.ext.oneCell' = true) (h2 : x.sig.oneCell' = true) : ∀ u ∈ x.cells, u.oneCell' = true := by
  have := oneAll_vote x h1 h2
  intro u hu
  exact (Array.all_eq_true_iff_forall_mem.1 this) u (by simpa [Value.cells] using hu)
theorem PowD.one (x : PowD) : ∀ u ∈ x.cells, u.oneCell' = true := by
  have := x.oneAll
  intro u hu
  exact (Array.all_eq_true_iff_forall_mem.1 this) u (by simpa [Value.cells] using hu)
/-- Another block's cell behind the literal's block, a draw and the append. -/
theorem far_cell {W w1 : World} {ob : Obj} {row : Option Nat} (hg : ((W.alloc ob).drew).grownBy w1 row) {a : Addr} {v : Value} (hc : W.cell? a = some v) (hne : row ≠ some a.block) : w1.cell? a = some v := by
  rw [hg.cell_far a (by have := World.block_lt_of_cell? _ _ hc; simp; omega) (Ne.symm hne)]
  exact cell_alloc1 hc _
theorem far_frozen {W w1 : World} {ob : Obj} {row : Option Nat} (hg : ((W.alloc ob).drew).grownBy w1 row) {a : Addr} {v : Value} (hc : W.cell? a = some v) (hf : W.frozen? a = false) (hne : row ≠ some a.block) : w1.frozen? a = false := by
  have hl := World.block_lt_of_cell? _ _ hc
  rw [hg.frozen_far a (by simp; omega) (Ne.symm hne)]
  show (W.alloc ob).frozen? a = false
  rw [World.frozen?_of_block (w := W) (Below.heap_alloc W ob a.block hl)]; exact hf
theorem grown_trans {a b c : World} {row : Option Nat} (h : a.grownBy b row) (k : b.grownBy c row) : a.grownBy c row :=
  ⟨k.os.trans h.os, k.tape.trans h.tape, k.output.trans h.output, Nat.le_trans h.size k.size, fun i hi hne => (k.block i (Nat.lt_of_lt_of_le hi h.size) hne).trans (h.block i hi hne)⟩
theorem grown_alloc_drew (w : World) (o : Obj) (row : Option Nat) : w.grownBy (w.alloc o).drew row :=
  ⟨rfl, rfl, rfl, by simp, fun k hk _ => Below.heap_alloc w o k hk⟩

attribute [local go_sem ↓] exec_build88 exec_buildSlice98 exec_load53 Go.wp_at_zero Go.wp_at_succ
attribute [local go_sem] ptrB ptrO isPtr

/-- What an append to a row in a field does: the row's new value lies in the old row's block or in a new one; nothing else of what was there has turned, but for the field. -/
def Grew (base e size : Nat) (w w' : World) (g o : Nat) (v v' : Value) (n : Nat) (xs : List Value) : Prop :=
  ∃ w1, w.grownBy w1 v.ownBlock ∧ w1.ownsRow base e size v' n xs ∧ (v'.ownBlock = v.ownBlock ∨ ∃ k, v'.ownBlock = some k ∧ w.heap.size ≤ k) ∧ w' = w1.setCell ⟨g, o, none⟩ v'

set_option maxRecDepth 100000 in
set_option maxHeartbeats 2000000 in
theorem addVote_any (g : Nat) (st : Int) (hst : st = 1 ∨ st = 2) (f : Int) (id : List Int) (hid : id.length = 32) (a1 a2 : Option Addr) (l1 l2 cp1 cp2 : Nat) (base : Nat) (v : Value) (n : Nat) (xs : List Value) (w : World)
    (hc : w.cell? ⟨g, if st = 2 then 45 else 42, none⟩ = some v) (hfz : w.frozen? ⟨g, if st = 2 then 45 else 42, none⟩ = false) (hown : w.ownsRow base 88 35 v n xs) (hne : v.ownBlock ≠ some g) (hbase : base ≤ w.heap.size) (hn : n ≤ 1000000) :
    Calls Try.prog 60 #[.pointer (some ⟨g, 0, none⟩), .int .i8 st, .int .i64 f, .agg (id.map (Value.int .u8)).toArray, .slice a1 l1 cp1, .slice a2 l2 cp2] w fun e w' => e = .returned (.tuple #[]) ∧ ∃ v', Grew base 88 35 w w' g (if st = 2 then 45 else 42) v v' (n + 1) (xs ++ (VoteD.mk f id (.slice a1 l1 cp1) (.slice a2 l2 cp2)).cells) := by
  obtain ⟨i0, z0, hi0, hz0, hz1, hz2, hz3⟩ := info_ex Try.inf88
  generalize hoo : (if st = 2 then 45 else 42) = o at *
  go_enter Try.func60, Try.ntmps60
  go_wp2_with (go_at_call 61; refine (tally_any g st hst _).mono ?_; rintro e w' ⟨rfl, rfl⟩; rw [hoo])
  generalize hW : w.alloc (Obj.cells (id.map (Value.int .u8)).toArray 53) = W
  have hra : W.rangeAt w.heap.size 0 (id.map (Value.int .u8)) := by rw [← hW]; exact range_of_block (heap_alloc_new _ _) 0 _ (fun j v hv => by simpa using hv)
  have hrd : rd W.drew w.heap.size 0 32 = (id.map (Value.int .u8)).toArray := rd_of_range (w := W.drew) hra (by simp [hid])
  have hcr : canRd W.drew w.heap.size 0 32 := canRd_of_range (w := W.drew) hra (by simp [hid])
  have hcW : W.cell? ⟨g, o, none⟩ = some v := by rw [← hW]; exact cell_alloc1 hc _
  have hfW : W.frozen? ⟨g, o, none⟩ = false := by rw [← hW, World.frozen?_alloc_past _ _ _ (World.block_lt_of_cell? _ _ hc)]; exact hfz
  have hoW : W.ownsRow base 88 35 v n xs := by rw [← hW]; exact hown.alloc _
  have hbW : base ≤ W.heap.size := by rw [← hW]; simp; omega
  have hgr : w.grownBy W v.ownBlock := by rw [← hW]; exact World.grownBy_alloc _ _ _
  have hgW := World.block_lt_of_cell? _ _ hcW
  clear hW hra hc hfz
  go_region_law ((refine step_append_lies _ (by rfl) _ _ _ (by rfl) base 88 i0 z0 35 88 Try.underlying98 hi0 hz0 hz1 hz2 hz3 (by omega) v n xs (by rfl) ((hoW.alloc _).drew) ⟨W.heap.size, 0, none⟩ 1 1 (VoteD.mk f id (.slice a1 l1 cp1) (.slice a2 l2 cp2)).cells (by rfl) (by simp [VoteD.cells, hid]) (World.news_of_block (cs := (VoteD.mk f id (.slice a1 l1 cp1) (.slice a2 l2 cp2)).cells.toArray) (t := 88) (fr := (0, 0)) (heap_alloc_new W _)) (VoteD.one rfl rfl) (by omega) (by unfold maxLen; omega) (by omega) (by simp; omega) (W.heap.size + 1) (by simp) ?_; intro gg cap w1 hown1 hgrow hat hlt; have hc1 := far_cell hgrow hcW hne; have hf1 := far_frozen hgrow hcW hfW hne))
  all_goals
    go_wp2
    go_end0
    refine ⟨rfl, .slice (some ⟨gg, 0, none⟩) (n + 1) cap, w1, grown_trans hgr (grown_trans (grown_alloc_drew _ _ _) hgrow), hown1, ?_, rfl⟩
    rcases hat with h | h
    · exact .inl (by rw [h]; rfl)
    · exact .inr ⟨gg, rfl, by have := hgr.size; omega⟩

end Go.Proofs.Qxb6604712a
