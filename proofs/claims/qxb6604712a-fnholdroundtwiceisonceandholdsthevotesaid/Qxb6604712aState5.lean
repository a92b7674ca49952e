/-
  Seat b6604712a: ZZsetSenders, ZZsetProposal.
-/
import Derived.Test.Qxb6604712aState4
namespace Go.Proofs.Qxb6604712a
open Go.RowKit
set_option linter.unusedSimpArgs false
set_option linter.unusedVariables false

theorem append_types {P : Program} (w : World) (t t' ty e e' : TypeId) (ht : P.underlying t = some (.slice e)) (ht' : P.underlying t' = some (.slice e')) (s x : Value) :
    (Builtin.append_ #[t, t'] ty #[s, x]).run P w = (Builtin.append_ #[t, t] ty #[s, x]).run P w := by
  cases s <;> first | (simp [Builtin.append_, run_underlying ht]; done) | skip
  simp only [Builtin.append_]
  simp [run_underlying ht, run_underlying ht']

theorem Try.inf126 : (Try.prog.info? 126).map (fun i => (i.size, i.bytes, i.zero.map (·.cells.size))) = some (1, 8, some 1) := by kernel_rfl

/-- 'append(senderSet(nil), words...)'. -/
theorem run_append_words (w : World) (ty : TypeId) (v : Value) (ws : List Int) (hv : sliceAt w 1 v ws.length (ws.map (Value.int .u64))) (hm : ws.length ≤ 1048576) (base : Nat) (hb : base ≤ w.heap.size) :
    ∃ v' w', (Builtin.append_ #[102, 60] ty #[.slice none 0 0, v]).run Try.prog w = .ok v' w' ∧ w'.ownsRow base 126 1 v' ws.length (ws.map (Value.int .u64)) ∧ w.grownBy w' none := by
  obtain ⟨i0, z0, hi0, hz0, hz1, hz2, hz3⟩ := info_ex Try.inf126
  obtain ⟨a, cap, rfl, hl, hm', hc⟩ := hv
  rw [append_types w 102 60 ty 126 126 Try.underlying102 Try.underlying60]
  by_cases h0 : ws.length = 0
  · have hw : ws = [] := List.eq_nil_of_length_eq_zero h0
    subst hw
    refine ⟨.slice none 0 0, w, ?_, World.ownsRow_nil _ _ _ _, ⟨rfl, rfl, rfl, Nat.le_refl _, fun _ _ _ => rfl⟩⟩
    cases a <;> simp [Builtin.append_, run_underlying Try.underlying102, sizeOf, typeInfo, hi0, Builtin.lenOf, Builtin.firstCells, loadCells, loadCellsFrom]
  · rcases hc with h | ⟨b, o, rfl, hr⟩
    · omega
    · obtain ⟨v', w', q1, q2, q3, q4, q5⟩ := run_append_own_at (P := Try.prog) w base 102 ty 126 i0 z0 1 8 Try.underlying102 hi0 hz0 hz1 hz2 hz3 (by omega) (.slice none 0 0) 0 [] (World.ownsRow_nil _ _ _ _) ⟨b, o, none⟩ ws.length cap (ws.map (Value.int .u64)) (by simp)
        (fun j u hu => by rw [Addr.add_mid]; exact hr j u hu) (fun u hu => by obtain ⟨_, _, rfl⟩ := List.mem_map.1 hu; rfl) (by unfold maxLen; omega) (by omega) hb
      exact ⟨v', w', q1, by simpa using q2, q3⟩

theorem wpList_append_words (w : World) {ops : Array Oper} {rest : List Oper} {o : Oper} {a : Act} {Q : Exit → Act → World → Prop} (hg : o.guard = none) (s x : Operand) (hop : o.op = Op.call { callee := Callee.builtin Builtin.append, args := #[s, x], argTypes := #[102, 60] })
    (v : Value) (ws : List Int) (hs : a.eval s = .slice none 0 0) (hx : a.eval x = v) (hv : sliceAt w 1 v ws.length (ws.map (Value.int .u64))) (hm : ws.length ≤ 1048576) (base : Nat) (hb : base ≤ w.heap.size)
    (hK : ∀ v' w', w'.ownsRow base 126 1 v' ws.length (ws.map (Value.int .u64)) → w.grownBy w' none → wpList Try.prog ops Q rest (a.put o.dst v') w') : wpList Try.prog ops Q (o :: rest) a w := by
  refine wpList_plain hg fun K hK' => ?_
  obtain ⟨v', w', hrun, r1, r2⟩ := run_append_words w o.type v ws hv hm base hb
  unfold Oper.wp
  simp [execOp, hop, resolve, invoke, builtin, hs, hx, hrun, Result.andThen]
  exact hK' _ _ (hK v' w' r1 r2)

theorem owns_form {w : World} {base e s : Nat} {v : Value} {n : Nat} {xs : List Value} (h : w.ownsRow base e s v n xs) : ∃ a m c, v = .slice a m c := by
  rcases h.2 with ⟨h, _⟩ | ⟨_, _, _, h, _⟩ <;> exact ⟨_, _, _, h⟩

set_option maxHeartbeats 400000 in
theorem setSenders_walk (g : Nat) (v : Value) (ws : List Int) (u : Value) (base : Nat) (w : World) (hv : sliceAt w 1 v ws.length (ws.map (Value.int .u64))) (hm : ws.length ≤ 1048576) (hb : base ≤ w.heap.size) (hc : w.cell? ⟨g, 48, none⟩ = some u) (hfz : w.frozen? ⟨g, 48, none⟩ = false) :
    Calls Try.prog 47 #[.pointer (some ⟨g, 0, none⟩), v] w fun e w' => e = .returned (.tuple #[]) ∧ ∃ v' w1, w1.ownsRow base 126 1 v' ws.length (ws.map (Value.int .u64)) ∧ w.grownBy w1 none ∧ w' = w1.setCell ⟨g, 48, none⟩ v' := by
  go_enter Try.func47, Try.ntmps47
  go_wp2_with (at_builtin; refine wpList_append_words _ rfl _ _ rfl v ws rfl rfl hv hm base hb ?_; intro v' w1 hown hgrow; have hc1 : w1.cell? ⟨g, 48, none⟩ = some u := hgrow.cell hc (by simp); have hf1 : w1.frozen? ⟨g, 48, none⟩ = false := (hgrow.frozen_far ⟨g, 48, none⟩ (World.block_lt_of_cell? _ _ hc) (by simp)).trans hfz; obtain ⟨a', n', c', rfl⟩ := owns_form hown)
  go_end0
  exact ⟨rfl, _, w1, hown, hgrow, rfl⟩

theorem setSenders_is (g : Nat) (v : Value) (ws : List Int) (P : Nat → Prop) (a : StD) (w : World) (h : IsS w P g a) (hv : sliceAt w 1 v ws.length (ws.map (Value.int .u64))) (hm : ws.length ≤ 1048576) :
    Calls Try.prog 47 #[.pointer (some ⟨g, 0, none⟩), v] w fun e w' => e = .returned (.tuple #[]) ∧ IsS w' P g { a with ws := ws } ∧ Steps P w w' := by
  obtain ⟨pv, pp, cv, cp, sn, h⟩ := h
  refine (setSenders_walk g v ws _ w.heap.size w hv hm (Nat.le_refl _) (by rw [h.cell]; exact get_48 h.hheld _ _ _ _ _) (h.fro _)).mono ?_
  rintro e w' ⟨rfl, v', w1, hown, hgrow, rfl⟩
  have hb : Below w.heap.size w w1 := ⟨hgrow.os, hgrow.tape, hgrow.output, hgrow.size, fun k hk => hgrow.block k hk (by simp)⟩
  have h1 := h.below hb P (fun k hk => ⟨.inl hk, Nat.lt_of_lt_of_le (h.pl k hk) hgrow.size⟩)
  have hg := grown_set w1 g 48 v'
  have hown0 : w1.ownsRow 0 126 1 v' ws.length (ws.map (Value.int .u64)) := by
    refine ⟨hown.1, ?_⟩
    rcases hown.2 with q | ⟨g', cap', cur, q1, q2, q3⟩
    · exact .inl q
    · exact .inr ⟨g', cap', cur, q1, Nat.zero_le _, q3⟩
  refine ⟨rfl, ⟨pv, pp, cv, cp, v', ?_, fun k hk => Nat.lt_of_lt_of_le (h1.pl k hk) hg.size, h1.pg, h1.hheld, ?_, ?_, ?_, ?_, ?_, h1.p1, h1.p2, h1.p3, h1.p4, ?_, h1.s1, h1.s2, h1.i1, h1.i2, h1.i3, h1.i4⟩, (Steps.ofBelow hb h.pl).trans (Steps.grown hg h1.pl h1.pg)⟩
  · rw [heap_setCell_same w1 g 48 _ 104 v' h1.blk, List.setIfInBounds_toArray, set_48 a h.hheld]; rfl
  · exact h1.r1.kept hg (.inr (owns_ne h1.r1 h1.blk (by decide)))
  · exact h1.r2.kept hg (.inr (owns_ne h1.r2 h1.blk (by decide)))
  · exact h1.r3.kept hg (.inr (owns_ne h1.r3 h1.blk (by decide)))
  · exact h1.r4.kept hg (.inr (owns_ne h1.r4 h1.blk (by decide)))
  · exact hown0.kept hg (.inr (owns_ne hown0 h1.blk (by decide)))
  · intro k hk e
    have := (hown.lt k e).1
    have := h.pl k hk
    omega

/-! ### ZZsetProposal -/
theorem exec_build97 (ρ : Operand → Value) (x0 x1 x2 x3 x4 x5 x6 x7 x8 : Operand) (dst : Option Tmp) (ty : TypeId) (pos : String) (af : Array Edge) (gd : Option (Nat × Bool)) (w : World)
    (h0 : (ρ x0).cells.size = 1) (h1 : (ρ x1).cells.size = 32) (h2 : (ρ x2).cells.size = 1) (h3 : (ρ x3).cells.size = 1) (h4 : (ρ x4).cells.size = 1) (h5 : (ρ x5).cells.size = 1) (h6 : (ρ x6).cells.size = 1) (h7 : (ρ x7).cells.size = 1) (h8 : (ρ x8).cells.size = 1) :
    Sem.run Try.prog (execOp ρ ⟨dst, .build 97 #[(0, x0), (1, x1), (2, x2), (3, x3), (4, x4), (5, x5), (6, x6), (7, x7), (8, x8)], ty, pos, af, gd⟩) w =
      .ok (.value (.agg ((ρ x0).cells ++ (ρ x1).cells ++ (ρ x2).cells ++ (ρ x3).cells ++ (ρ x4).cells ++ (ρ x5).cells ++ (ρ x6).cells ++ (ρ x7).cells ++ (ρ x8).cells))) w := by
  have := run_build_at w 97 40 _ [ρ x0, ρ x1, ρ x2, ρ x3, ρ x4, ρ x5, ρ x6, ρ x7, ρ x8] places97 (by
    intro j hj
    match j, hj with
    | 0, _ => simp [flatV, h0]
    | 1, _ => simp [flatV, h0, h1]
    | 2, _ => simp [flatV, h0, h1, h2]
    | 3, _ => simp [flatV, h0, h1, h2, h3]
    | 4, _ => simp [flatV, h0, h1, h2, h3, h4]
    | 5, _ => simp [flatV, h0, h1, h2, h3, h4, h5]
    | 6, _ => simp [flatV, h0, h1, h2, h3, h4, h5, h6]
    | 7, _ => simp [flatV, h0, h1, h2, h3, h4, h5, h6, h7]
    | 8, _ => simp [flatV, h0, h1, h2, h3, h4, h5, h6, h7, h8]) (by simp [flatV, h0, h1, h2, h3, h4, h5, h6, h7, h8])
  simp only [execOp, Sem.run_bind]
  have e : (Array.map (fun (p : Nat × Operand) => match p with | (i, x) => (i, ρ x)) #[(0, x0), (1, x1), (2, x2), (3, x3), (4, x4), (5, x5), (6, x6), (7, x7), (8, x8)]) = (([ρ x0, ρ x1, ρ x2, ρ x3, ρ x4, ρ x5, ρ x6, ρ x7, ρ x8].zipIdx).map fun p => (p.2, p.1)).toArray := by simp
  rw [e, this]
  simp [flatV]

attribute [local go_sem ↓] exec_build97 exec_load53 exec_store97
attribute [local go_sem] ptrB ptrO isPtr

def propCells (va : Value) (id : List Int) (vr : Int) (sg : Value) (b1 b2 b3 b4 b5 : Bool) : List Value := va :: (id.map (Value.int .u8) ++ [.int .i64 vr, sg, .bool b1, .bool b2, .bool b3, .bool b4, .bool b5])
theorem propCells_len {id : List Int} (h : id.length = 32) (va : Value) (vr : Int) (sg : Value) (b1 b2 b3 b4 b5 : Bool) : (propCells va id vr sg b1 b2 b3 b4 b5).length = 40 := by simp [propCells, h]
theorem propCells_one {va sg : Value} (h1 : va.oneCell' = true) (h2 : sg.oneCell' = true) (id : List Int) (vr : Int) (b1 b2 b3 b4 b5 : Bool) : oneAll (.agg (propCells va id vr sg b1 b2 b3 b4 b5).toArray) = true := by
  have e1 : ∀ (n : Int), (Value.int .i64 n).oneCell' = true := fun _ => rfl
  have e2 : ∀ (b : Bool), (Value.bool b).oneCell' = true := fun _ => rfl
  simp only [oneAll, Value.cells, propCells, List.all_toArray, List.all_cons, List.all_append, oneAll_bytes, e1, e2, h1, h2, List.all_nil, Bool.and_self]

set_option maxRecDepth 10000 in
set_option maxHeartbeats 1000000 in
theorem setProposal_walk (g : Nat) (a1 a2 : Option Addr) (l1 l2 c1 c2 : Nat) (id : List Int) (hid : id.length = 32) (vr : Int) (b1 b2 b3 b4 b5 : Bool) (u : Value) (w : World)
    (hth : w.there g 2 40) (hc : w.cell? ⟨g, 1, none⟩ = some u) (hfz : w.frozen? ⟨g, 1, none⟩ = false) :
    Calls Try.prog 50 #[.pointer (some ⟨g, 0, none⟩), .slice a1 l1 c1, .agg (id.map (Value.int .u8)).toArray, .int .i64 vr, .slice a2 l2 c2, .bool b1, .bool b2, .bool b3, .bool b4, .bool b5] w fun e w' => e = .returned (.tuple #[]) ∧
      w' = (((w.alloc (.cells (id.map (Value.int .u8)).toArray 53)).setCells g 2 (propCells (.slice a1 l1 c1) id vr (.slice a2 l2 c2) b1 b2 b3 b4 b5)).setCell ⟨g, 1, none⟩ (.pointer (some ⟨g, 2, none⟩))) := by
  have hra : (w.alloc (.cells (id.map (Value.int .u8)).toArray 53)).rangeAt w.heap.size 0 (id.map (Value.int .u8)) := range_of_block (heap_alloc_new _ _) 0 _ (fun j v hv => by simpa using hv)
  have hrd := rd_of_range hra (n := 32) (by simp [hid])
  have hcr := canRd_of_range hra (n := 32) (by simp [hid])
  have hth1 := World.there_alloc hth (.cells (id.map (Value.int .u8)).toArray 53)
  have hone := propCells_one (va := .slice a1 l1 c1) (sg := .slice a2 l2 c2) rfl rfl id vr b1 b2 b3 b4 b5
  have hc2 : ((w.alloc (.cells (id.map (Value.int .u8)).toArray 53)).setCells g 2 (propCells (.slice a1 l1 c1) id vr (.slice a2 l2 c2) b1 b2 b3 b4 b5)).cell? ⟨g, 1, none⟩ = some u := by
    rw [World.cell?_setCells_out _ _ _ _ _ (fun _ _ => .inl (by show 1 < 2; omega))]; exact cell_alloc1 hc _
  have hf2 : ((w.alloc (.cells (id.map (Value.int .u8)).toArray 53)).setCells g 2 (propCells (.slice a1 l1 c1) id vr (.slice a2 l2 c2) b1 b2 b3 b4 b5)).frozen? ⟨g, 1, none⟩ = false := by
    rw [World.frozen?_setCells, World.frozen?_alloc_past _ _ _ (World.block_lt_of_cell? _ _ hc)]; exact hfz
  simp only [propCells] at hone hc2 hf2 ⊢
  go_enter Try.func50, Try.ntmps50
  go_wp2
  go_end0
  exact ⟨rfl, rfl⟩

/-- A record with a proposal. -/
def StD.setProp (a : StD) (g : Nat) (va : Value) (id : List Int) (vr : Int) (sg : Value) (b1 b2 b3 b4 b5 : Bool) : StD := { a with prop := .pointer (some ⟨g, 2, none⟩), held := propCells va id vr sg b1 b2 b3 b4 b5 }

theorem setProposal_is (g : Nat) (a1 a2 : Option Addr) (l1 l2 c1 c2 : Nat) (id : List Int) (hid : id.length = 32) (vr : Int) (b1 b2 b3 b4 b5 : Bool) (P : Nat → Prop) (a : StD) (w : World) (h : IsS w P g a) :
    Calls Try.prog 50 #[.pointer (some ⟨g, 0, none⟩), .slice a1 l1 c1, .agg (id.map (Value.int .u8)).toArray, .int .i64 vr, .slice a2 l2 c2, .bool b1, .bool b2, .bool b3, .bool b4, .bool b5] w fun e w' => e = .returned (.tuple #[]) ∧
      IsS w' P g (a.setProp g (.slice a1 l1 c1) id vr (.slice a2 l2 c2) b1 b2 b3 b4 b5) ∧ Steps P w w' := by
  obtain ⟨pv, pp, cv, cp, sn, h⟩ := h
  have hl := stCells_len h.hheld pv pp cv cp sn
  refine (setProposal_walk g a1 a2 l1 l2 c1 c2 id hid vr b1 b2 b3 b4 b5 a.prop w (there_of_block h.blk 2 40 (by omega)) (by rw [h.cell]; rfl) (h.fro _)).mono ?_
  rintro e w' ⟨rfl, rfl⟩
  have hb1 : Below w.heap.size w (w.alloc (.cells (id.map (Value.int .u8)).toArray 53)) := (Below.refl _ _).alloc (Nat.le_refl _) _
  have h1 := h.below hb1 P (fun k hk => ⟨.inl hk, Nat.lt_of_lt_of_le (h.pl k hk) hb1.size⟩)
  have hpl := propCells_len hid (.slice a1 l1 c1) vr (.slice a2 l2 c2) b1 b2 b3 b4 b5
  unfold StD.setProp
  generalize propCells (.slice a1 l1 c1) id vr (.slice a2 l2 c2) b1 b2 b3 b4 b5 = pc at hpl
  have hbk := heap_setCells_same g 104 pc 2 _ _ h1.blk (by omega)
  have e1 : overlay (stCells a pv pp cv cp sn) pc 2 = stCells { a with held := pc } pv pp cv cp sn := by
    simp [overlay, stCells, hpl, h.hheld, List.drop_append]
  rw [e1] at hbk
  have h2 := h1.turn (grown_sets _ g 2 pc) { a with held := pc } hbk hpl rfl rfl rfl rfl rfl
  obtain ⟨q1, q2⟩ := h2.set1 1 (.pointer (some ⟨g, 2, none⟩)) { a with prop := .pointer (some ⟨g, 2, none⟩), held := pc } (by simp [stCells]) hpl rfl rfl rfl rfl rfl
  exact ⟨rfl, ⟨_, _, _, _, _, q1⟩, ((Steps.ofBelow hb1 h.pl).trans (Steps.grown (grown_sets _ g 2 pc) h1.pl h1.pg)).trans q2⟩

end Go.Proofs.Qxb6604712a
