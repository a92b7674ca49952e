/-
  Seat b6604712a: (*tally).reset, (*roundState).reset, ZZreset.
-/
import Derived.Test.Qxb6604712aReset
namespace Go.Proofs.Qxb6604712a
open Go.RowKit
set_option linter.unusedSimpArgs false
set_option linter.unusedVariables false

theorem wpList_clear_own (w : World) {ops : Array Oper} {rest : List Oper} {o : Oper} {a : Act} {Q : Exit → Act → World → Prop} (hg : o.guard = none) (x : Operand) (t : TypeId) (hop : o.op = Op.call { callee := Callee.builtin Builtin.clear, args := #[x], argTypes := #[t] })
    (e base size : Nat) (v : Value) (n : Nat) (xs : List Value) (ht : Try.prog.underlying t = some (.slice e)) (hi : (Try.prog.info? e).map (fun i => (i.size, i.zero.map (fun z => (z.cells.size, oneAll (.agg z.cells))))) = some (size, some (size, true))) (hx : a.eval x = v) (hown : w.ownsRow base e size v n xs)
    (hK : ∀ w' ys, w'.ownsRow base e size v n ys → w.grownBy w' v.ownBlock → (∀ z, (Try.prog.info? e).bind (·.zero) = some z → ys = (Builtin.zeroCells z.cells n).toList) → wpList Try.prog ops Q rest (a.put o.dst (.tuple #[])) w') : wpList Try.prog ops Q (o :: rest) a w := by
  refine wpList_plain hg fun K hK' => ?_
  obtain ⟨w', ys, hrun, r1, r2, r3⟩ := run_clear_own w t o.type e base size v n xs ht hi hown
  unfold Oper.wp
  simp [execOp, hop, resolve, invoke, builtin, hx, hrun, Result.andThen]
  exact hK' _ _ (hK w' ys r1 r2 r3)

theorem Try.clr88 : (Try.prog.info? 88).map (fun i => (i.size, i.zero.map (fun z => (z.cells.size, oneAll (.agg z.cells))))) = some (35, some (35, true)) := by kernel_rfl
theorem Try.clr126 : (Try.prog.info? 126).map (fun i => (i.size, i.zero.map (fun z => (z.cells.size, oneAll (.agg z.cells))))) = some (1, some (1, true)) := by kernel_rfl
theorem Try.zero126 : (Try.prog.info? 126).bind (·.zero) = some (.int .u64 0) := by kernel_rfl

set_option maxRecDepth 100000 in
set_option maxHeartbeats 2000000 in
theorem tallyReset_walk (g o base : Nat) (a1 a2 : Option Addr) (n1 n2 c1 c2 : Nat) (xs : List Value) (t : Int) (w : World)
    (h0 : w.cell? ⟨g, o, none⟩ = some (.slice a1 n1 c1)) (h1 : w.cell? ⟨g, o + 1, none⟩ = some (.slice a2 n2 c2)) (h2 : w.cell? ⟨g, o + 2, none⟩ = some (.int .i64 t))
    (f0 : w.frozen? ⟨g, o, none⟩ = false) (f1 : w.frozen? ⟨g, o + 1, none⟩ = false) (f2 : w.frozen? ⟨g, o + 2, none⟩ = false)
    (hown : w.ownsRow base 88 35 (.slice a1 n1 c1) n1 xs) (hne : (Value.slice a1 n1 c1).ownBlock ≠ some g) :
    Calls Try.prog 64 #[.pointer (some ⟨g, o, none⟩)] w fun e w' => e = .returned (.tuple #[]) ∧ ∃ w1 ys, w1.ownsRow base 88 35 (.slice a1 n1 c1) n1 ys ∧ w.grownBy w1 (Value.slice a1 n1 c1).ownBlock ∧
      w' = (((w1.setCell ⟨g, o, none⟩ (.slice a1 0 c1)).setCell ⟨g, o + 1, none⟩ (.slice a2 0 c2)).setCell ⟨g, o + 2, none⟩ (.int .i64 0)).drew := by
  go_enter Try.func64, Try.ntmps64
  go_wp2_with (refine wpList_clear_own _ rfl _ 98 rfl 88 base 35 _ n1 xs Try.underlying98 Try.clr88 rfl hown ?_; intro w1 ys hown1 hgrow _; have k0 : w1.cell? ⟨g, o, none⟩ = _ := hgrow.cell h0 (Ne.symm hne); have k1 : w1.cell? ⟨g, o + 1, none⟩ = _ := hgrow.cell h1 (Ne.symm hne); have k2 : w1.cell? ⟨g, o + 2, none⟩ = _ := hgrow.cell h2 (Ne.symm hne); have m0 : w1.frozen? ⟨g, o, none⟩ = false := (hgrow.frozen_far ⟨g, o, none⟩ (World.block_lt_of_cell? _ _ h0) (Ne.symm hne)).trans f0; have m1 : w1.frozen? ⟨g, o + 1, none⟩ = false := (hgrow.frozen_far ⟨g, o + 1, none⟩ (World.block_lt_of_cell? _ _ h1) (Ne.symm hne)).trans f1; have m2 : w1.frozen? ⟨g, o + 2, none⟩ = false := (hgrow.frozen_far ⟨g, o + 2, none⟩ (World.block_lt_of_cell? _ _ h2) (Ne.symm hne)).trans f2; simp only [Act.put])
  have H1 : Hid (w1.ownsRow base 88 35 (.slice a1 n1 c1) n1 ys) := hown1
  have H2 : Hid (w.grownBy w1 (Value.slice a1 n1 c1).ownBlock) := hgrow
  clear hown1 hgrow h0 h1 h2 f0 f1 f2 hown hne
  go_region
  go_end0
  exact ⟨rfl, w1, ys, H1.out, H2.out, rfl⟩

theorem owns_zero {w : World} {base e s : Nat} {a : Option Addr} {n c : Nat} {xs : List Value} (h : w.ownsRow base e s (.slice a n c) n xs) : w.ownsRow base e s (.slice a 0 c) 0 [] := by
  rcases h.2 with ⟨h', rfl⟩ | ⟨g, cap, cur, h', hbg, hg, hnc, hcm, hcs, htake⟩
  · cases h'; exact World.ownsRow_nil _ _ _ _
  · cases h'
    exact ⟨by simp, .inr ⟨g, _, cur, rfl, hbg, hg, Nat.zero_le _, hcm, hcs, by simp⟩⟩
theorem own_len {w : World} {base e s : Nat} {a : Option Addr} {m n c : Nat} {xs : List Value} (h : w.ownsRow base e s (.slice a m c) n xs) : m = n := by
  rcases h.2 with ⟨h', rfl⟩ | ⟨g, cap, cur, h', _⟩
  · cases h'; rfl
  · cases h'; rfl
theorem sep_len (a : Option Addr) (n m c : Nat) (v : Value) (h : sep (.slice a n c) v) : sep (.slice a m c) v := by
  unfold sep at *
  cases a with
  | none => exact .inl rfl
  | some a => exact h

theorem own_len_free {P : Nat → Prop} {a : Option Addr} {n m c : Nat} (h : ∀ k, P k → (Value.slice a n c).ownBlock ≠ some k) : ∀ k, P k → (Value.slice a m c).ownBlock ≠ some k := fun k hk => by
  have := h k hk
  cases a with
  | none => simp [Value.ownBlock]
  | some a => exact this

/-- A record whose step's tally is empty. -/
def StD.zeroT (a : StD) (st : Int) : StD := if st = 2 then { a with vs2 := [], ps2 := [], ct := 0 } else { a with vs1 := [], ps1 := [], pt := 0 }

theorem heap_set3 {w : World} {g : Nat} {cs : List Value} {t : Nat} (h : w.heap[g]? = some (.cells cs.toArray t (0, 0))) (i j k : Nat) (u v x : Value) :
    (((w.setCell ⟨g, i, none⟩ u).setCell ⟨g, j, none⟩ v).setCell ⟨g, k, none⟩ x).heap[g]? = some (.cells (((cs.set i u).set j v).set k x).toArray t (0, 0)) := by
  have h1 : (w.setCell ⟨g, i, none⟩ u).heap[g]? = some (.cells (cs.set i u).toArray t (0, 0)) := by rw [heap_setCell_same w g i cs.toArray t u h]; simp
  have h2 : ((w.setCell ⟨g, i, none⟩ u).setCell ⟨g, j, none⟩ v).heap[g]? = some (.cells ((cs.set i u).set j v).toArray t (0, 0)) := by rw [heap_setCell_same _ g j _ t v h1]; simp
  rw [heap_setCell_same _ g k _ t x h2]; simp
theorem grown_set3 (w : World) (g i j k : Nat) (u v x : Value) : w.grownBy (((w.setCell ⟨g, i, none⟩ u).setCell ⟨g, j, none⟩ v).setCell ⟨g, k, none⟩ x).drew (some g) :=
  grown_trans (grown_trans (grown_set w g i u) (grown_set _ g j v)) (grown_trans (grown_set _ g k x) ⟨rfl, rfl, rfl, Nat.le_refl _, fun _ _ _ => rfl⟩)

theorem tallyReset1 (g : Nat) (P : Nat → Prop) (a : StD) (w : World) (h : IsS w P g a) :
    Calls Try.prog 64 #[.pointer (some ⟨g, 42, none⟩)] w fun e w' => e = .returned (.tuple #[]) ∧ IsS w' P g { a with vs1 := [], ps1 := [], pt := 0 } ∧ Steps P w w' := by
  obtain ⟨pv, pp, cv, cp, sn, h⟩ := h
  obtain ⟨b1, n1, c1, rfl⟩ := owns_form h.r1
  obtain ⟨b2, n2, c2, rfl⟩ := owns_form h.r2
  have e1 := own_len h.r1
  have e2 := own_len h.r2
  refine (tallyReset_walk g 42 0 b1 b2 n1 n2 c1 c2 _ a.pt w (by rw [h.cell]; exact get_42 h.hheld _ _ _ _ _) (by rw [h.cell]; exact get_43 h.hheld _ _ _ _ _) (by rw [h.cell]; exact get_44 h.hheld _ _ _ _ _) (h.fro _) (h.fro _) (h.fro _) (by rw [e1]; rw [e1] at h; exact h.r1) (owns_ne h.r1 h.blk (by decide))).mono ?_
  rintro e w' ⟨rfl, w1, ys, hown, hg, rfl⟩
  have hng := owns_ne h.r1 h.blk (by decide)
  have hb1 : w1.heap[g]? = some (.cells (stCells a (.slice b1 n1 c1) (.slice b2 n2 c2) cv cp sn).toArray 104 (0, 0)) := by rw [hg.block g h.lt (Ne.symm hng)]; exact h.blk
  have k2 := h.r2.kept hg (owns_sep h.r2 h.r1 (by decide))
  have k3 := h.r3.kept hg h.s1.symm
  have k4 := h.r4.kept hg (owns_sep h.r4 h.r1 (by decide))
  have k5 := h.r5.kept hg (owns_sep h.r5 h.r1 (by decide))
  rw [← e2] at k2
  have hg2 := grown_set3 w1 g 42 43 44 (.slice b1 0 c1) (.slice b2 0 c2) (.int .i64 0)
  refine ⟨rfl, ⟨.slice b1 0 c1, .slice b2 0 c2, cv, cp, sn, ?_, fun k hk => Nat.lt_of_lt_of_le (h.pl k hk) (Nat.le_trans hg.size hg2.size), h.pg, h.hheld, ?_, ?_, k3.kept hg2 (.inr (owns_ne k3 hb1 (by decide))), k4.kept hg2 (.inr (owns_ne k4 hb1 (by decide))), k5.kept hg2 (.inr (owns_ne k5 hb1 (by decide))), own_len_free h.p1, own_len_free h.p2, h.p3, h.p4, h.p5, sep_len _ _ _ _ _ h.s1, sep_len _ _ _ _ _ h.s2, by simp, by simp, h.i3, h.i4⟩, ?_⟩
  · show (((w1.setCell ⟨g, 42, none⟩ (.slice b1 0 c1)).setCell ⟨g, 43, none⟩ (.slice b2 0 c2)).setCell ⟨g, 44, none⟩ (.int .i64 0)).heap[g]? = _
    rw [heap_set3 hb1]
    simp [stCells, List.set_append, h.hheld]
  · have := owns_zero hown
    exact this.kept hg2 (.inr (owns_ne this hb1 (by decide)))
  · have := owns_zero k2
    exact this.kept hg2 (.inr (owns_ne this hb1 (by decide)))
  · exact (Steps.grown hg h.pl h.p1).trans (Steps.grown hg2 (fun k hk => Nat.lt_of_lt_of_le (h.pl k hk) hg.size) h.pg)

theorem tallyReset2 (g : Nat) (P : Nat → Prop) (a : StD) (w : World) (h : IsS w P g a) :
    Calls Try.prog 64 #[.pointer (some ⟨g, 45, none⟩)] w fun e w' => e = .returned (.tuple #[]) ∧ IsS w' P g { a with vs2 := [], ps2 := [], ct := 0 } ∧ Steps P w w' := by
  obtain ⟨pv, pp, cv, cp, sn, h⟩ := h
  obtain ⟨b1, n1, c1, rfl⟩ := owns_form h.r3
  obtain ⟨b2, n2, c2, rfl⟩ := owns_form h.r4
  have e1 := own_len h.r3
  have e2 := own_len h.r4
  refine (tallyReset_walk g 45 0 b1 b2 n1 n2 c1 c2 _ a.ct w (by rw [h.cell]; exact get_45 h.hheld _ _ _ _ _) (by rw [h.cell]; exact get_46 h.hheld _ _ _ _ _) (by rw [h.cell]; exact get_47 h.hheld _ _ _ _ _) (h.fro _) (h.fro _) (h.fro _) (by rw [e1]; rw [e1] at h; exact h.r3) (owns_ne h.r3 h.blk (by decide))).mono ?_
  rintro e w' ⟨rfl, w1, ys, hown, hg, rfl⟩
  have hng := owns_ne h.r3 h.blk (by decide)
  have hb1 : w1.heap[g]? = some (.cells (stCells a pv pp (.slice b1 n1 c1) (.slice b2 n2 c2) sn).toArray 104 (0, 0)) := by rw [hg.block g h.lt (Ne.symm hng)]; exact h.blk
  have k1 := h.r1.kept hg h.s1
  have k2 := h.r2.kept hg (owns_sep h.r2 h.r3 (by decide))
  have k4 := h.r4.kept hg (owns_sep h.r4 h.r3 (by decide))
  have k5 := h.r5.kept hg (owns_sep h.r5 h.r3 (by decide))
  rw [← e2] at k4
  have hg2 := grown_set3 w1 g 45 46 47 (.slice b1 0 c1) (.slice b2 0 c2) (.int .i64 0)
  refine ⟨rfl, ⟨pv, pp, .slice b1 0 c1, .slice b2 0 c2, sn, ?_, fun k hk => Nat.lt_of_lt_of_le (h.pl k hk) (Nat.le_trans hg.size hg2.size), h.pg, h.hheld, k1.kept hg2 (.inr (owns_ne k1 hb1 (by decide))), k2.kept hg2 (.inr (owns_ne k2 hb1 (by decide))), ?_, ?_, k5.kept hg2 (.inr (owns_ne k5 hb1 (by decide))), h.p1, h.p2, own_len_free h.p3, own_len_free h.p4, h.p5, (sep_len _ _ _ _ _ h.s1.symm).symm, (sep_len _ _ _ _ _ h.s2.symm).symm, h.i1, h.i2, by simp, by simp⟩, ?_⟩
  · show (((w1.setCell ⟨g, 45, none⟩ (.slice b1 0 c1)).setCell ⟨g, 46, none⟩ (.slice b2 0 c2)).setCell ⟨g, 47, none⟩ (.int .i64 0)).heap[g]? = _
    rw [heap_set3 hb1]
    simp [stCells, List.set_append, h.hheld]
  · have := owns_zero hown
    exact this.kept hg2 (.inr (owns_ne this hb1 (by decide)))
  · have := owns_zero k4
    exact this.kept hg2 (.inr (owns_ne this hb1 (by decide)))
  · exact (Steps.grown hg h.pl h.p3).trans (Steps.grown hg2 (fun k hk => Nat.lt_of_lt_of_le (h.pl k hk) hg.size) h.pg)

attribute [local go_sem ↓] exec_store97
attribute [local go_sem] ptrB ptrO isPtr

def zero97 : Array Value := #[.slice none 0 0, .int .u8 0, .int .u8 0, .int .u8 0, .int .u8 0, .int .u8 0, .int .u8 0, .int .u8 0, .int .u8 0, .int .u8 0, .int .u8 0, .int .u8 0, .int .u8 0, .int .u8 0, .int .u8 0, .int .u8 0, .int .u8 0, .int .u8 0, .int .u8 0, .int .u8 0, .int .u8 0, .int .u8 0, .int .u8 0, .int .u8 0, .int .u8 0, .int .u8 0, .int .u8 0, .int .u8 0, .int .u8 0, .int .u8 0, .int .u8 0, .int .u8 0, .int .u8 0, .int .i64 0, .slice none 0 0, .bool false, .bool false, .bool false, .bool false, .bool false]
theorem zero97_held : zero97.toList = heldZero := rfl

set_option maxRecDepth 100000 in
set_option maxHeartbeats 2000000 in
theorem reset_is (g : Nat) (P : Nat → Prop) (a : StD) (w : World) (h : IsS w P g a) :
    Calls Try.prog 49 #[.pointer (some ⟨g, 0, none⟩)] w fun e w' => e = .returned (.tuple #[]) ∧ IsS w' P g ⟨a.round, .pointer none, heldZero, [], [], 0, [], [], 0, List.replicate a.ws.length 0, 0⟩ ∧ Steps P w w' := by
  obtain ⟨pv, pp, cv, cp, sn, h⟩ := h
  have hth : (w.setCell ⟨g, 1, none⟩ (.pointer none)).there g 2 40 := by
    obtain ⟨q1, q2⟩ := h.set1 1 (.pointer none) { a with prop := .pointer none } (by simp [stCells]) h.hheld rfl rfl rfl rfl rfl
    exact there_of_block q1.blk 2 40 (by rw [stCells_len q1.hheld]; omega)
  have c1 : w.cell? ⟨g, 1, none⟩ = some a.prop := by rw [h.cell]; rfl
  have f1 := h.fro 1
  have hone : oneAll (.agg zero97) = true := by simp [oneAll, zero97, Value.cells, Value.oneCell']
  unfold zero97 at hone
  go_enter Try.func49, Try.ntmps49
  go_wp2_with fail
  generalize hW : World.setCells _ g 2 _ = W
  have hI : IsS W P g { a with prop := .pointer none, held := heldZero } ∧ Steps P w W := by
    obtain ⟨q1, q2⟩ := h.set1 1 (.pointer none) { a with prop := .pointer none } (by simp [stCells]) h.hheld rfl rfl rfl rfl rfl
    have hz : heldZero.length = 40 := rfl
    have hbk := heap_setCells_same g 104 heldZero 2 _ _ q1.blk (by rw [stCells_len q1.hheld]; decide)
    have e1 : overlay (stCells { a with prop := .pointer none } pv pp cv cp sn) heldZero 2 = stCells { a with prop := .pointer none, held := heldZero } pv pp cv cp sn := by
      simp [overlay, stCells, hz, h.hheld, List.drop_append]
    rw [e1] at hbk
    have h2 := q1.turn (grown_sets _ g 2 heldZero) { a with prop := .pointer none, held := heldZero } hbk hz rfl rfl rfl rfl rfl
    rw [← hW]
    exact ⟨⟨_, _, _, _, _, h2⟩, q2.trans (Steps.grown (grown_sets _ g 2 heldZero) q1.pl q1.pg)⟩
  obtain ⟨hI, hbW⟩ := hI
  clear hW hth c1 f1 hone h
  refine (tallyReset1 g P _ W hI).mono ?_
  rintro e w1 ⟨rfl, hI1, hb1⟩
  go_wp2_with fail
  refine (tallyReset2 g P _ w1 hI1).mono ?_
  rintro e w2 ⟨rfl, ⟨pv2, pp2, cv2, cp2, sn2, h2⟩, hb2⟩
  obtain ⟨b5, n5, c5, rfl⟩ := owns_form h2.r5
  have e5 := own_len h2.r5
  have c48 : w2.cell? ⟨g, 48, none⟩ = some (.slice b5 n5 c5) := by rw [h2.cell]; exact get_48 h2.hheld _ _ _ _ _
  have hng := owns_ne h2.r5 h2.blk (by decide)
  have r5 := h2.r5
  rw [← e5] at r5
  have E5 : Hid (n5 = a.ws.length) := e5
  have H2 : Hid (Is w2 P g _ pv2 pp2 cv2 cp2 (.slice b5 n5 c5)) := h2
  have q49 : w2.cell? ⟨g, 49, none⟩ = some (.int .i64 a.sp) := by rw [h2.cell]; exact get_49 h2.hheld _ _ _ _ _
  have g49 := h2.fro 49
  have hlt := h2.lt
  clear e5 h2 hI hI1
  go_wp2_with (refine wpList_clear_own _ rfl _ 102 rfl 126 0 1 (.slice b5 n5 c5) n5 _ Try.underlying102 Try.clr126 rfl r5 ?_; intro w3 ys hown3 hgrow hys; simp only [Act.put]; have c49 : w3.cell? ⟨g, 49, none⟩ = some (.int .i64 a.sp) := hgrow.cell q49 (Ne.symm hng); have f49 : w3.frozen? ⟨g, 49, none⟩ = false := (hgrow.frozen_far ⟨g, 49, none⟩ hlt (Ne.symm hng)).trans g49)
  go_end0
  have h2 := H2.out
  have hys' : ys = (List.replicate a.ws.length (0 : Int)).map (Value.int .u64) := by
    rw [hys _ Try.zero126, E5.out]
    simp only [Builtin.zeroCells, Value.cells, List.map_replicate, List.size_toArray, List.length_cons, List.length_nil, Nat.zero_add, Nat.mul_one, Array.toList_map, Array.toList_range, Nat.mod_one]
    apply List.ext_getElem?
    intro j
    by_cases hj : j < a.ws.length <;> simp [hj]
  have h3 : Is w3 P g ⟨a.round, .pointer none, heldZero, [], [], 0, [], [], 0, List.replicate a.ws.length 0, a.sp⟩ pv2 pp2 cv2 cp2 (.slice b5 n5 c5) := by
    refine ⟨by rw [hgrow.block g h2.lt (Ne.symm hng)]; exact h2.blk, fun k hk => Nat.lt_of_lt_of_le (h2.pl k hk) hgrow.size, h2.pg, h2.hheld, h2.r1.kept hgrow (owns_sep h2.r1 h2.r5 (by decide)), h2.r2.kept hgrow (owns_sep h2.r2 h2.r5 (by decide)), h2.r3.kept hgrow (owns_sep h2.r3 h2.r5 (by decide)), h2.r4.kept hgrow (owns_sep h2.r4 h2.r5 (by decide)), ?_, h2.p1, h2.p2, h2.p3, h2.p4, h2.p5, h2.s1, h2.s2, by simp, by simp, by simp, by simp⟩
    rw [← hys']
    have := hown3
    rw [E5.out] at this ⊢
    simpa using this
  obtain ⟨q1, q2⟩ := h3.set1 49 (.int .i64 0) ⟨a.round, .pointer none, heldZero, [], [], 0, [], [], 0, List.replicate a.ws.length 0, 0⟩ (by simp [stCells, List.set_append, heldZero]) rfl rfl rfl rfl rfl rfl
  exact ⟨rfl, ⟨_, _, _, _, _, q1⟩, (((hbW.trans hb1).trans hb2).trans (Steps.grown hgrow h2.pl h2.p5)).trans q2⟩

set_option maxHeartbeats 400000 in
theorem zzreset_is (g : Nat) (P : Nat → Prop) (a : StD) (w : World) (h : IsS w P g a) :
    Calls Try.prog 34 #[.pointer (some ⟨g, 0, none⟩)] w fun e w' => e = .returned (.tuple #[]) ∧ IsS w' P g ⟨a.round, .pointer none, heldZero, [], [], 0, [], [], 0, List.replicate a.ws.length 0, 0⟩ ∧ Steps P w w' := by
  go_enter Try.func34, Try.ntmps34
  go_wp2_with (go_at_call 49; refine (reset_is g P a _ h).mono ?_; rintro e w' ⟨rfl, hI, hb⟩)
  go_end0
  exact ⟨rfl, hI, hb⟩

end Go.Proofs.Qxb6604712a
