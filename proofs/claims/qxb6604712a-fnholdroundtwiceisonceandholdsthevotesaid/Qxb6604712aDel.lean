/-
  Seat b6604712a: slices.Delete of the first of three held rounds.
-/
import Derived.Test.Qxb6604712aIns
import Derived.Deep.DeepAppendRoom
namespace Go.Proofs.Qxb6604712a
open Go.RowKit
set_option linter.unusedSimpArgs false
set_option linter.unusedVariables false

theorem step_append_eq {ops : Array Oper} {o : Oper} {a : Act} {w : World} {K : Act → World → Prop} {Q : Exit → Act → World → Prop} {E : Prop}
    (hg : o.guard = none) (d x : Operand) (dT sT : TypeId) (hop : o.op = Op.call { callee := Callee.builtin Builtin.append, args := #[d, x], argTypes := #[dT, sT] })
    (v u : Value) (hd : a.eval d = v) (hx : a.eval x = u) {v' : Value} {w' : World} (hr : (Builtin.append_ #[dT, sT] o.type #[v, u]).run Try.prog w = .ok v' w') (hK : K (a.put o.dst v') w') :
    if Region.wanted o (yielded ops a.tmps) = true then Oper.wp Try.prog o a w K Q else E := by
  have hw : Region.wanted o (yielded ops a.tmps) = true := by simp [Region.wanted, hg]
  rw [if_pos hw]
  unfold Oper.wp
  simp [execOp, hop, resolve, invoke, builtin, hd, hx, hr, Result.andThen]
  exact hK

/-- 'clear(s)' of one element in the middle of a row. -/
theorem run_clear_one (w : World) (g o c : Nat) (hth : w.there g o 73) :
    ∃ zs : List Value, zs.length = 73 ∧ ∀ ty, (Builtin.clear_ #[84] ty #[.slice (some ⟨g, o, none⟩) 1 c]).run Try.prog w = .ok (.tuple #[]) (w.setCells g o zs) := by
  have hz := Try.zeroValue91 w
  have hl : (Builtin.zeroCells Try.zeroCells91 1).toList.length = 73 := by simp [Builtin.zeroCells, zero91_size]
  have hone : ∀ u ∈ (Builtin.zeroCells Try.zeroCells91 1).toList, u.oneCell' = true := by
    have h4 : oneAll (.agg Try.zeroCells91) = true := by kernel_rfl
    intro u hu
    simp only [Builtin.zeroCells, Array.toList_map, List.mem_map, Array.toList_range, List.mem_range] at hu
    obtain ⟨j, hj, rfl⟩ := hu
    have hm := Nat.mod_lt j (show 0 < Try.zeroCells91.size by rw [zero91_size]; omega)
    rw [getElem!_pos Try.zeroCells91 (j % Try.zeroCells91.size) hm]
    exact (Array.all_eq_true_iff_forall_mem.1 h4) _ (Array.getElem_mem hm)
  have hst := run_storeCells_cells (P := Try.prog) g o (Builtin.zeroCells Try.zeroCells91 1).toList 0 w (fun j hj => by simpa using (hth j (by omega)).1) (fun j hj => by simpa using (hth j (by omega)).2) hone
  refine ⟨(Builtin.zeroCells Try.zeroCells91 1).toList, hl, fun ty => ?_⟩
  simp only [Nat.add_zero] at hst
  simp [Builtin.clear_, run_underlying Try.underlying84, hz, Value.cells, hst]

set_option maxRecDepth 100000 in
set_option maxHeartbeats 4000000 in
theorem del_walk (g cap B : Nat) (xs : List Value) (w : World) (hown : w.ownsRow B 91 73 (.slice (some ⟨g, 0, none⟩) 3 cap) 3 xs) (h1x : ∀ u ∈ xs, u.oneCell' = true) (hB : B ≤ w.heap.size) :
    Calls Try.prog 77 #[.slice (some ⟨g, 0, none⟩) 3 cap, .int .i64 0, .int .i64 1] w fun e w' => ∃ v', e = .returned v' ∧ Turned B w w' (.slice (some ⟨g, 0, none⟩) 3 cap) v' 2 (xs.drop 73) := by
  obtain ⟨c1, c2, c3, c4⟩ := owns_cap hown
  unfold maxLen at c2
  obtain ⟨i0, z0, hi0, hz0, hz1, hz2, hz3⟩ := info_ex Try.inf91
  have hxs := hown.1
  have hsp := fun ty => run_append_own_spare (P := Try.prog) w.drew B 84 ty 91 i0 73 Try.underlying84 hi0 hz1 g 0 cap [] (by have := owns_cut (w := w.drew) hown 0 (by omega); simpa using this) ⟨g, 73, none⟩ 2 (cap - 1) (xs.drop 73) (by simp [hxs]) (owns_news (w := w.drew) hown 73) (fun u hu => h1x u (List.mem_of_mem_drop hu)) (by omega)
  obtain ⟨W1, hr1, ho1, hgr1⟩ := hsp 84
  simp only [Nat.zero_add, List.nil_append] at hr1 ho1
  obtain ⟨rs, hrl, ho1'⟩ := owns_stretch ho1 1 (by omega)
  obtain ⟨zs, hzl, hclr⟩ := run_clear_one W1 g 146 (cap - 2) (owns_there ho1' 146 73 (by omega))
  have ho2 := owns_setCells zs 146 ho1' (by omega)
  obtain ⟨W2, hW2⟩ : ∃ W2, W2 = W1.setCells g 146 zs := ⟨_, rfl⟩
  have hgr2 : W1.grownBy W2 (some g) := by rw [hW2]; exact grown_sets _ _ _ _
  rw [← hW2] at hclr ho2
  clear hW2
  have ho3 := owns_cut ho2 2 (by omega)
  have hdl : (xs.drop 73).length = 146 := by rw [List.length_drop, hxs]
  have e3 : List.take (2 * 73) (overlay (xs.drop 73 ++ rs) zs 146) = xs.drop 73 := by
    unfold overlay
    rw [List.append_assoc, List.take_append_of_le_length (by simp; omega), List.take_take, Nat.min_self, List.take_append_of_le_length (by omega), List.take_of_length_le (by omega)]
  rw [e3] at ho3
  have hgr0 := grown_trans hgr1 hgr2
  have HF : Hid (Turned B w W2 (.slice (some ⟨g, 0, none⟩) 3 cap) (.slice (some ⟨g, 0, none⟩) 2 cap) 2 (xs.drop 73)) := ⟨ho3, ⟨hgr0.os, hgr0.tape, hgr0.output, hgr0.size, hgr0.block⟩, .inl rfl⟩
  have hr1' : ∀ ty, (Builtin.append_ #[84, 84] ty #[.slice (some ⟨g, 0, none⟩) 0 cap, .slice (some ⟨g, 73, none⟩) 2 (cap - 1)]).run Try.prog w.drew = .ok (.slice (some ⟨g, 0, none⟩) 2 cap) W1 := fun ty => hr1
  clear ho1 ho1' ho2 ho3 hgr0 hgr1 hgr2 hr1 hsp hdl e3 hxs hown
  have z1 : ¬ (cap = 1) := by omega
  have z2 : ¬ (cap = 2) := by omega
  have z3 : ¬ (cap = 0) := by omega
  have z4 : (3 : Int) ≤ (cap : Int) := by omega
  go_enter Try.func77, Try.ntmps77
  go_wp2_with fail
  go_region_law (refine step_append_eq rfl _ _ 84 84 rfl _ _ (by simp [Act.eval, Act.put]) (by simp [Act.eval, Act.put]) (hr1' _) ?_)
  go_wp2_with fail
  go_ret
  exact ⟨_, rfl, HF.out⟩
end Go.Proofs.Qxb6604712a
