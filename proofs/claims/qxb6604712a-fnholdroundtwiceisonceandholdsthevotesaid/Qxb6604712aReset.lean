/-
  Seat b6604712a: (*tally).reset, (*roundState).reset, ZZreset.
-/
import Derived.Test.Qxb6604712aState5
import Derived.BigRegion
namespace Go.Proofs.Qxb6604712a
open Go.RowKit
set_option linter.unusedSimpArgs false
set_option linter.unusedVariables false

/-- 'clear(xs)' of a slice that is owned: the row's elements turn to whatever; nothing else turns. -/
theorem run_clear_own (w : World) (t ty e base size : Nat) (v : Value) (n : Nat) (xs : List Value) (ht : Try.prog.underlying t = some (.slice e)) (hi : (Try.prog.info? e).map (fun i => (i.size, i.zero.map (fun z => (z.cells.size, oneAll (.agg z.cells))))) = some (size, some (size, true))) (hown : w.ownsRow base e size v n xs) :
    ∃ w' ys, (Builtin.clear_ #[t] ty #[v]).run Try.prog w = .ok (.tuple #[]) w' ∧ w'.ownsRow base e size v n ys ∧ w.grownBy w' v.ownBlock ∧ (∀ z, (Try.prog.info? e).bind (·.zero) = some z → ys = (Builtin.zeroCells z.cells n).toList) := by
  obtain ⟨i, hi', hzz⟩ := Option.map_eq_some_iff.1 hi
  simp only [Prod.mk.injEq] at hzz
  obtain ⟨h1, h2⟩ := hzz
  obtain ⟨z, hz, hzs⟩ := Option.map_eq_some_iff.1 h2
  simp only [Prod.mk.injEq] at hzs
  obtain ⟨h3, h4⟩ := hzs
  have hb : ∀ z', (Try.prog.info? e).bind (·.zero) = some z' → z' = z := fun z' h => by rw [hi'] at h; simp [hz] at h; exact h.symm
  rcases hown.2 with ⟨rfl, rfl⟩ | ⟨g, cap, cur, rfl, hbg, hg, hnc, hcm, hcs, htake⟩
  · refine ⟨w, [], by simp [Builtin.clear_, run_underlying ht], World.ownsRow_nil _ _ _ _, ⟨rfl, rfl, rfl, Nat.le_refl _, fun _ _ _ => rfl⟩, fun z' _ => ?_⟩
    simp [Builtin.zeroCells]
  · by_cases hn : n = 0
    · subst hn
      have hx : xs = [] := List.eq_nil_of_length_eq_zero (by simpa using hown.1)
      subst hx
      refine ⟨w, [], by simp [Builtin.clear_, run_underlying ht], hown, ⟨rfl, rfl, rfl, Nat.le_refl _, fun _ _ _ => rfl⟩, fun z' _ => ?_⟩
      simp [Builtin.zeroCells]
    · have hl : (Builtin.zeroCells z.cells n).toList.length = n * size := by simp [Builtin.zeroCells, h3]
      have hone : ∀ u ∈ (Builtin.zeroCells z.cells n).toList, u.oneCell' = true := by
        intro u hu
        simp only [Builtin.zeroCells, Array.toList_map, List.mem_map, Array.toList_range, List.mem_range] at hu
        obtain ⟨j, hj, rfl⟩ := hu
        have hp : 0 < z.cells.size := by
          rcases Nat.eq_zero_or_pos z.cells.size with h | h
          · rw [h] at hj; simp at hj
          · exact h
        have hm := Nat.mod_lt j hp
        rw [getElem!_pos z.cells (j % z.cells.size) hm]
        exact (Array.all_eq_true_iff_forall_mem.1 h4) _ (Array.getElem_mem hm)
      have hst := run_storeCells_cells (P := Try.prog) g 0 (Builtin.zeroCells z.cells n).toList 0 w (fun j hj => by
          have := (owns_there hown 0 (n * size) (by omega) j (by omega)).1; simpa using this) (fun j hj => hown.frozenAt _) hone
      refine ⟨w.setCells g 0 (Builtin.zeroCells z.cells n).toList, overlay xs (Builtin.zeroCells z.cells n).toList 0, ?_, owns_setCells _ 0 hown (by omega), grown_sets w g 0 _, ?_⟩
      · simp only [Nat.add_zero] at hst
        have hn' : ∀ (k : Nat), n = k + 1 → (Builtin.clear_ #[t] ty #[.slice (some ⟨g, 0, none⟩) (k + 1) cap]).run Try.prog w = .ok (.tuple #[]) (w.setCells g 0 (Builtin.zeroCells z.cells n).toList) := by
          intro k hk
          subst hk
          simp [Builtin.clear_, run_underlying ht, zeroValue, typeInfo, hi', hz, hst]
        obtain ⟨k, hk⟩ : ∃ k, n = k + 1 := ⟨n - 1, by omega⟩
        have := hn' k hk
        rw [← hk] at this
        exact this
      · intro z' hz'
        rw [hb z' hz']
        simp [overlay, List.drop_eq_nil_of_le, hl, hown.1]

end Go.Proofs.Qxb6604712a
