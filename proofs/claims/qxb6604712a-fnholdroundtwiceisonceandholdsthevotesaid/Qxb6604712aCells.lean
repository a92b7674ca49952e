/-
  Seat b6604712a: laws for rows whose elements bear many cells: copy, cuts, append of zeros. No walk here.
-/
import Derived.Test.Qxb6604712aHeld
namespace Go.Proofs.Qxb6604712a
open Go.RowKit
set_option linter.unusedSimpArgs false
set_option linter.unusedVariables false

/-- 'copy(d, s)' of k elements. -/
theorem run_copyE (w : World) (dT sT ty elem size : TypeId) (g o dLen dCap : Nat) (a : Addr) (sLen sCap k : Nat) (cs : List Value)
    (hu : Try.prog.underlying dT = some (.slice elem)) (hs : (Try.prog.info? elem).map (·.size) = some size) (hk : Nat.min sLen dLen = k)
    (hn : cs.length = k * size) (hsrc : ∀ j v, cs[j]? = some v → w.cell? (a.add j) = some v) (hth : w.there g o (k * size)) (h1 : ∀ v ∈ cs, v.oneCell' = true) :
    (Builtin.copy_ #[dT, sT] ty #[.slice (some ⟨g, o, none⟩) dLen dCap, .slice (some a) sLen sCap]).run Try.prog w = .ok (goInt k) (w.setCells g o cs) := by
  have hl := run_loadCells_list (P := Try.prog) w a cs hsrc
  have hst := run_storeCells_cells (P := Try.prog) g o cs 0 w (fun j hj => by simpa using (hth j (by omega)).1) (fun j hj => by simpa using (hth j (by omega)).2) h1
  cases hq : Try.prog.info? elem with
  | none => simp [hq] at hs
  | some i =>
    have hi : i.size = size := by simpa [hq] using hs
    simp only [Nat.add_zero] at hst
    rw [hn] at hl
    simp [Builtin.copy_, run_underlying hu, Builtin.lenOf, Builtin.firstCells, sizeOf, typeInfo, hq, hi, hk, hl, hst]

theorem wpList_copy_eq {w : World} {ops : Array Oper} {rest : List Oper} {o : Oper} {a : Act} {Q : Exit → Act → World → Prop} (hgd : o.guard = none) (d s : Operand) (t t' : TypeId)
    (ho : o.op = .call { callee := .builtin .copy, args := #[d, s], argTypes := #[t, t'] }) (v u : Value) (hd : a.eval d = v) (hs : a.eval s = u) {v' : Value} {w' : World}
    (hr : (Builtin.copy_ #[t, t'] o.type #[v, u]).run Try.prog w = .ok v' w') (h : wpList Try.prog ops Q rest (a.put o.dst v') w') : wpList Try.prog ops Q (o :: rest) a w := by
  refine wpList_plain hgd fun K hK => ?_
  unfold Oper.wp execOp
  simp only [ho, resolve, invoke, builtin, Sem.run_bind, Sem.run_pure, Result.andThen_ok, List.map_toArray, List.map_cons, List.map_nil, hd, hs, hr]
  exact hK _ _ h
theorem step_copy_eq {ops : Array Oper} {o : Oper} {a : Act} {w : World} {K : Act → World → Prop} {Q : Exit → Act → World → Prop} {E : Prop}
    (hg : o.guard = none) (d x : Operand) (dT sT : TypeId) (hop : o.op = Op.call { callee := Callee.builtin Builtin.copy, args := #[d, x], argTypes := #[dT, sT] })
    (v u : Value) (hd : a.eval d = v) (hx : a.eval x = u) {v' : Value} {w' : World} (hr : (Builtin.copy_ #[dT, sT] o.type #[v, u]).run Try.prog w = .ok v' w') (hK : K (a.put o.dst v') w') :
    if Region.wanted o (yielded ops a.tmps) = true then Oper.wp Try.prog o a w K Q else E := by
  have hw : Region.wanted o (yielded ops a.tmps) = true := by simp [Region.wanted, hg]
  rw [if_pos hw]
  unfold Oper.wp
  simp [execOp, hop, resolve, invoke, builtin, hd, hx, hr, Result.andThen]
  exact hK

theorem wpList_append_eq {w : World} {ops : Array Oper} {rest : List Oper} {o : Oper} {a : Act} {Q : Exit → Act → World → Prop} (hgd : o.guard = none) (d s : Operand) (t t' : TypeId)
    (ho : o.op = .call { callee := .builtin .append, args := #[d, s], argTypes := #[t, t'] }) (v u : Value) (hd : a.eval d = v) (hs : a.eval s = u) {v' : Value} {w' : World}
    (hr : (Builtin.append_ #[t, t'] o.type #[v, u]).run Try.prog w = .ok v' w') (h : wpList Try.prog ops Q rest (a.put o.dst v') w') : wpList Try.prog ops Q (o :: rest) a w := by
  refine wpList_plain hgd fun K hK => ?_
  unfold Oper.wp execOp
  simp only [ho, resolve, invoke, builtin, Sem.run_bind, Sem.run_pure, Result.andThen_ok, List.map_toArray, List.map_cons, List.map_nil, hd, hs, hr]
  exact hK _ _ h

/-- A row that is cut to its first m elements. -/
theorem owns_cut {w : World} {base e s g n cap : Nat} {xs : List Value} (h : w.ownsRow base e s (.slice (some ⟨g, 0, none⟩) n cap) n xs) (m : Nat) (hm : m ≤ n) :
    w.ownsRow base e s (.slice (some ⟨g, 0, none⟩) m cap) m (xs.take (m * s)) := by
  have hms : m * s ≤ n * s := Nat.mul_le_mul_right _ hm
  refine ⟨by rw [List.length_take, h.1]; omega, ?_⟩
  rcases h.2 with ⟨h0, _⟩ | ⟨g', cap', cur, hv, hbg, hg, hnc, hcm, hcs, htake⟩
  · cases h0
  · cases hv
    refine .inr ⟨g, cap, cur, rfl, hbg, hg, by omega, hcm, hcs, ?_⟩
    rw [← htake, List.take_take, Nat.min_eq_left hms]
/-- A row that is stretched into its spare cells. -/
theorem owns_stretch {w : World} {base e s g n cap : Nat} {xs : List Value} (h : w.ownsRow base e s (.slice (some ⟨g, 0, none⟩) n cap) n xs) (m : Nat) (hm : n + m ≤ cap) :
    ∃ ys, ys.length = m * s ∧ w.ownsRow base e s (.slice (some ⟨g, 0, none⟩) (n + m) cap) (n + m) (xs ++ ys) := by
  rcases h.2 with ⟨h0, _⟩ | ⟨g', cap', cur, hv, hbg, hg, hnc, hcm, hcs, htake⟩
  · cases h0
  · cases hv
    have hms : (n + m) * s ≤ cap * s := Nat.mul_le_mul_right _ hm
    have hns : (n + m) * s = n * s + m * s := Nat.add_mul _ _ _
    refine ⟨(cur.toList.drop (n * s)).take (m * s), by simp; omega, ⟨by simp [h.1]; omega, .inr ⟨g, cap, cur, rfl, hbg, hg, hm, hcm, hcs, ?_⟩⟩⟩
    rw [← htake, hns, List.take_add]

theorem owns_cap {w : World} {base e s g n cap : Nat} {xs : List Value} (h : w.ownsRow base e s (.slice (some ⟨g, 0, none⟩) n cap) n xs) : n ≤ cap ∧ cap ≤ maxLen ∧ base ≤ g ∧ g < w.heap.size := by
  rcases h.2 with ⟨h0, _⟩ | ⟨g', cap', cur, hv, hbg, hg, hnc, hcm, hcs, htake⟩
  · cases h0
  · cases hv
    exact ⟨hnc, hcm, hbg, (Array.getElem?_eq_some_iff.1 hg).1⟩
/-- The cells of a row from off on. -/
theorem owns_news {w : World} {base e s g n cap : Nat} {xs : List Value} (h : w.ownsRow base e s (.slice (some ⟨g, 0, none⟩) n cap) n xs) (off : Nat) : ∀ j v, (xs.drop off)[j]? = some v → w.cell? ((⟨g, off, none⟩ : Addr).add j) = some v := fun j v hv => by
  rw [List.getElem?_drop] at hv
  have hj := (List.getElem?_eq_some_iff.1 hv).1
  rw [Addr.add_mid, h.cellAt (off + j) (by rw [← h.1]; exact hj), hv]
theorem owns_shape {w : World} {base e s g n cap : Nat} {xs : List Value} (h : w.ownsRow base e s (.slice (some ⟨g, 0, none⟩) n cap) n xs) : w.shape? g = some (e, cap * s) := by
  rcases h.2 with ⟨h0, _⟩ | ⟨g', cap', cur, hv, hbg, hg, hnc, hcm, hcs, htake⟩
  · cases h0
  · cases hv
    simp [World.shape?, hg, hcs]
theorem owns_grown {w w' : World} {base e s : Nat} {v : Value} {n : Nat} {xs : List Value} {row : Option Nat} (h : w.ownsRow base e s v n xs) (hg : w.grownBy w' row) (sep' : row = none ∨ row ≠ v.ownBlock) : w'.ownsRow base e s v n xs := by
  rcases h.2 with ⟨rfl, rfl⟩ | ⟨g', cap', cur, rfl, hbg, hg', hnc, hcm, hcs, htake⟩
  · exact ⟨h.1, .inl ⟨rfl, rfl⟩⟩
  · refine ⟨h.1, .inr ⟨g', cap', cur, rfl, hbg, ?_, hnc, hcm, hcs, htake⟩⟩
    rw [hg.block g' (Array.getElem?_eq_some_iff.1 hg').1 (by
      rcases sep' with h | h
      · rw [h]; simp
      · simpa [Value.ownBlock] using Ne.symm h)]
    exact hg'

theorem Try.inf91 : (Try.prog.info? 91).map (fun i => (i.size, i.bytes, i.zero.map (·.cells.size))) = some (73, 192, some 73) := by kernel_rfl
theorem Try.siz91 : (Try.prog.info? 91).map (·.size) = some 73 := by kernel_rfl
theorem Try.size91z : ∀ w : World, (Go.sizeOf 91).run Try.prog w = .ok 73 w := fun w => by kernel_rfl

/-- 'append(s[:i], make([]T, k)...)' where there is no room. -/
theorem run_append_zeros (w : World) (base g i cap k : Nat) (xs : List Value) (h : w.ownsRow base 91 73 (.slice (some ⟨g, 0, none⟩) i cap) i xs) (h0 : 0 < k) (hcap : cap < i + k) (hbig : i + k ≤ 1000) (hb : base ≤ w.heap.size) :
    ∃ cap' zs zl, (∀ ty, (Builtin.append_ #[84, 3] ty #[.slice (some ⟨g, 0, none⟩) i cap, .int .i64 k]).run Try.prog w = .ok (.slice (some ⟨w.heap.size, 0, none⟩) (i + k) cap') (w.drew.alloc zs)) ∧
      (w.drew.alloc zs).ownsRow base 91 73 (.slice (some ⟨w.heap.size, 0, none⟩) (i + k) cap') (i + k) (xs ++ zl) := by
  obtain ⟨i0, z0, hi0, hz0, hz1, hz2, hz3⟩ := info_ex Try.inf91
  have hold : (Builtin.firstCells i0.size i (.slice (some ⟨g, 0, none⟩) i cap)).run Try.prog w.drew = .ok xs.toArray w.drew := by
    rw [hz1]
    exact run_firstCells_some w.drew 73 i ⟨g, 0, none⟩ i cap xs h.1 (fun j v hj => by
      have := owns_news h 0 j v (by simpa using hj)
      exact this)
  have hr := fun ty => Lib.run_append_grow_zeros w 84 3 ty 91 i0 z0 .i64 .i64 Try.underlying84 Try.underlying3 hi0 hz0 (some ⟨g, 0, none⟩) i cap xs hold k h0 (by omega) hcap (by omega) (by rw [hz2]; omega) (by rw [hz2]; exact growslice_fits hcap (by omega))
  have hge := grownCap_ge w (i + k) cap 91
  have hcm : grownCap w (i + k) cap 91 ≤ maxLen := grownCap_le_maxLen w (i + k) cap 91 (by unfold maxLen; omega)
  refine ⟨_, _, (Builtin.zeroCells z0.cells k).toList, hr, ⟨?_, .inr ⟨w.heap.size, _, _, rfl, hb, heap_alloc_new w.drew _, hge, hcm, ?_, ?_⟩⟩⟩
  · have hx := h.1
    simp [Builtin.zeroCells, hz3, hx, Nat.add_mul]
  · have hx := h.1
    simp only [Array.size_append, List.size_toArray, size_zeroCells, hz3, hx, ← Nat.add_mul]
    rw [show i + k + (grownCap w (i + k) cap 91 - (i + k)) = grownCap w (i + k) cap 91 from by omega]
  · have hx := h.1
    have hl : (xs ++ (Builtin.zeroCells z0.cells k).toList).length = (i + k) * 73 := by simp [Builtin.zeroCells, hz3, hx, Nat.add_mul]
    simp only [Array.toList_append]
    rw [← hl]
    exact List.take_left

end Go.Proofs.Qxb6604712a
