/-
  Seat b6604712a: slices.Insert of one held round.
-/
import Derived.Test.Qxb6604712aCells
import Derived.Deep.RegionLaw
import Derived.Test.Qxb6604712aState5
namespace Go.Proofs.Qxb6604712a
open Go.RowKit
set_option linter.unusedSimpArgs false
set_option linter.unusedVariables false

/-- The row v of w has become the row v' of w': in its old block or in a new one; no other old block has turned. -/
structure Turned (B : Nat) (w w' : World) (v v' : Value) (n : Nat) (xs : List Value) : Prop where
  own : w'.ownsRow B 91 73 v' n xs
  grown : w.grownBy w' v.ownBlock
  lies : v'.ownBlock = v.ownBlock ∨ ∃ k, v'.ownBlock = some k ∧ w.heap.size ≤ k

theorem run_append91 (w : World) (ty : TypeId) (B : Nat) (v : Value) (n : Nat) (xs : List Value) (hown : w.ownsRow B 91 73 v n xs) (q : Nat) (x : List Value) (hx : w.heap[q]? = some (.cells x.toArray 91 (0, 0))) (hxl : x.length = 73) (h1 : ∀ u ∈ x, u.oneCell' = true) (hn : n ≤ 1000) (hB : B ≤ w.heap.size) :
    ∃ v' w', (Builtin.append_ #[84, 83] ty #[v, .slice (some ⟨q, 0, none⟩) 1 1]).run Try.prog w = .ok v' w' ∧ Turned B w w' v v' (n + 1) (xs ++ x) := by
  obtain ⟨i0, z0, hi0, hz0, hz1, hz2, hz3⟩ := info_ex Try.inf91
  rw [append_types w 84 83 ty 91 91 Try.underlying84 Try.underlying83]
  obtain ⟨v', w', q1, q2, q3, q4, q5⟩ := run_append_own_at (P := Try.prog) w B 84 ty 91 i0 z0 73 192 Try.underlying84 hi0 hz0 hz1 hz2 hz3 (by omega) v n xs hown ⟨q, 0, none⟩ 1 1 x (by omega)
    (fun j u hu => World.news_of_block (cs := x.toArray) hx j u (by simpa using hu)) h1 (by unfold maxLen; omega) (by omega) hB
  refine ⟨v', w', q1, q2, q3, ?_⟩
  rcases q5 with h | h
  · exact .inl h
  · exact .inr ⟨_, h, Nat.le_refl _⟩

theorem wpList_append91 {w : World} {ops : Array Oper} {rest : List Oper} {o : Oper} {a : Act} {Q : Exit → Act → World → Prop} (hg : o.guard = none) (s x : Operand) (hop : o.op = Op.call { callee := Callee.builtin Builtin.append, args := #[s, x], argTypes := #[84, 83] })
    (B : Nat) (v : Value) (n : Nat) (xs : List Value) (hs : a.eval s = v) (hown : w.ownsRow B 91 73 v n xs) (q : Nat) (hx : a.eval x = .slice (some ⟨q, 0, none⟩) 1 1) (cs : List Value) (hq : w.heap[q]? = some (.cells cs.toArray 91 (0, 0))) (hl : cs.length = 73) (h1 : ∀ u ∈ cs, u.oneCell' = true) (hn : n ≤ 1000) (hB : B ≤ w.heap.size)
    (hK : ∀ v' w', Turned B w w' v v' (n + 1) (xs ++ cs) → wpList Try.prog ops Q rest (a.put o.dst v') w') : wpList Try.prog ops Q (o :: rest) a w := by
  refine wpList_plain hg fun K hK' => ?_
  obtain ⟨v', w', hrun, r1⟩ := run_append91 w o.type B v n xs hown q cs hq hl h1 hn hB
  unfold Oper.wp
  simp [execOp, hop, resolve, invoke, builtin, hs, hx, hrun, Result.andThen]
  exact hK' _ _ (hK v' w' r1)

set_option maxRecDepth 100000 in
set_option maxHeartbeats 2000000 in
theorem ins_end (a : Option Addr) (n cap B q : Nat) (xs x : List Value) (w : World) (hown : w.ownsRow B 91 73 (.slice a n cap) n xs) (hx : w.heap[q]? = some (.cells x.toArray 91 (0, 0))) (hxl : x.length = 73) (h1 : ∀ u ∈ x, u.oneCell' = true) (hn : n ≤ 1000) (hB : B ≤ w.heap.size) :
    Calls Try.prog 78 #[.slice a n cap, .int .i64 n, .slice (some ⟨q, 0, none⟩) 1 1] w fun e w' => ∃ v', e = .returned v' ∧ Turned B w w' (.slice a n cap) v' (n + 1) (xs ++ x) := by
  have hnc : n ≤ cap ∧ cap ≤ 9223372036854775807 := by
    rcases hown.2 with ⟨h0, rfl⟩ | ⟨g', cap', cur, hv, hbg, hg, hnc, hcm, hcs, htake⟩
    · cases h0; omega
    · cases hv; unfold maxLen at hcm; exact ⟨hnc, hcm⟩
  obtain ⟨c1, c2⟩ := hnc
  go_enter Try.func78, Try.ntmps78
  go_wp2_with (at_builtin; refine wpList_append91 rfl _ _ rfl B (.slice a n cap) n xs rfl hown q rfl x hx hxl h1 hn hB ?_; intro v' w' hT)
  · subst h
    go_ret
    exact ⟨_, rfl, hT⟩
  · go_ret
    exact ⟨_, rfl, hT⟩

/-- What an insertion in the middle leaves. -/
theorem overlay2 (xs ys x : List Value) (k : Nat) (hk : k ≤ xs.length) (hy : ys.length = x.length) : overlay (overlay (xs ++ ys) (xs.drop k) (k + x.length)) x k = xs.take k ++ (x ++ xs.drop k) := by
  have l0 : (xs.drop k).length = xs.length - k := List.length_drop
  have l2 : (xs ++ ys).length = xs.length + x.length := by rw [List.length_append, hy]
  have l1 : (List.take (k + x.length) (xs ++ ys)).length = k + x.length := by rw [List.length_take, l2]; omega
  have d1 : List.drop (k + x.length + (xs.drop k).length) (xs ++ ys) = [] := List.drop_eq_nil_of_le (by rw [l0, l2]; omega)
  have e1 : overlay (xs ++ ys) (xs.drop k) (k + x.length) = List.take (k + x.length) (xs ++ ys) ++ xs.drop k := by
    unfold overlay; rw [d1]; simp
  rw [e1]
  have e2 : List.take k (List.take (k + x.length) (xs ++ ys) ++ xs.drop k) = xs.take k := by
    rw [List.take_append_of_le_length (by omega), List.take_take, Nat.min_eq_left (by omega), List.take_append_of_le_length hk]
  have d2 : List.drop (k + x.length) (List.take (k + x.length) (xs ++ ys)) = [] := List.drop_eq_nil_of_le (by omega)
  unfold overlay
  rw [e2, List.drop_append_of_le_length (by omega), d2]
  simp

theorem overlay3 (xs zs x : List Value) (k : Nat) (hk : k ≤ xs.length) (hz : zs.length = xs.length - k + x.length) : overlay (overlay (xs.take k ++ zs) x k) (xs.drop k) (k + x.length) = xs.take k ++ (x ++ xs.drop k) := by
  have l0 : (xs.take k).length = k := by rw [List.length_take]; omega
  have l3 : (xs.drop k).length = xs.length - k := List.length_drop
  have e2 : List.take k (xs.take k ++ zs) = xs.take k := by
    rw [List.take_append_of_le_length (by omega), List.take_take, Nat.min_self]
  have l4 : (List.drop (k + x.length) (xs.take k ++ zs)).length = xs.length - k := by rw [List.length_drop, List.length_append, l0, hz]; omega
  have l1 : (xs.take k ++ x).length = k + x.length := by rw [List.length_append, l0]
  have e1 : overlay (xs.take k ++ zs) x k = xs.take k ++ x ++ List.drop (k + x.length) (xs.take k ++ zs) := by unfold overlay; rw [e2]
  rw [e1]
  have d1 : List.drop (k + x.length + (xs.drop k).length) (xs.take k ++ x ++ List.drop (k + x.length) (xs.take k ++ zs)) = [] := List.drop_eq_nil_of_le (by rw [List.length_append, l1, l4, l3]; omega)
  unfold overlay
  rw [d1, List.take_append_of_le_length (by omega), List.take_of_length_le (by omega)]
  simp

theorem there_grown {w w' : World} {g o n : Nat} {row : Option Nat} (h : w.there g o n) (hg : w.grownBy w' row) (hne : row ≠ some g) : w'.there g o n := fun j hj => by
  obtain ⟨h1, h2⟩ := h j hj
  obtain ⟨u, hu⟩ := Option.isSome_iff_exists.1 h1
  have hl := World.block_lt_of_cell? _ _ hu
  exact ⟨by rw [hg.cell_far _ hl (Ne.symm hne)]; exact h1, by rw [hg.frozen_far _ hl (Ne.symm hne)]; exact h2⟩

set_option maxRecDepth 100000 in
set_option maxHeartbeats 4000000 in
theorem ins_grow (g n cap B q i : Nat) (xs x : List Value) (w : World) (hown : w.ownsRow B 91 73 (.slice (some ⟨g, 0, none⟩) n cap) n xs) (hx : w.heap[q]? = some (.cells x.toArray 91 (0, 0))) (hxl : x.length = 73) (h1 : ∀ u ∈ x, u.oneCell' = true) (h1x : ∀ u ∈ xs, u.oneCell' = true) (hn : n ≤ 900) (hB : B ≤ w.heap.size) (hi : i < n) (hfull : cap < n + 1) (hqg : q ≠ g) :
    Calls Try.prog 78 #[.slice (some ⟨g, 0, none⟩) n cap, .int .i64 i, .slice (some ⟨q, 0, none⟩) 1 1] w fun e w' => ∃ v', e = .returned v' ∧ Turned B w w' (.slice (some ⟨g, 0, none⟩) n cap) v' (n + 1) (xs.take (i * 73) ++ (x ++ xs.drop (i * 73))) := by
  obtain ⟨c1, c2, c3, c4⟩ := owns_cap hown
  unfold maxLen at c2
  obtain ⟨cap', zs, zl, hrz, hW⟩ := run_append_zeros w B g i cap (n + 1 - i) (xs.take (i * 73)) (owns_cut hown i (by omega)) (by omega) (by omega) (by omega) hB
  rw [show i + (n + 1 - i) = n + 1 by omega] at hrz hW
  obtain ⟨W1, hW1⟩ : ∃ W1, W1 = w.drew.alloc zs := ⟨_, rfl⟩
  rw [← hW1] at hrz hW
  have hgr1 : w.grownBy W1 none := by rw [hW1]; exact ⟨rfl, rfl, rfl, by simp, fun k hk _ => Below.heap_alloc w.drew zs k hk⟩
  clear hW1
  have hq1 : W1.heap[q]? = some (.cells x.toArray 91 (0, 0)) := by rw [hgr1.block q (Array.getElem?_eq_some_iff.1 hx).1 (by simp)]; exact hx
  have hq2 := (Array.getElem?_eq_some_iff.1 hx).1
  have hkk : ((n : Int) + 1 - (i : Int)) = ((n + 1 - i : Nat) : Int) := by omega
  rw [← hkk] at hrz
  clear hkk
  have hxs := hown.1
  have hWl := hW.1
  obtain ⟨d1, d2, d3, d4⟩ := owns_cap hW
  unfold maxLen at d2
  have hlz : zl.length = xs.length - i * 73 + x.length := by
    have := hW.1
    rw [List.length_append, List.length_take] at this
    omega
  have hcpA : ∀ ty dc, (Builtin.copy_ #[84, 83] ty #[.slice (some ⟨w.heap.size, i * 73, none⟩) (n + 1 - i) dc, .slice (some ⟨q, 0, none⟩) 1 1]).run Try.prog W1 = .ok (goInt 1) (W1.setCells w.heap.size (i * 73) x) := fun ty dc =>
    run_copyE W1 84 83 ty 91 73 w.heap.size (i * 73) (n + 1 - i) dc ⟨q, 0, none⟩ 1 1 1 x Try.underlying84 Try.siz91 (by simp only [Nat.min_def]; split <;> omega) (by omega) (fun j v hj => World.news_of_block (cs := x.toArray) hq1 j v (by simpa using hj)) (owns_there hW _ _ (by omega)) h1
  have hW2o := owns_setCells x (i * 73) hW (by omega)
  obtain ⟨W2, hW2⟩ : ∃ W2, W2 = W1.setCells w.heap.size (i * 73) x := ⟨_, rfl⟩
  have hgr2 : W1.grownBy W2 (some w.heap.size) := by rw [hW2]; exact grown_sets _ _ _ _
  rw [← hW2] at hcpA hW2o
  clear hW2
  have hown1 := owns_grown hown hgr1 (.inl rfl)
  have hown2 := owns_grown hown1 hgr2 (.inr (by simp [Value.ownBlock]; omega))
  have hdl : (xs.drop (i * 73)).length = (n - i) * 73 := by rw [List.length_drop, hxs, Nat.sub_mul]
  have hcpB : ∀ ty dc sc, (Builtin.copy_ #[84, 84] ty #[.slice (some ⟨w.heap.size, (i + 1) * 73, none⟩) (n - i) dc, .slice (some ⟨g, i * 73, none⟩) (n - i) sc]).run Try.prog W2.drew = .ok (goInt (n - i : Nat)) (W2.drew.setCells w.heap.size ((i + 1) * 73) (xs.drop (i * 73))) := fun ty dc sc =>
    run_copyE W2.drew 84 84 ty 91 73 w.heap.size ((i + 1) * 73) (n - i) dc ⟨g, i * 73, none⟩ (n - i) sc (n - i) (xs.drop (i * 73)) Try.underlying84 Try.siz91 (by simp only [Nat.min_def]; split <;> omega) hdl (owns_news (w := W2.drew) hown2 (i * 73)) (owns_there (w := W2.drew) hW2o _ _ (by omega)) (fun u hu => h1x u (List.mem_of_mem_drop hu))
  have hW3o := owns_setCells (w := W2.drew) (xs.drop (i * 73)) ((i + 1) * 73) hW2o (by omega)
  obtain ⟨W3, hW3⟩ : ∃ W3, W3 = W2.drew.setCells w.heap.size ((i + 1) * 73) (xs.drop (i * 73)) := ⟨_, rfl⟩
  have hgr3 : W2.drew.grownBy W3 (some w.heap.size) := by rw [hW3]; exact grown_sets W2.drew _ _ _
  rw [← hW3] at hcpB hW3o
  clear hW3
  rw [show (i + 1) * 73 = i * 73 + x.length by omega, overlay3 xs zl x (i * 73) (by omega) hlz] at hW3o
  have hfin : Turned B w W3 (.slice (some ⟨g, 0, none⟩) n cap) (.slice (some ⟨w.heap.size, 0, none⟩) (n + 1) cap') (n + 1) (xs.take (i * 73) ++ (x ++ xs.drop (i * 73))) := by
    refine ⟨hW3o, ⟨hgr3.os.trans (hgr2.os.trans hgr1.os), hgr3.tape.trans (hgr2.tape.trans hgr1.tape), hgr3.output.trans (hgr2.output.trans hgr1.output), Nat.le_trans hgr1.size (Nat.le_trans hgr2.size hgr3.size), fun k hk hne => ?_⟩, .inr ⟨_, rfl, Nat.le_refl _⟩⟩
    have s1 := hgr1.size
    have s2 := hgr2.size
    rw [hgr3.block k (show k < W2.heap.size by omega) (by simp; omega)]
    show W2.heap[k]? = _
    rw [hgr2.block k (by omega) (by simp; omega), hgr1.block k hk (by simp)]
  have HF : Hid (Turned B w W3 (.slice (some ⟨g, 0, none⟩) n cap) (.slice (some ⟨w.heap.size, 0, none⟩) (n + 1) cap') (n + 1) (xs.take (i * 73) ++ (x ++ xs.drop (i * 73)))) := hfin
  obtain ⟨H, hH⟩ : ∃ H, H = w.heap.size := ⟨_, rfl⟩
  rw [← hH] at HF hcpA hcpB hrz
  clear hfin hW3o hW2o hW hown1 hown2 hgr1 hgr2 hgr3 hH hq1 hx hlz hdl hxs hWl hown
  have z1 : ¬ ((i : Int) = (n : Int)) := by omega
  have z2 : (cap : Int) < (n : Int) + 1 := by omega
  have z3 : ¬ (cap = i) := by omega
  have z4 : ¬ (cap' = i) := by omega
  have z5 : ¬ (cap' = i + 1) := by omega
  have z6 : (i : Int) ≤ (n : Int) := by omega
  have z7 : (i : Int) ≤ (cap : Int) := by omega
  have z8 : (i : Int) + 1 ≤ (n : Int) + 1 := by omega
  go_enter Try.func78, Try.ntmps78
  go_wp2_with (at_builtin; refine wpList_append_eq rfl _ _ 84 3 rfl _ _ rfl rfl (hrz _) ?_)
  have y1 : IntKind.i64.wrap ((i : Int) + 1) = (i : Int) + 1 := by rw [IntKind.wrap_i64]; omega
  have y2 : (0 : Int) ≤ (i : Int) + 1 := by omega
  have y3 : ((i : Int) + 1).toNat = i + 1 := by omega
  have y4 : i ≤ n := by omega
  have y5 : ((i : Int) + 1) ≤ (n : Int) + 1 := by omega
  have y6 : ((i : Int) + 1) ≤ ((n + 1 : Nat) : Int) := by omega
  go_region_law (refine step_copy_eq rfl _ _ 84 84 rfl _ _ (by simp [Act.eval, Act.put]) (by simp [Act.eval, Act.put]) (hcpB _ _ _) ?_)
  all_goals go_wp2_with fail
  go_ret
  exact ⟨_, rfl, HF.out⟩

set_option maxRecDepth 100000 in
set_option maxHeartbeats 4000000 in
theorem ins_room (g n cap B q i : Nat) (xs x : List Value) (w : World) (hown : w.ownsRow B 91 73 (.slice (some ⟨g, 0, none⟩) n cap) n xs) (hx : w.heap[q]? = some (.cells x.toArray 91 (0, 0))) (hxl : x.length = 73) (h1 : ∀ u ∈ x, u.oneCell' = true) (h1x : ∀ u ∈ xs, u.oneCell' = true) (hn : n ≤ 900) (hB : B ≤ w.heap.size) (hi : i < n) (hroom : n + 1 ≤ cap) (hqg : q ≠ g) :
    Calls Try.prog 78 #[.slice (some ⟨g, 0, none⟩) n cap, .int .i64 i, .slice (some ⟨q, 0, none⟩) 1 1] w fun e w' => ∃ v', e = .returned v' ∧ Turned B w w' (.slice (some ⟨g, 0, none⟩) n cap) v' (n + 1) (xs.take (i * 73) ++ (x ++ xs.drop (i * 73))) := by
  obtain ⟨c1, c2, c3, c4⟩ := owns_cap hown
  unfold maxLen at c2
  obtain ⟨ys, hyl, hown1⟩ := owns_stretch hown 1 hroom
  have hxs := hown.1
  have hsq : w.shape? q = some (91, 73) := by simp [World.shape?, hx, hxl]
  have hsg := owns_shape hown
  have hfa : w.frozen? ⟨q, 0, none⟩ = false := frozen_of_row w q 0 _ 91 hx
  have hfe : w.frozen? { block := q, off := 73 } = false := frozen_of_row w q 73 _ 91 hx
  have hov : ∀ lb cb, (callFunc 80 #[.slice (some ⟨q, 0, none⟩) 1 1, .slice (some ⟨g, (i + 1) * 73, none⟩) lb cb]).run Try.prog w = .ok (.value (.bool false)) w := fun lb cb => by
    rw [run_callFunc_extern Try.func80 (by kernel_rfl) (by kernel_rfl) (by kernel_rfl) (e := Extern.SlicesOverlaps.overlaps #[83, 83] #[4]) (by kernel_rfl),
      Lib.run_overlaps_apart w 83 4 91 Try.underlying83 73 Try.size91z ⟨q, 0, none⟩ ⟨g, (i + 1) * 73, none⟩ 1 1 lb cb hqg 91 91 73 (cap * 73) hsq hsg (by omega) hfa hfe]
    rfl
  have hdl : (xs.drop (i * 73)).length = (n - i) * 73 := by rw [List.length_drop, hxs, Nat.sub_mul]
  have hcpB : ∀ ty dc sc, (Builtin.copy_ #[84, 84] ty #[.slice (some ⟨g, (i + 1) * 73, none⟩) (n - i) dc, .slice (some ⟨g, i * 73, none⟩) (n + 1 - i) sc]).run Try.prog w.drew = .ok (goInt (n - i : Nat)) (w.drew.setCells g ((i + 1) * 73) (xs.drop (i * 73))) := fun ty dc sc =>
    run_copyE w.drew 84 84 ty 91 73 g ((i + 1) * 73) (n - i) dc ⟨g, i * 73, none⟩ (n + 1 - i) sc (n - i) (xs.drop (i * 73)) Try.underlying84 Try.siz91 (by simp only [Nat.min_def]; split <;> omega) hdl (owns_news (w := w.drew) hown (i * 73)) (owns_there (w := w.drew) hown1 _ _ (by omega)) (fun u hu => h1x u (List.mem_of_mem_drop hu))
  have hW1o := owns_setCells (w := w.drew) (xs.drop (i * 73)) ((i + 1) * 73) hown1 (by omega)
  obtain ⟨W1, hW1⟩ : ∃ W1, W1 = w.drew.setCells g ((i + 1) * 73) (xs.drop (i * 73)) := ⟨_, rfl⟩
  have hgr1 : w.drew.grownBy W1 (some g) := by rw [hW1]; exact grown_sets w.drew _ _ _
  rw [← hW1] at hcpB hW1o
  clear hW1
  have hq1 : W1.heap[q]? = some (.cells x.toArray 91 (0, 0)) := by
    rw [hgr1.block q (show q < w.heap.size from (Array.getElem?_eq_some_iff.1 hx).1) (by simpa using hqg)]; exact hx
  have hcpA : ∀ ty dc, (Builtin.copy_ #[84, 83] ty #[.slice (some ⟨g, i * 73, none⟩) (n + 1 - i) dc, .slice (some ⟨q, 0, none⟩) 1 1]).run Try.prog W1 = .ok (goInt 1) (W1.setCells g (i * 73) x) := fun ty dc =>
    run_copyE W1 84 83 ty 91 73 g (i * 73) (n + 1 - i) dc ⟨q, 0, none⟩ 1 1 1 x Try.underlying84 Try.siz91 (by simp only [Nat.min_def]; split <;> omega) (by omega) (fun j v hj => World.news_of_block (cs := x.toArray) hq1 j v (by simpa using hj)) (owns_there hW1o _ _ (by omega)) h1
  have hW2o := owns_setCells x (i * 73) hW1o (by omega)
  obtain ⟨W2, hW2⟩ : ∃ W2, W2 = W1.setCells g (i * 73) x := ⟨_, rfl⟩
  have hgr2 : W1.grownBy W2 (some g) := by rw [hW2]; exact grown_sets _ _ _ _
  rw [← hW2] at hcpA hW2o
  clear hW2
  rw [show (i + 1) * 73 = i * 73 + x.length by omega, overlay2 xs ys x (i * 73) (by omega) (by omega)] at hW2o
  have hgr0 := grown_trans hgr1 hgr2
  have hgr : w.grownBy W2 (some g) := ⟨hgr0.os, hgr0.tape, hgr0.output, hgr0.size, hgr0.block⟩
  clear hgr0
  have HF : Hid (Turned B w W2 (.slice (some ⟨g, 0, none⟩) n cap) (.slice (some ⟨g, 0, none⟩) (n + 1) cap) (n + 1) (xs.take (i * 73) ++ (x ++ xs.drop (i * 73)))) := ⟨hW2o, hgr, .inl rfl⟩
  clear hW2o hgr hgr1 hgr2 hq1 hW1o hdl hfe hfa hsg hsq hown1 hyl hx hxs hown
  have z1 : ¬ ((i : Int) = (n : Int)) := by omega
  have z2 : ¬ ((cap : Int) < (n : Int) + 1) := by omega
  have z3 : ¬ (cap = i) := by omega
  have z5 : ¬ (cap = i + 1) := by omega
  have z6 : (i : Int) ≤ (n : Int) := by omega
  have z7 : (i : Int) ≤ (cap : Int) := by omega
  have z8 : (i : Int) + 1 ≤ (n : Int) + 1 := by omega
  have z9 : (n : Int) + 1 ≤ (cap : Int) := by omega
  have y1 : IntKind.i64.wrap ((i : Int) + 1) = (i : Int) + 1 := by rw [IntKind.wrap_i64]; omega
  have y2 : (0 : Int) ≤ (i : Int) + 1 := by omega
  have y3 : ((i : Int) + 1).toNat = i + 1 := by omega
  have y4 : i ≤ n := by omega
  have y7 : i ≤ n + 1 := by omega
  have y8 : (i : Int) ≤ (n : Int) + 1 := by omega
  go_enter Try.func78, Try.ntmps78
  go_wp2_with (simp only [hov])
  go_region_law (refine step_copy_eq rfl _ _ 84 84 rfl _ _ (by simp [Act.eval, Act.put]) (by simp [Act.eval, Act.put]) (hcpB _ _ _) ?_)
  go_wp2_with fail
  go_ret
  exact ⟨_, rfl, HF.out⟩

theorem ins_any (v : Value) (n B q i : Nat) (xs x : List Value) (w : World) (hown : w.ownsRow B 91 73 v n xs) (hx : w.heap[q]? = some (.cells x.toArray 91 (0, 0))) (hxl : x.length = 73) (h1 : ∀ u ∈ x, u.oneCell' = true) (h1x : ∀ u ∈ xs, u.oneCell' = true) (hn : n ≤ 900) (hB : B ≤ w.heap.size) (hi : i ≤ n) (hqv : v.ownBlock ≠ some q) :
    Calls Try.prog 78 #[v, .int .i64 i, .slice (some ⟨q, 0, none⟩) 1 1] w fun e w' => ∃ v', e = .returned v' ∧ Turned B w w' v v' (n + 1) (xs.take (i * 73) ++ (x ++ xs.drop (i * 73))) := by
  by_cases hin : i = n
  · subst hin
    obtain ⟨a, m, cap, rfl⟩ := owns_form hown
    have hm : m = i := by
      rcases hown.2 with ⟨h0, rfl⟩ | ⟨g', cap', cur, hv, _⟩
      · cases h0; rfl
      · cases hv; rfl
    subst hm
    have e1 : xs.take (m * 73) = xs := List.take_of_length_le (by rw [hown.1]; omega)
    have e2 : xs.drop (m * 73) = [] := List.drop_eq_nil_of_le (by rw [hown.1]; omega)
    rw [e1, e2, List.append_nil]
    exact ins_end a m cap B q xs x w hown hx hxl h1 (by omega) hB
  · obtain ⟨g, cap, rfl, _, _⟩ := hown.form (by omega)
    have hqg : q ≠ g := fun h => hqv (by rw [h]; rfl)
    by_cases hr : n + 1 ≤ cap
    · exact ins_room g n cap B q i xs x w hown hx hxl h1 h1x hn hB (by omega) hr hqg
    · exact ins_grow g n cap B q i xs x w hown hx hxl h1 h1x hn hB (by omega) (by omega) hqg

end Go.Proofs.Qxb6604712a
