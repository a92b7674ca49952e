/-
  Seat b6604712a: (*heldVotes).hold.
-/
import Derived.Test.Qxb6604712aAhead
import Derived.BigRegion
namespace Go.Proofs.Qxb6604712a
open Go.RowKit
set_option linter.unusedSimpArgs false
set_option linter.unusedVariables false
attribute [local go_sem ↓] exec_load88 exec_store88 exec_build91
attribute [local go_sem] ptrB ptrO isPtr

/-- What the tail of hold asks of the world ahead of its two stores. -/
structure Tail (W : World) (b gr o1 o2 : Nat) (x : VoteD) (u : Value) : Prop where
  r0 : rd W b 0 35 = x.cells.toArray
  c0 : canRd W b 0 35
  t0 : W.there gr o1 35
  k0 : W.cell? ⟨gr, o2, none⟩ = some u
  f0 : W.frozen? ⟨gr, o2, none⟩ = false
  r1 : rd (W.setCell ⟨gr, o2, none⟩ (.bool true)) b 0 35 = x.cells.toArray
  c1 : canRd (W.setCell ⟨gr, o2, none⟩ (.bool true)) b 0 35
  t1 : (W.setCell ⟨gr, o2, none⟩ (.bool true)).there gr o1 35
  k1 : (W.setCells gr o1 x.cells).cell? ⟨gr, o2, none⟩ = some u
  f1 : (W.setCells gr o1 x.cells).frozen? ⟨gr, o2, none⟩ = false

theorem tail_of {W : World} {b gr o1 o2 : Nat} {x : VoteD} {u : Value} (hx : x.id.length = 32) (hb : W.rangeAt b 0 x.cells) (hne : b ≠ gr) (ht : W.there gr o1 35) (hk : W.cell? ⟨gr, o2, none⟩ = some u) (hf : W.frozen? ⟨gr, o2, none⟩ = false) (hap : o2 < o1 ∨ o1 + 35 ≤ o2) : Tail W.drew b gr o1 o2 x u := by
  have hl := VoteD.cells_len hx
  have hb1 : (W.drew.setCell ⟨gr, o2, none⟩ (.bool true)).rangeAt b 0 x.cells := fun j v hv => by
    rw [World.cell?_setCell_other _ _ _ _ (by simp [hne])]
    exact hb j v hv
  have ht1 : (W.drew.setCell ⟨gr, o2, none⟩ (.bool true)).there gr o1 35 := World.there_setCells (w := W.drew) ht gr o2 [.bool true]
  refine ⟨rd_of_range (w := W.drew) hb hl, canRd_of_range (w := W.drew) hb hl, ht, hk, hf, rd_of_range hb1 hl, canRd_of_range hb1 hl, ht1, ?_, ?_⟩
  · rw [World.cell?_setCells_out _ _ _ _ _ (fun _ _ => by show o2 < o1 ∨ o1 + x.cells.length ≤ o2; rw [hl]; exact hap)]; exact hk
  · rw [World.frozen?_setCells]; exact hf

/-- What the tail leaves: the two stores in either order. -/
theorem tail_fin {W : World} {B g gr cap : Nat} {hs : List HrD} (h : AH W B g (.slice (some ⟨gr, 0, none⟩) hs.length cap) hs) (i : Nat) (y : HrD) (hy : hs[i]? = some y) (x : VoteD) (hx : x.id.length = 32) (hsl : x.sl) :
    (AH ((W.drew.setCells gr (i * 73 + 1) x.cells).setCell ⟨gr, i * 73 + 71, none⟩ (.bool true)) B g (.slice (some ⟨gr, 0, none⟩) hs.length cap) (hs.set i (y.upd 1 x)) ∧ Moved W ((W.drew.setCells gr (i * 73 + 1) x.cells).setCell ⟨gr, i * 73 + 71, none⟩ (.bool true)) g (.slice (some ⟨gr, 0, none⟩) hs.length cap) (.slice (some ⟨gr, 0, none⟩) hs.length cap)) ∧
    (AH ((W.drew.setCell ⟨gr, i * 73 + 71, none⟩ (.bool true)).setCells gr (i * 73 + 1) x.cells) B g (.slice (some ⟨gr, 0, none⟩) hs.length cap) (hs.set i (y.upd 1 x)) ∧ Moved W ((W.drew.setCell ⟨gr, i * 73 + 71, none⟩ (.bool true)).setCells gr (i * 73 + 1) x.cells) g (.slice (some ⟨gr, 0, none⟩) hs.length cap) (.slice (some ⟨gr, 0, none⟩) hs.length cap)) ∧
    (AH ((W.drew.setCells gr (i * 73 + 36) x.cells).setCell ⟨gr, i * 73 + 72, none⟩ (.bool true)) B g (.slice (some ⟨gr, 0, none⟩) hs.length cap) (hs.set i (y.upd 2 x)) ∧ Moved W ((W.drew.setCells gr (i * 73 + 36) x.cells).setCell ⟨gr, i * 73 + 72, none⟩ (.bool true)) g (.slice (some ⟨gr, 0, none⟩) hs.length cap) (.slice (some ⟨gr, 0, none⟩) hs.length cap)) ∧
    (AH ((W.drew.setCell ⟨gr, i * 73 + 72, none⟩ (.bool true)).setCells gr (i * 73 + 36) x.cells) B g (.slice (some ⟨gr, 0, none⟩) hs.length cap) (hs.set i (y.upd 2 x)) ∧ Moved W ((W.drew.setCell ⟨gr, i * 73 + 72, none⟩ (.bool true)).setCells gr (i * 73 + 36) x.cells) g (.slice (some ⟨gr, 0, none⟩) hs.length cap) (.slice (some ⟨gr, 0, none⟩) hs.length cap)) := by
  have hD : AH W.drew B g (.slice (some ⟨gr, 0, none⟩) hs.length cap) hs := ⟨h.blk, h.base, h.own, h.fit⟩
  have hM : Moved W W.drew g (.slice (some ⟨gr, 0, none⟩) hs.length cap) (.slice (some ⟨gr, 0, none⟩) hs.length cap) := ⟨rfl, rfl, rfl, Nat.le_refl _, fun _ _ _ _ => rfl, .inl rfl⟩
  have hyf := h.fit y (List.mem_of_getElem? hy)
  have hl := VoteD.cells_len hx
  have hi := (List.getElem?_eq_some_iff.1 hy).1
  have hset : ∀ z : HrD, (hs.set i z)[i]? = some z := fun z => by simp [hi]
  have f1 : ({ y with v0 := x } : HrD).fit := ⟨⟨hx, hyf.1.2⟩, hsl, hyf.2.2⟩
  have f2 : ({ y with v1 := x } : HrD).fit := ⟨⟨hyf.1.1, hx⟩, hyf.2.1, hsl⟩
  have f3 : ({ y with h0 := true } : HrD).fit := hyf
  have f4 : ({ y with h1 := true } : HrD).fit := hyf
  have u1 : y.upd 1 x = ({ y with v0 := x, h0 := true } : HrD) := by unfold HrD.upd; rw [if_neg (by decide)]
  have u2 : y.upd 2 x = ({ y with v1 := x, h1 := true } : HrD) := by unfold HrD.upd; rw [if_pos rfl]
  rw [u1, u2]
  refine ⟨?_, ?_, ?_, ?_⟩
  · obtain ⟨a1, m1⟩ := hD.put i 1 y { y with v0 := x } hy x.cells (by omega) (ov_vote1 y x hyf.1 hx) f1
    rw [show hs.length = (hs.set i { y with v0 := x }).length by simp] at a1
    obtain ⟨a2, m2⟩ := a1.put i 71 { y with v0 := x } { y with v0 := x, h0 := true } (hset _) [.bool true] (by simp) (ov_has1 { y with v0 := x } true f1.1) f1
    simp only [List.length_set, List.set_set] at a2 m2
    exact ⟨a2, hM.trans (m1.trans m2)⟩
  · obtain ⟨a1, m1⟩ := hD.put i 71 y { y with h0 := true } hy [.bool true] (by simp) (ov_has1 y true hyf.1) f3
    rw [show hs.length = (hs.set i { y with h0 := true }).length by simp] at a1
    obtain ⟨a2, m2⟩ := a1.put i 1 { y with h0 := true } { y with v0 := x, h0 := true } (hset _) x.cells (by omega) (ov_vote1 { y with h0 := true } x hyf.1 hx) f1
    simp only [List.length_set, List.set_set] at a2 m2
    exact ⟨a2, hM.trans (m1.trans m2)⟩
  · obtain ⟨a1, m1⟩ := hD.put i 36 y { y with v1 := x } hy x.cells (by omega) (ov_vote2 y x hyf.1 hx) f2
    rw [show hs.length = (hs.set i { y with v1 := x }).length by simp] at a1
    obtain ⟨a2, m2⟩ := a1.put i 72 { y with v1 := x } { y with v1 := x, h1 := true } (hset _) [.bool true] (by simp) (ov_has2 { y with v1 := x } true f2.1) f2
    simp only [List.length_set, List.set_set] at a2 m2
    exact ⟨a2, hM.trans (m1.trans m2)⟩
  · obtain ⟨a1, m1⟩ := hD.put i 72 y { y with h1 := true } hy [.bool true] (by simp) (ov_has2 y true hyf.1) f4
    rw [show hs.length = (hs.set i { y with h1 := true }).length by simp] at a1
    obtain ⟨a2, m2⟩ := a1.put i 36 { y with h1 := true } { y with v1 := x, h1 := true } (hset _) x.cells (by omega) (ov_vote2 { y with h1 := true } x hyf.1 hx) f2
    simp only [List.length_set, List.set_set] at a2 m2
    exact ⟨a2, hM.trans (m1.trans m2)⟩

/-- A round laid in at place i. -/
def insAt (hs : List HrD) (i : Nat) (y : HrD) : List HrD := hs.take i ++ y :: hs.drop i
def setAt (hs : List HrD) (i : Nat) (st : Int) (x : VoteD) : List HrD := match hs[i]? with | some y => hs.set i (y.upd st x) | none => hs
/-- What hold makes of the rounds, r's place being i. -/
def holdAt (hs : List HrD) (r : Int) (i : Nat) (st : Int) (x : VoteD) : List HrD :=
  if foundAt hs r i = true then setAt hs i st x
  else if hs.length = 3 then (if i = 0 then hs else setAt (insAt (hs.drop 1) (i - 1) (fresh r)) (i - 1) st x)
  else setAt (insAt hs i (fresh r)) i st x

theorem flat_drop1 (hs : List HrD) (h : 1 ≤ hs.length) (hid : ∀ x ∈ hs, x.ids) : (hs.flatMap HrD.cells).drop 73 = (hs.drop 1).flatMap HrD.cells := by
  match hs, h with
  | y :: r, _ =>
    rw [List.flatMap_cons, ← HrD.cells_len (hid y (by simp)), List.drop_left]; rfl
theorem flat_ins (hs : List HrD) (i : Nat) (y : HrD) (hi : i ≤ hs.length) (hid : ∀ x ∈ hs, x.ids) : (hs.flatMap HrD.cells).take (i * 73) ++ (y.cells ++ (hs.flatMap HrD.cells).drop (i * 73)) = (insAt hs i y).flatMap HrD.cells := by
  have hl : ((hs.take i).flatMap HrD.cells).length = i * 73 := by
    rw [flat_len HrD.cells 73 _ (fun x hx => HrD.cells_len (hid x (List.mem_of_mem_take hx))), List.length_take, Nat.min_eq_left hi]
  have e : hs.flatMap HrD.cells = (hs.take i).flatMap HrD.cells ++ (hs.drop i).flatMap HrD.cells := by
    rw [← List.flatMap_append, List.take_append_drop]
  rw [e, ← hl, List.take_left, List.drop_left]
  simp [insAt]
theorem insAt_length (hs : List HrD) (i : Nat) (y : HrD) (hi : i ≤ hs.length) : (insAt hs i y).length = hs.length + 1 := by simp [insAt]; omega
theorem insAt_get (hs : List HrD) (i : Nat) (y : HrD) (hi : i ≤ hs.length) : (insAt hs i y)[i]? = some y := by
  unfold insAt
  rw [List.getElem?_append_right (by simp; omega)]
  simp [Nat.min_eq_left hi]
theorem insAt_fit (hs : List HrD) (i : Nat) (y : HrD) (h : ∀ x ∈ hs, x.fit) (hy : y.fit) : ∀ x ∈ insAt hs i y, x.fit := by
  intro x hx
  rcases List.mem_append.1 hx with hx | hx
  · exact h x (List.mem_of_mem_take hx)
  · rcases List.mem_cons.1 hx with rfl | hx
    · exact hy
    · exact h x (List.mem_of_mem_drop hx)
theorem exec_buildSlice83 (ρ : Operand → Value) (x : Operand) (dst : Option Tmp) (ty : TypeId) (pos : String) (af : Array Edge) (gd : Option (Nat × Bool)) (w : World) (hx : (ρ x).cells.size = 73) :
    Sem.run Try.prog (execOp ρ ⟨dst, .buildSlice 83 1 #[(0, x)], ty, pos, af, gd⟩) w = .ok (.value (.slice (some ⟨w.heap.size, 0, none⟩) 1 1)) (w.alloc (.cells (ρ x).cells 91)) := by
  have := run_buildSlice_one w 83 91 73 (ρ x) Try.underlying83 (by kernel_rfl) hx (by omega) (by omega)
  simp [execOp, Sem.run_bind, this]
attribute [local go_sem ↓] exec_buildSlice83

set_option maxRecDepth 100000 in
set_option maxHeartbeats 4000000 in
theorem hold1 (B g : Nat) (v : Value) (hs : List HrD) (r : Int) (x : VoteD) (i : Nat) (w : World) (h : AH w B g v hs) (hB : B ≤ w.heap.size) (hn : hs.length ≤ 3) (hgr : Grows hs) (hx : x.id.length = 32) (hsl : x.sl) (hc : Cut hs r i) :
    Calls Try.prog 63 #[.pointer (some ⟨g, 3, none⟩), .int .i64 r, .int .i8 1, .agg x.cells.toArray] w fun e w' => e = .returned (.tuple #[]) ∧ ∃ v', AH w' B g v' (holdAt hs r i 1 x) ∧ Moved w w' g v v' := by
  have hxl := VoteD.cells_len hx
  have hone := oneAll_vote x hsl.1 hsl.2
  have hfrl : (fresh r).cells.length = 73 := HrD.cells_len (fresh_fit r).1
  obtain ⟨a, cap, rfl⟩ := h.form
  have hb0 : Below w.heap.size w (w.alloc (.cells x.cells.toArray 88)) := (Below.refl _ _).alloc (Nat.le_refl _) _
  have hcA : (w.alloc (.cells x.cells.toArray 88)).cell? ⟨g, 3, none⟩ = some (.slice a hs.length cap) := cell_below h.cell hb0
  have hA0 := h.below hb0
  have hq0 : (w.alloc (.cells x.cells.toArray 88)).heap[w.heap.size]? = some (.cells x.cells.toArray 88 (0, 0)) := heap_alloc_new _ _
  obtain ⟨b7, hb7⟩ : ∃ b7, b7 = w.heap.size := ⟨_, rfl⟩
  have hbin := bin_any (.slice a hs.length cap) B hs r _ hA0.own hA0.ids (by omega) hgr
  have HA : Hid (AH (w.alloc (.cells x.cells.toArray 88)) B g (.slice a hs.length cap) hs) := hA0
  have HQ : Hid ((w.alloc (.cells x.cells.toArray 88)).heap[b7]? = some (.cells x.cells.toArray 88 (0, 0))) := by rw [hb7]; exact hq0
  have HM : Hid (Moved w (w.alloc (.cells x.cells.toArray 88)) g (.slice a hs.length cap) (.slice a hs.length cap)) := Moved.ofBelow hb0 _ _
  have HB : Hid (b7 = w.heap.size) := hb7
  clear hA0 hq0 hb0
  go_enter Try.func63, Try.ntmps63
  go_wp2_with fail
  rw [← HB.out]
  refine hbin.mono ?_
  rintro e w1 ⟨i', rfl, hcut, hb1⟩
  obtain rfl := hcut.unique hc
  have HA1 : Hid (AH w1 B g (.slice a hs.length cap) hs) := HA.out.below hb1
  have HM1 : Hid (Moved w w1 g (.slice a hs.length cap) (.slice a hs.length cap)) := HM.out.trans (Moved.ofBelow hb1 _ _)
  have HQ1 : Hid (w1.heap[b7]? = some (.cells x.cells.toArray 88 (0, 0))) := by
    have := HQ.out
    show w1.heap[b7]? = _
    rw [hb1.block b7 (Array.getElem?_eq_some_iff.1 this).1]; exact this
  have hB1 : Hid (B ≤ w1.heap.size) := Nat.le_trans hB HM1.out.size
  have hci : Hid (i' ≤ hs.length) := hc.1
  clear hbin HA HM HQ hcA h hb1 hcut HB hb7 hB
  by_cases hfd : foundAt hs r i' = true
  · have HFD : Hid (foundAt hs r i' = true) := hfd
    rw [hfd]
    clear hfd
    obtain ⟨y, hy⟩ : ∃ y, (hs)[i']? = some y := by
      have hfd := HFD.out
      unfold foundAt at hfd
      cases hq : hs[i']? with
      | none => rw [hq] at hfd; cases hfd
      | some y => exact ⟨y, rfl⟩
    have hin := (List.getElem?_eq_some_iff.1 hy).1
    obtain ⟨gr, capr, hv, _, _⟩ := HA1.out.own.form (by omega)
    cases hv
    have HY : Hid ((hs)[i']? = some y) := hy
    have hin' : (i' : Int) < ((hs).length : Int) := by omega
    have hown := HA1.out.own
    have hr := owns_at hown HA1.out.ids hy
    have hyi := HA1.out.ids y (List.mem_of_getElem? hy)
    have hTl : Tail w1.drew b7 gr (i' * 73 + 1) (i' * 73 + 71) x (.bool y.h0) := tail_of hx (range_of_block HQ1.out 0 _ (fun j v hv => by simpa using hv)) (fun e => by have := owns_ne hown HQ1.out (by decide); rw [← e] at this; exact this rfl) (owns_there hown _ _ (by omega)) (by have := hr 71 _ (HrD.cells_71 hyi); exact this) (hown.frozenAt _) (.inr (by omega))
    obtain ⟨r0, cr0, t0, k0, f0, r1, cr1, t1, k1, f1⟩ := hTl
    have HF := tail_fin HA1.out i' y hy x hx hsl
    have HF' : Hid _ := HF
    have hcW := HA1.out.cell
    clear HF hr hyi hown hy HQ1
    go_wp2_with fail
    go_region
    go_end0
    refine ⟨rfl, _, ?_, HM1.out.trans HF'.out.1.2⟩
    have hfin := HF'.out.1.1
    have e : holdAt hs r i' 1 x = hs.set i' (y.upd 1 x) := by unfold holdAt setAt; rw [if_pos HFD.out, HY.out]
    rw [e]; exact hfin
  · have hfd' : foundAt hs r i' = false := by simpa using hfd
    have HFD : Hid (¬ foundAt hs r i' = true) := hfd
    rw [hfd']
    clear hfd hfd'
    have hc1 := HA1.out.cell
    have hf1 := HA1.out.fro
    by_cases h3 : hs.length = 3
    · by_cases hi0 : i' = 0
      · subst hi0
        have e : Hid (holdAt hs r 0 1 x = hs) := by show _ = _; unfold holdAt; rw [if_neg HFD.out, if_pos h3, if_pos rfl]
        have h3' : (hs.length : Int) = 3 := by omega
        go_wp2_with fail
        refine bodyPost_ret (results_none rfl _ _ _) rfl ?_
        exact ⟨rfl, _, by rw [e.out]; exact HA1.out, HM1.out⟩
      · have h3' : (hs.length : Int) = 3 := by omega
        have hi0' : ¬ ((i' : Int) = 0) := by omega
        obtain ⟨gd, cd, hv, _, _⟩ := HA1.out.own.form (by omega)
        cases hv
        have hdel := del_walk gd cap B (hs.flatMap HrD.cells) w1 (by have := HA1.out.own; rw [h3] at this; exact this) HA1.out.one hB1.out
        rw [← h3] at hdel
        have H3 : Hid (hs.length = 3) := h3
        clear h3
        go_wp2_with fail
        refine hdel.mono ?_
        rintro e w2 ⟨v2, rfl, hT⟩
        have h3 := H3.out
        have hfl : (hs.flatMap HrD.cells).drop 73 = (hs.drop 1).flatMap HrD.cells := flat_drop1 hs (by omega) HA1.out.ids
        have hT' : Turned B w1 w2 (.slice (some ⟨gd, 0, none⟩) hs.length cap) v2 (hs.drop 1).length ((hs.drop 1).flatMap HrD.cells) := by
          rw [hfl] at hT
          rw [show (hs.drop 1).length = 2 by simp [h3]]; exact hT
        obtain ⟨hA2, hM2⟩ := HA1.out.turn hT' (fun y hy => HA1.out.fit y (List.mem_of_mem_drop hy))
        have hc2 : w2.cell? ⟨g, 3, none⟩ = some (.slice (some ⟨gd, 0, none⟩) hs.length cap) := hT'.grown.cell hc1 (Ne.symm HA1.out.ne)
        have hf2 : w2.frozen? ⟨g, 3, none⟩ = false := (hT'.grown.frozen_far ⟨g, 3, none⟩ HA1.out.lt (Ne.symm HA1.out.ne)).trans hf1
        have hq2 : w2.heap[b7]? = some (.cells x.cells.toArray 88 (0, 0)) := by
          rw [hT'.grown.block b7 (Array.getElem?_eq_some_iff.1 HQ1.out).1 (Ne.symm (owns_ne HA1.out.own HQ1.out (by decide)))]; exact HQ1.out
        have hgb : b7 ≠ g := fun e => by have h1 := HQ1.out; rw [e, HA1.out.blk] at h1; simp [ahCells] at h1
        have HA2 : Hid (AH (w2.setCell ⟨g, 3, none⟩ v2) B g v2 (hs.drop 1)) := hA2
        have HM2 : Hid (Moved w (w2.setCell ⟨g, 3, none⟩ v2) g (.slice (some ⟨gd, 0, none⟩) hs.length cap) v2) := HM1.out.trans hM2
        have HQ2 : Hid ((w2.setCell ⟨g, 3, none⟩ v2).heap[b7]? = some (.cells x.cells.toArray 88 (0, 0))) := by
          show _ = _
          rw [Below.heap_setCell _ _ _ _ hgb]; exact hq2
        clear hdel hT hT' hA2 hM2 hq2 HA1 HM1 HQ1 hc1 hf1 hfl h3 hgb
        obtain ⟨a2, c2, hv2⟩ := HA2.out.form
        subst hv2
        have hd1 : Hid ((hs.drop 1).length = 2) := by show _ = _; simp [H3.out]
        have hdi : i' - 1 ≤ (hs.drop 1).length := by rw [hd1.out]; have := hci.out; have := H3.out; omega
        have hB3 : Hid (B ≤ (w2.setCell ⟨g, 3, none⟩ (.slice a2 (hs.drop 1).length c2)).heap.size) := Nat.le_trans HA2.out.base (Nat.le_of_lt HA2.out.lt)
        obtain ⟨i2, hi2⟩ : ∃ i2 : Nat, i2 = i' - 1 := ⟨_, rfl⟩
        have hi2' : ((i' : Int) - 1) = (i2 : Int) := by omega
        have HI2 : Hid (i' = i2 + 1) := by show _ = _; omega
        rw [← hi2] at hdi
        clear hi2
        generalize hL : hs.drop 1 = L at *
        have HL : Hid (hs.drop 1 = L) := hL
        clear hL
        have hLle : L.length ≤ 3 := by rw [hd1.out]; omega
        have hWlt := HA2.out.lt
        have hbA : Below (w2.setCell ⟨g, 3, none⟩ (Value.slice a2 L.length c2)).heap.size (w2.setCell ⟨g, 3, none⟩ (Value.slice a2 L.length c2)) ((w2.setCell ⟨g, 3, none⟩ (Value.slice a2 L.length c2)).alloc (.cells (fresh r).cells.toArray 91)) := (Below.refl _ _).alloc (Nat.le_refl _) _
        have hAA := HA2.out.below hbA
        have hqA : ((w2.setCell ⟨g, 3, none⟩ (Value.slice a2 L.length c2)).alloc (.cells (fresh r).cells.toArray 91)).heap[(w2.setCell ⟨g, 3, none⟩ (Value.slice a2 L.length c2)).heap.size]? = some (.cells (fresh r).cells.toArray 91 (0, 0)) := heap_alloc_new _ _
        have hnq : (Value.slice a2 L.length c2).ownBlock ≠ some (w2.setCell ⟨g, 3, none⟩ (Value.slice a2 L.length c2)).heap.size := fun e => by have := (owns_block HA2.out.own _ e).2; omega
        have hins := ins_any (Value.slice a2 L.length c2) (L).length B (w2.setCell ⟨g, 3, none⟩ (Value.slice a2 L.length c2)).heap.size i2 ((L).flatMap HrD.cells) (fresh r).cells _ hAA.own hqA hfrl (HrD.one (fresh_fit r)) hAA.one (by omega) (Nat.le_trans hB3.out hbA.size) (hdi) hnq
        rw [flat_ins (L) i2 (fresh r) (hdi) hAA.ids] at hins
        have hcA := hAA.cell
        have HAA : Hid (AH ((w2.setCell ⟨g, 3, none⟩ (Value.slice a2 L.length c2)).alloc (.cells (fresh r).cells.toArray 91)) B g (Value.slice a2 L.length c2) (L)) := hAA
        have HQA : Hid (((w2.setCell ⟨g, 3, none⟩ (Value.slice a2 L.length c2)).alloc (.cells (fresh r).cells.toArray 91)).heap[b7]? = some (.cells x.cells.toArray 88 (0, 0))) := by
          show _ = _
          rw [hbA.block b7 (Array.getElem?_eq_some_iff.1 HQ2.out).1]; exact HQ2.out
        have HMA : Hid (Moved w ((w2.setCell ⟨g, 3, none⟩ (Value.slice a2 L.length c2)).alloc (.cells (fresh r).cells.toArray 91)) g _ (Value.slice a2 L.length c2)) := HM2.out.trans (Moved.ofBelow hbA _ _)
        have hcW0 := HA2.out.cell
        obtain ⟨WH, hWH⟩ : ∃ WH, WH = (w2.setCell ⟨g, 3, none⟩ (Value.slice a2 L.length c2)).heap.size := ⟨_, rfl⟩
        rw [← hWH] at hins
        have HWH : Hid (WH = w2.heap.size) := hWH.trans (by first | rfl | simp [World.setCell])
        clear hWlt hbA hAA hqA hnq hWH
        go_wp2_with fail
        rw [← HWH.out]
        refine hins.mono ?_
        rintro e w5 ⟨v5, rfl, hT⟩
        rw [← insAt_length (L) i2 (fresh r) (hdi)] at hT
        obtain ⟨hA6, hM6⟩ := HAA.out.turn hT (insAt_fit _ _ _ HAA.out.fit (fresh_fit r))
        have hc5 : w5.cell? ⟨g, 3, none⟩ = some (Value.slice a2 L.length c2) := hT.grown.cell hcA (Ne.symm HAA.out.ne)
        have hf5 : w5.frozen? ⟨g, 3, none⟩ = false := (hT.grown.frozen_far ⟨g, 3, none⟩ HAA.out.lt (Ne.symm HAA.out.ne)).trans HAA.out.fro
        have hq5 : w5.heap[b7]? = some (.cells x.cells.toArray 88 (0, 0)) := by
          rw [hT.grown.block b7 (Array.getElem?_eq_some_iff.1 HQA.out).1 (Ne.symm (owns_ne HAA.out.own HQA.out (by decide)))]; exact HQA.out
        have hgb5 : b7 ≠ g := fun e => by have h1 := HQA.out; rw [e, HAA.out.blk] at h1; simp [ahCells] at h1
        have HA6 : Hid (AH (w5.setCell ⟨g, 3, none⟩ v5) B g v5 (insAt (L) i2 (fresh r))) := hA6
        have HM6 : Hid (Moved w (w5.setCell ⟨g, 3, none⟩ v5) g _ v5) := HMA.out.trans hM6
        have HQ6 : Hid ((w5.setCell ⟨g, 3, none⟩ v5).heap[b7]? = some (.cells x.cells.toArray 88 (0, 0))) := by
          show _ = _
          rw [Below.heap_setCell _ _ _ _ hgb5]; exact hq5
        clear hT hA6 hM6 hq5 HAA HMA HQA hins hcA HA2 HM2 HQ2 HWH
        obtain ⟨a6, c6, hv6⟩ := HA6.out.form
        subst hv6
        obtain ⟨y, hy⟩ : ∃ y, (insAt (L) i2 (fresh r))[i2]? = some y := by
          exact ⟨fresh r, insAt_get _ _ _ (hdi)⟩
        have hin := (List.getElem?_eq_some_iff.1 hy).1
        obtain ⟨gr, capr, hv, _, _⟩ := HA6.out.own.form (by omega)
        cases hv
        have HY : Hid ((insAt (L) i2 (fresh r))[i2]? = some y) := hy
        have hin' : (i2 : Int) < ((insAt (L) i2 (fresh r)).length : Int) := by omega
        have hown := HA6.out.own
        have hr := owns_at hown HA6.out.ids hy
        have hyi := HA6.out.ids y (List.mem_of_getElem? hy)
        have hTl : Tail (w5.setCell ⟨g, 3, none⟩ (Value.slice (some ⟨gr, 0, none⟩) (insAt (L) i2 (fresh r)).length c6)).drew b7 gr (i2 * 73 + 1) (i2 * 73 + 71) x (.bool y.h0) := tail_of hx (range_of_block HQ6.out 0 _ (fun j v hv => by simpa using hv)) (fun e => by have := owns_ne hown HQ6.out (by decide); rw [← e] at this; exact this rfl) (owns_there hown _ _ (by omega)) (by have := hr 71 _ (HrD.cells_71 hyi); exact this) (hown.frozenAt _) (.inr (by omega))
        obtain ⟨r0, cr0, t0, k0, f0, r1, cr1, t1, k1, f1⟩ := hTl
        have HF := tail_fin HA6.out i2 y hy x hx hsl
        have HF' : Hid _ := HF
        have hcW := HA6.out.cell
        clear HF hr hyi hown hy HQ6
        go_wp2_with fail
        go_region
        go_end0
        refine ⟨rfl, _, ?_, HM6.out.trans HF'.out.1.2⟩
        have hfin := HF'.out.1.1
        have e : holdAt hs r i' 1 x = (insAt L i2 (fresh r)).set i2 (y.upd 1 x) := by unfold holdAt setAt; rw [if_neg HFD.out, if_pos H3.out, if_neg hi0, HL.out, show i' - 1 = i2 by have := HI2.out; omega, HY.out]
        rw [e]; exact hfin
    · have h3' : ¬ ((hs.length : Int) = 3) := by omega
      have hci' := hci.out
      have hWlt := HA1.out.lt
      have hbA : Below w1.heap.size w1 (w1.alloc (.cells (fresh r).cells.toArray 91)) := (Below.refl _ _).alloc (Nat.le_refl _) _
      have hAA := HA1.out.below hbA
      have hqA : (w1.alloc (.cells (fresh r).cells.toArray 91)).heap[w1.heap.size]? = some (.cells (fresh r).cells.toArray 91 (0, 0)) := heap_alloc_new _ _
      have hnq : (Value.slice a hs.length cap).ownBlock ≠ some w1.heap.size := fun e => by have := (owns_block HA1.out.own _ e).2; omega
      have hins := ins_any (Value.slice a hs.length cap) (hs).length B w1.heap.size i' ((hs).flatMap HrD.cells) (fresh r).cells _ hAA.own hqA hfrl (HrD.one (fresh_fit r)) hAA.one (by omega) (Nat.le_trans hB1.out hbA.size) (hci') hnq
      rw [flat_ins (hs) i' (fresh r) (hci') hAA.ids] at hins
      have hcA := hAA.cell
      have HAA : Hid (AH (w1.alloc (.cells (fresh r).cells.toArray 91)) B g (Value.slice a hs.length cap) (hs)) := hAA
      have HQA : Hid ((w1.alloc (.cells (fresh r).cells.toArray 91)).heap[b7]? = some (.cells x.cells.toArray 88 (0, 0))) := by
        show _ = _
        rw [hbA.block b7 (Array.getElem?_eq_some_iff.1 HQ1.out).1]; exact HQ1.out
      have HMA : Hid (Moved w (w1.alloc (.cells (fresh r).cells.toArray 91)) g _ (Value.slice a hs.length cap)) := HM1.out.trans (Moved.ofBelow hbA _ _)
      have hcW0 := HA1.out.cell
      obtain ⟨WH, hWH⟩ : ∃ WH, WH = w1.heap.size := ⟨_, rfl⟩
      rw [← hWH] at hins
      have HWH : Hid (WH = w1.heap.size) := hWH.trans (by first | rfl | simp [World.setCell])
      clear hWlt hbA hAA hqA hnq hWH
      go_wp2_with fail
      rw [← HWH.out]
      refine hins.mono ?_
      rintro e w5 ⟨v5, rfl, hT⟩
      rw [← insAt_length (hs) i' (fresh r) (hci')] at hT
      obtain ⟨hA6, hM6⟩ := HAA.out.turn hT (insAt_fit _ _ _ HAA.out.fit (fresh_fit r))
      have hc5 : w5.cell? ⟨g, 3, none⟩ = some (Value.slice a hs.length cap) := hT.grown.cell hcA (Ne.symm HAA.out.ne)
      have hf5 : w5.frozen? ⟨g, 3, none⟩ = false := (hT.grown.frozen_far ⟨g, 3, none⟩ HAA.out.lt (Ne.symm HAA.out.ne)).trans HAA.out.fro
      have hq5 : w5.heap[b7]? = some (.cells x.cells.toArray 88 (0, 0)) := by
        rw [hT.grown.block b7 (Array.getElem?_eq_some_iff.1 HQA.out).1 (Ne.symm (owns_ne HAA.out.own HQA.out (by decide)))]; exact HQA.out
      have hgb5 : b7 ≠ g := fun e => by have h1 := HQA.out; rw [e, HAA.out.blk] at h1; simp [ahCells] at h1
      have HA6 : Hid (AH (w5.setCell ⟨g, 3, none⟩ v5) B g v5 (insAt (hs) i' (fresh r))) := hA6
      have HM6 : Hid (Moved w (w5.setCell ⟨g, 3, none⟩ v5) g _ v5) := HMA.out.trans hM6
      have HQ6 : Hid ((w5.setCell ⟨g, 3, none⟩ v5).heap[b7]? = some (.cells x.cells.toArray 88 (0, 0))) := by
        show _ = _
        rw [Below.heap_setCell _ _ _ _ hgb5]; exact hq5
      clear hT hA6 hM6 hq5 HAA HMA HQA hins hcA HA1 HM1 HQ1 HWH
      obtain ⟨a6, c6, hv6⟩ := HA6.out.form
      subst hv6
      obtain ⟨y, hy⟩ : ∃ y, (insAt (hs) i' (fresh r))[i']? = some y := by
        exact ⟨fresh r, insAt_get _ _ _ (hci')⟩
      have hin := (List.getElem?_eq_some_iff.1 hy).1
      obtain ⟨gr, capr, hv, _, _⟩ := HA6.out.own.form (by omega)
      cases hv
      have HY : Hid ((insAt (hs) i' (fresh r))[i']? = some y) := hy
      have hin' : (i' : Int) < ((insAt (hs) i' (fresh r)).length : Int) := by omega
      have hown := HA6.out.own
      have hr := owns_at hown HA6.out.ids hy
      have hyi := HA6.out.ids y (List.mem_of_getElem? hy)
      have hTl : Tail (w5.setCell ⟨g, 3, none⟩ (Value.slice (some ⟨gr, 0, none⟩) (insAt (hs) i' (fresh r)).length c6)).drew b7 gr (i' * 73 + 1) (i' * 73 + 71) x (.bool y.h0) := tail_of hx (range_of_block HQ6.out 0 _ (fun j v hv => by simpa using hv)) (fun e => by have := owns_ne hown HQ6.out (by decide); rw [← e] at this; exact this rfl) (owns_there hown _ _ (by omega)) (by have := hr 71 _ (HrD.cells_71 hyi); exact this) (hown.frozenAt _) (.inr (by omega))
      obtain ⟨r0, cr0, t0, k0, f0, r1, cr1, t1, k1, f1⟩ := hTl
      have HF := tail_fin HA6.out i' y hy x hx hsl
      have HF' : Hid _ := HF
      have hcW := HA6.out.cell
      clear HF hr hyi hown hy HQ6
      go_wp2_with fail
      go_region
      go_end0
      refine ⟨rfl, _, ?_, HM6.out.trans HF'.out.1.2⟩
      have hfin := HF'.out.1.1
      have e : holdAt hs r i' 1 x = (insAt hs i' (fresh r)).set i' (y.upd 1 x) := by unfold holdAt setAt; rw [if_neg HFD.out, if_neg h3, HY.out]
      rw [e]; exact hfin

set_option maxRecDepth 100000 in
set_option maxHeartbeats 4000000 in
theorem hold2 (B g : Nat) (v : Value) (hs : List HrD) (r : Int) (x : VoteD) (i : Nat) (w : World) (h : AH w B g v hs) (hB : B ≤ w.heap.size) (hn : hs.length ≤ 3) (hgr : Grows hs) (hx : x.id.length = 32) (hsl : x.sl) (hc : Cut hs r i) :
    Calls Try.prog 63 #[.pointer (some ⟨g, 3, none⟩), .int .i64 r, .int .i8 2, .agg x.cells.toArray] w fun e w' => e = .returned (.tuple #[]) ∧ ∃ v', AH w' B g v' (holdAt hs r i 2 x) ∧ Moved w w' g v v' := by
  have hxl := VoteD.cells_len hx
  have hone := oneAll_vote x hsl.1 hsl.2
  have hfrl : (fresh r).cells.length = 73 := HrD.cells_len (fresh_fit r).1
  obtain ⟨a, cap, rfl⟩ := h.form
  have hb0 : Below w.heap.size w (w.alloc (.cells x.cells.toArray 88)) := (Below.refl _ _).alloc (Nat.le_refl _) _
  have hcA : (w.alloc (.cells x.cells.toArray 88)).cell? ⟨g, 3, none⟩ = some (.slice a hs.length cap) := cell_below h.cell hb0
  have hA0 := h.below hb0
  have hq0 : (w.alloc (.cells x.cells.toArray 88)).heap[w.heap.size]? = some (.cells x.cells.toArray 88 (0, 0)) := heap_alloc_new _ _
  obtain ⟨b7, hb7⟩ : ∃ b7, b7 = w.heap.size := ⟨_, rfl⟩
  have hbin := bin_any (.slice a hs.length cap) B hs r _ hA0.own hA0.ids (by omega) hgr
  have HA : Hid (AH (w.alloc (.cells x.cells.toArray 88)) B g (.slice a hs.length cap) hs) := hA0
  have HQ : Hid ((w.alloc (.cells x.cells.toArray 88)).heap[b7]? = some (.cells x.cells.toArray 88 (0, 0))) := by rw [hb7]; exact hq0
  have HM : Hid (Moved w (w.alloc (.cells x.cells.toArray 88)) g (.slice a hs.length cap) (.slice a hs.length cap)) := Moved.ofBelow hb0 _ _
  have HB : Hid (b7 = w.heap.size) := hb7
  clear hA0 hq0 hb0
  go_enter Try.func63, Try.ntmps63
  go_wp2_with fail
  rw [← HB.out]
  refine hbin.mono ?_
  rintro e w1 ⟨i', rfl, hcut, hb1⟩
  obtain rfl := hcut.unique hc
  have HA1 : Hid (AH w1 B g (.slice a hs.length cap) hs) := HA.out.below hb1
  have HM1 : Hid (Moved w w1 g (.slice a hs.length cap) (.slice a hs.length cap)) := HM.out.trans (Moved.ofBelow hb1 _ _)
  have HQ1 : Hid (w1.heap[b7]? = some (.cells x.cells.toArray 88 (0, 0))) := by
    have := HQ.out
    show w1.heap[b7]? = _
    rw [hb1.block b7 (Array.getElem?_eq_some_iff.1 this).1]; exact this
  have hB1 : Hid (B ≤ w1.heap.size) := Nat.le_trans hB HM1.out.size
  have hci : Hid (i' ≤ hs.length) := hc.1
  clear hbin HA HM HQ hcA h hb1 hcut HB hb7 hB
  by_cases hfd : foundAt hs r i' = true
  · have HFD : Hid (foundAt hs r i' = true) := hfd
    rw [hfd]
    clear hfd
    obtain ⟨y, hy⟩ : ∃ y, (hs)[i']? = some y := by
      have hfd := HFD.out
      unfold foundAt at hfd
      cases hq : hs[i']? with
      | none => rw [hq] at hfd; cases hfd
      | some y => exact ⟨y, rfl⟩
    have hin := (List.getElem?_eq_some_iff.1 hy).1
    obtain ⟨gr, capr, hv, _, _⟩ := HA1.out.own.form (by omega)
    cases hv
    have HY : Hid ((hs)[i']? = some y) := hy
    have hin' : (i' : Int) < ((hs).length : Int) := by omega
    have hown := HA1.out.own
    have hr := owns_at hown HA1.out.ids hy
    have hyi := HA1.out.ids y (List.mem_of_getElem? hy)
    have hTl : Tail w1.drew b7 gr (i' * 73 + 36) (i' * 73 + 72) x (.bool y.h1) := tail_of hx (range_of_block HQ1.out 0 _ (fun j v hv => by simpa using hv)) (fun e => by have := owns_ne hown HQ1.out (by decide); rw [← e] at this; exact this rfl) (owns_there hown _ _ (by omega)) (by have := hr 72 _ (HrD.cells_72 hyi); exact this) (hown.frozenAt _) (.inr (by omega))
    obtain ⟨r0, cr0, t0, k0, f0, r1, cr1, t1, k1, f1⟩ := hTl
    have HF := tail_fin HA1.out i' y hy x hx hsl
    have HF' : Hid _ := HF
    have hcW := HA1.out.cell
    clear HF hr hyi hown hy HQ1
    go_wp2_with fail
    go_region
    go_end0
    refine ⟨rfl, _, ?_, HM1.out.trans HF'.out.2.2.1.2⟩
    have hfin := HF'.out.2.2.1.1
    have e : holdAt hs r i' 2 x = hs.set i' (y.upd 2 x) := by unfold holdAt setAt; rw [if_pos HFD.out, HY.out]
    rw [e]; exact hfin
  · have hfd' : foundAt hs r i' = false := by simpa using hfd
    have HFD : Hid (¬ foundAt hs r i' = true) := hfd
    rw [hfd']
    clear hfd hfd'
    have hc1 := HA1.out.cell
    have hf1 := HA1.out.fro
    by_cases h3 : hs.length = 3
    · by_cases hi0 : i' = 0
      · subst hi0
        have e : Hid (holdAt hs r 0 2 x = hs) := by show _ = _; unfold holdAt; rw [if_neg HFD.out, if_pos h3, if_pos rfl]
        have h3' : (hs.length : Int) = 3 := by omega
        go_wp2_with fail
        refine bodyPost_ret (results_none rfl _ _ _) rfl ?_
        exact ⟨rfl, _, by rw [e.out]; exact HA1.out, HM1.out⟩
      · have h3' : (hs.length : Int) = 3 := by omega
        have hi0' : ¬ ((i' : Int) = 0) := by omega
        obtain ⟨gd, cd, hv, _, _⟩ := HA1.out.own.form (by omega)
        cases hv
        have hdel := del_walk gd cap B (hs.flatMap HrD.cells) w1 (by have := HA1.out.own; rw [h3] at this; exact this) HA1.out.one hB1.out
        rw [← h3] at hdel
        have H3 : Hid (hs.length = 3) := h3
        clear h3
        go_wp2_with fail
        refine hdel.mono ?_
        rintro e w2 ⟨v2, rfl, hT⟩
        have h3 := H3.out
        have hfl : (hs.flatMap HrD.cells).drop 73 = (hs.drop 1).flatMap HrD.cells := flat_drop1 hs (by omega) HA1.out.ids
        have hT' : Turned B w1 w2 (.slice (some ⟨gd, 0, none⟩) hs.length cap) v2 (hs.drop 1).length ((hs.drop 1).flatMap HrD.cells) := by
          rw [hfl] at hT
          rw [show (hs.drop 1).length = 2 by simp [h3]]; exact hT
        obtain ⟨hA2, hM2⟩ := HA1.out.turn hT' (fun y hy => HA1.out.fit y (List.mem_of_mem_drop hy))
        have hc2 : w2.cell? ⟨g, 3, none⟩ = some (.slice (some ⟨gd, 0, none⟩) hs.length cap) := hT'.grown.cell hc1 (Ne.symm HA1.out.ne)
        have hf2 : w2.frozen? ⟨g, 3, none⟩ = false := (hT'.grown.frozen_far ⟨g, 3, none⟩ HA1.out.lt (Ne.symm HA1.out.ne)).trans hf1
        have hq2 : w2.heap[b7]? = some (.cells x.cells.toArray 88 (0, 0)) := by
          rw [hT'.grown.block b7 (Array.getElem?_eq_some_iff.1 HQ1.out).1 (Ne.symm (owns_ne HA1.out.own HQ1.out (by decide)))]; exact HQ1.out
        have hgb : b7 ≠ g := fun e => by have h1 := HQ1.out; rw [e, HA1.out.blk] at h1; simp [ahCells] at h1
        have HA2 : Hid (AH (w2.setCell ⟨g, 3, none⟩ v2) B g v2 (hs.drop 1)) := hA2
        have HM2 : Hid (Moved w (w2.setCell ⟨g, 3, none⟩ v2) g (.slice (some ⟨gd, 0, none⟩) hs.length cap) v2) := HM1.out.trans hM2
        have HQ2 : Hid ((w2.setCell ⟨g, 3, none⟩ v2).heap[b7]? = some (.cells x.cells.toArray 88 (0, 0))) := by
          show _ = _
          rw [Below.heap_setCell _ _ _ _ hgb]; exact hq2
        clear hdel hT hT' hA2 hM2 hq2 HA1 HM1 HQ1 hc1 hf1 hfl h3 hgb
        obtain ⟨a2, c2, hv2⟩ := HA2.out.form
        subst hv2
        have hd1 : Hid ((hs.drop 1).length = 2) := by show _ = _; simp [H3.out]
        have hdi : i' - 1 ≤ (hs.drop 1).length := by rw [hd1.out]; have := hci.out; have := H3.out; omega
        have hB3 : Hid (B ≤ (w2.setCell ⟨g, 3, none⟩ (.slice a2 (hs.drop 1).length c2)).heap.size) := Nat.le_trans HA2.out.base (Nat.le_of_lt HA2.out.lt)
        obtain ⟨i2, hi2⟩ : ∃ i2 : Nat, i2 = i' - 1 := ⟨_, rfl⟩
        have hi2' : ((i' : Int) - 1) = (i2 : Int) := by omega
        have HI2 : Hid (i' = i2 + 1) := by show _ = _; omega
        rw [← hi2] at hdi
        clear hi2
        generalize hL : hs.drop 1 = L at *
        have HL : Hid (hs.drop 1 = L) := hL
        clear hL
        have hLle : L.length ≤ 3 := by rw [hd1.out]; omega
        have hWlt := HA2.out.lt
        have hbA : Below (w2.setCell ⟨g, 3, none⟩ (Value.slice a2 L.length c2)).heap.size (w2.setCell ⟨g, 3, none⟩ (Value.slice a2 L.length c2)) ((w2.setCell ⟨g, 3, none⟩ (Value.slice a2 L.length c2)).alloc (.cells (fresh r).cells.toArray 91)) := (Below.refl _ _).alloc (Nat.le_refl _) _
        have hAA := HA2.out.below hbA
        have hqA : ((w2.setCell ⟨g, 3, none⟩ (Value.slice a2 L.length c2)).alloc (.cells (fresh r).cells.toArray 91)).heap[(w2.setCell ⟨g, 3, none⟩ (Value.slice a2 L.length c2)).heap.size]? = some (.cells (fresh r).cells.toArray 91 (0, 0)) := heap_alloc_new _ _
        have hnq : (Value.slice a2 L.length c2).ownBlock ≠ some (w2.setCell ⟨g, 3, none⟩ (Value.slice a2 L.length c2)).heap.size := fun e => by have := (owns_block HA2.out.own _ e).2; omega
        have hins := ins_any (Value.slice a2 L.length c2) (L).length B (w2.setCell ⟨g, 3, none⟩ (Value.slice a2 L.length c2)).heap.size i2 ((L).flatMap HrD.cells) (fresh r).cells _ hAA.own hqA hfrl (HrD.one (fresh_fit r)) hAA.one (by omega) (Nat.le_trans hB3.out hbA.size) (hdi) hnq
        rw [flat_ins (L) i2 (fresh r) (hdi) hAA.ids] at hins
        have hcA := hAA.cell
        have HAA : Hid (AH ((w2.setCell ⟨g, 3, none⟩ (Value.slice a2 L.length c2)).alloc (.cells (fresh r).cells.toArray 91)) B g (Value.slice a2 L.length c2) (L)) := hAA
        have HQA : Hid (((w2.setCell ⟨g, 3, none⟩ (Value.slice a2 L.length c2)).alloc (.cells (fresh r).cells.toArray 91)).heap[b7]? = some (.cells x.cells.toArray 88 (0, 0))) := by
          show _ = _
          rw [hbA.block b7 (Array.getElem?_eq_some_iff.1 HQ2.out).1]; exact HQ2.out
        have HMA : Hid (Moved w ((w2.setCell ⟨g, 3, none⟩ (Value.slice a2 L.length c2)).alloc (.cells (fresh r).cells.toArray 91)) g _ (Value.slice a2 L.length c2)) := HM2.out.trans (Moved.ofBelow hbA _ _)
        have hcW0 := HA2.out.cell
        obtain ⟨WH, hWH⟩ : ∃ WH, WH = (w2.setCell ⟨g, 3, none⟩ (Value.slice a2 L.length c2)).heap.size := ⟨_, rfl⟩
        rw [← hWH] at hins
        have HWH : Hid (WH = w2.heap.size) := hWH.trans (by first | rfl | simp [World.setCell])
        clear hWlt hbA hAA hqA hnq hWH
        go_wp2_with fail
        rw [← HWH.out]
        refine hins.mono ?_
        rintro e w5 ⟨v5, rfl, hT⟩
        rw [← insAt_length (L) i2 (fresh r) (hdi)] at hT
        obtain ⟨hA6, hM6⟩ := HAA.out.turn hT (insAt_fit _ _ _ HAA.out.fit (fresh_fit r))
        have hc5 : w5.cell? ⟨g, 3, none⟩ = some (Value.slice a2 L.length c2) := hT.grown.cell hcA (Ne.symm HAA.out.ne)
        have hf5 : w5.frozen? ⟨g, 3, none⟩ = false := (hT.grown.frozen_far ⟨g, 3, none⟩ HAA.out.lt (Ne.symm HAA.out.ne)).trans HAA.out.fro
        have hq5 : w5.heap[b7]? = some (.cells x.cells.toArray 88 (0, 0)) := by
          rw [hT.grown.block b7 (Array.getElem?_eq_some_iff.1 HQA.out).1 (Ne.symm (owns_ne HAA.out.own HQA.out (by decide)))]; exact HQA.out
        have hgb5 : b7 ≠ g := fun e => by have h1 := HQA.out; rw [e, HAA.out.blk] at h1; simp [ahCells] at h1
        have HA6 : Hid (AH (w5.setCell ⟨g, 3, none⟩ v5) B g v5 (insAt (L) i2 (fresh r))) := hA6
        have HM6 : Hid (Moved w (w5.setCell ⟨g, 3, none⟩ v5) g _ v5) := HMA.out.trans hM6
        have HQ6 : Hid ((w5.setCell ⟨g, 3, none⟩ v5).heap[b7]? = some (.cells x.cells.toArray 88 (0, 0))) := by
          show _ = _
          rw [Below.heap_setCell _ _ _ _ hgb5]; exact hq5
        clear hT hA6 hM6 hq5 HAA HMA HQA hins hcA HA2 HM2 HQ2 HWH
        obtain ⟨a6, c6, hv6⟩ := HA6.out.form
        subst hv6
        obtain ⟨y, hy⟩ : ∃ y, (insAt (L) i2 (fresh r))[i2]? = some y := by
          exact ⟨fresh r, insAt_get _ _ _ (hdi)⟩
        have hin := (List.getElem?_eq_some_iff.1 hy).1
        obtain ⟨gr, capr, hv, _, _⟩ := HA6.out.own.form (by omega)
        cases hv
        have HY : Hid ((insAt (L) i2 (fresh r))[i2]? = some y) := hy
        have hin' : (i2 : Int) < ((insAt (L) i2 (fresh r)).length : Int) := by omega
        have hown := HA6.out.own
        have hr := owns_at hown HA6.out.ids hy
        have hyi := HA6.out.ids y (List.mem_of_getElem? hy)
        have hTl : Tail (w5.setCell ⟨g, 3, none⟩ (Value.slice (some ⟨gr, 0, none⟩) (insAt (L) i2 (fresh r)).length c6)).drew b7 gr (i2 * 73 + 36) (i2 * 73 + 72) x (.bool y.h1) := tail_of hx (range_of_block HQ6.out 0 _ (fun j v hv => by simpa using hv)) (fun e => by have := owns_ne hown HQ6.out (by decide); rw [← e] at this; exact this rfl) (owns_there hown _ _ (by omega)) (by have := hr 72 _ (HrD.cells_72 hyi); exact this) (hown.frozenAt _) (.inr (by omega))
        obtain ⟨r0, cr0, t0, k0, f0, r1, cr1, t1, k1, f1⟩ := hTl
        have HF := tail_fin HA6.out i2 y hy x hx hsl
        have HF' : Hid _ := HF
        have hcW := HA6.out.cell
        clear HF hr hyi hown hy HQ6
        go_wp2_with fail
        go_region
        go_end0
        refine ⟨rfl, _, ?_, HM6.out.trans HF'.out.2.2.1.2⟩
        have hfin := HF'.out.2.2.1.1
        have e : holdAt hs r i' 2 x = (insAt L i2 (fresh r)).set i2 (y.upd 2 x) := by unfold holdAt setAt; rw [if_neg HFD.out, if_pos H3.out, if_neg hi0, HL.out, show i' - 1 = i2 by have := HI2.out; omega, HY.out]
        rw [e]; exact hfin
    · have h3' : ¬ ((hs.length : Int) = 3) := by omega
      have hci' := hci.out
      have hWlt := HA1.out.lt
      have hbA : Below w1.heap.size w1 (w1.alloc (.cells (fresh r).cells.toArray 91)) := (Below.refl _ _).alloc (Nat.le_refl _) _
      have hAA := HA1.out.below hbA
      have hqA : (w1.alloc (.cells (fresh r).cells.toArray 91)).heap[w1.heap.size]? = some (.cells (fresh r).cells.toArray 91 (0, 0)) := heap_alloc_new _ _
      have hnq : (Value.slice a hs.length cap).ownBlock ≠ some w1.heap.size := fun e => by have := (owns_block HA1.out.own _ e).2; omega
      have hins := ins_any (Value.slice a hs.length cap) (hs).length B w1.heap.size i' ((hs).flatMap HrD.cells) (fresh r).cells _ hAA.own hqA hfrl (HrD.one (fresh_fit r)) hAA.one (by omega) (Nat.le_trans hB1.out hbA.size) (hci') hnq
      rw [flat_ins (hs) i' (fresh r) (hci') hAA.ids] at hins
      have hcA := hAA.cell
      have HAA : Hid (AH (w1.alloc (.cells (fresh r).cells.toArray 91)) B g (Value.slice a hs.length cap) (hs)) := hAA
      have HQA : Hid ((w1.alloc (.cells (fresh r).cells.toArray 91)).heap[b7]? = some (.cells x.cells.toArray 88 (0, 0))) := by
        show _ = _
        rw [hbA.block b7 (Array.getElem?_eq_some_iff.1 HQ1.out).1]; exact HQ1.out
      have HMA : Hid (Moved w (w1.alloc (.cells (fresh r).cells.toArray 91)) g _ (Value.slice a hs.length cap)) := HM1.out.trans (Moved.ofBelow hbA _ _)
      have hcW0 := HA1.out.cell
      obtain ⟨WH, hWH⟩ : ∃ WH, WH = w1.heap.size := ⟨_, rfl⟩
      rw [← hWH] at hins
      have HWH : Hid (WH = w1.heap.size) := hWH.trans (by first | rfl | simp [World.setCell])
      clear hWlt hbA hAA hqA hnq hWH
      go_wp2_with fail
      rw [← HWH.out]
      refine hins.mono ?_
      rintro e w5 ⟨v5, rfl, hT⟩
      rw [← insAt_length (hs) i' (fresh r) (hci')] at hT
      obtain ⟨hA6, hM6⟩ := HAA.out.turn hT (insAt_fit _ _ _ HAA.out.fit (fresh_fit r))
      have hc5 : w5.cell? ⟨g, 3, none⟩ = some (Value.slice a hs.length cap) := hT.grown.cell hcA (Ne.symm HAA.out.ne)
      have hf5 : w5.frozen? ⟨g, 3, none⟩ = false := (hT.grown.frozen_far ⟨g, 3, none⟩ HAA.out.lt (Ne.symm HAA.out.ne)).trans HAA.out.fro
      have hq5 : w5.heap[b7]? = some (.cells x.cells.toArray 88 (0, 0)) := by
        rw [hT.grown.block b7 (Array.getElem?_eq_some_iff.1 HQA.out).1 (Ne.symm (owns_ne HAA.out.own HQA.out (by decide)))]; exact HQA.out
      have hgb5 : b7 ≠ g := fun e => by have h1 := HQA.out; rw [e, HAA.out.blk] at h1; simp [ahCells] at h1
      have HA6 : Hid (AH (w5.setCell ⟨g, 3, none⟩ v5) B g v5 (insAt (hs) i' (fresh r))) := hA6
      have HM6 : Hid (Moved w (w5.setCell ⟨g, 3, none⟩ v5) g _ v5) := HMA.out.trans hM6
      have HQ6 : Hid ((w5.setCell ⟨g, 3, none⟩ v5).heap[b7]? = some (.cells x.cells.toArray 88 (0, 0))) := by
        show _ = _
        rw [Below.heap_setCell _ _ _ _ hgb5]; exact hq5
      clear hT hA6 hM6 hq5 HAA HMA HQA hins hcA HA1 HM1 HQ1 HWH
      obtain ⟨a6, c6, hv6⟩ := HA6.out.form
      subst hv6
      obtain ⟨y, hy⟩ : ∃ y, (insAt (hs) i' (fresh r))[i']? = some y := by
        exact ⟨fresh r, insAt_get _ _ _ (hci')⟩
      have hin := (List.getElem?_eq_some_iff.1 hy).1
      obtain ⟨gr, capr, hv, _, _⟩ := HA6.out.own.form (by omega)
      cases hv
      have HY : Hid ((insAt (hs) i' (fresh r))[i']? = some y) := hy
      have hin' : (i' : Int) < ((insAt (hs) i' (fresh r)).length : Int) := by omega
      have hown := HA6.out.own
      have hr := owns_at hown HA6.out.ids hy
      have hyi := HA6.out.ids y (List.mem_of_getElem? hy)
      have hTl : Tail (w5.setCell ⟨g, 3, none⟩ (Value.slice (some ⟨gr, 0, none⟩) (insAt (hs) i' (fresh r)).length c6)).drew b7 gr (i' * 73 + 36) (i' * 73 + 72) x (.bool y.h1) := tail_of hx (range_of_block HQ6.out 0 _ (fun j v hv => by simpa using hv)) (fun e => by have := owns_ne hown HQ6.out (by decide); rw [← e] at this; exact this rfl) (owns_there hown _ _ (by omega)) (by have := hr 72 _ (HrD.cells_72 hyi); exact this) (hown.frozenAt _) (.inr (by omega))
      obtain ⟨r0, cr0, t0, k0, f0, r1, cr1, t1, k1, f1⟩ := hTl
      have HF := tail_fin HA6.out i' y hy x hx hsl
      have HF' : Hid _ := HF
      have hcW := HA6.out.cell
      clear HF hr hyi hown hy HQ6
      go_wp2_with fail
      go_region
      go_end0
      refine ⟨rfl, _, ?_, HM6.out.trans HF'.out.2.2.1.2⟩
      have hfin := HF'.out.2.2.1.1
      have e : holdAt hs r i' 2 x = (insAt hs i' (fresh r)).set i' (y.upd 2 x) := by unfold holdAt setAt; rw [if_neg HFD.out, if_neg h3, HY.out]
      rw [e]; exact hfin

end Go.Proofs.Qxb6604712a
