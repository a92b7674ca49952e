/-
  Seat b6604712a: ZZnewSenderAhead, ZZaddHeldRound, ZZsetHeldVote.
-/
import Derived.Test.Qxb6604712aRound
namespace Go.Proofs.Qxb6604712a
open Go.RowKit
set_option linter.unusedSimpArgs false
set_option linter.unusedVariables false

theorem exec_buildSlice84 (ρ : Operand → Value) (x : Operand) (dst : Option Tmp) (ty : TypeId) (pos : String) (af : Array Edge) (gd : Option (Nat × Bool)) (w : World) (hx : (ρ x).cells.size = 73) :
    Sem.run Try.prog (execOp ρ ⟨dst, .buildSlice 84 1 #[(0, x)], ty, pos, af, gd⟩) w = .ok (.value (.slice (some ⟨w.heap.size, 0, none⟩) 1 1)) (w.alloc (.cells (ρ x).cells 91)) := by
  have := run_buildSlice_one w 84 91 73 (ρ x) Try.underlying84 (by kernel_rfl) hx (by omega) (by omega)
  simp [execOp, Sem.run_bind, this]

attribute [local go_sem ↓] exec_build91 exec_buildSlice84 exec_build88 exec_load53 exec_store88
attribute [local go_sem] ptrB ptrO isPtr

set_option maxHeartbeats 1000000 in
theorem newAhead_any (w : World) : Calls Try.prog 39 #[] w fun e w' => e = .returned (.pointer (some ⟨w.heap.size, 0, none⟩)) ∧ AH w' w.heap.size w.heap.size (.slice none 0 0) [] ∧ Below w.heap.size w w' := by
  go_enter Try.func39, Try.ntmps39
  go_wp2_with fail
  go_ret
  exact ⟨rfl, ⟨heap_alloc_new _ _, Nat.le_refl _, World.ownsRow_nil _ _ _ _, by simp⟩, (Below.refl _ _).alloc (Nat.le_refl _) _⟩

theorem wpList_append91' {w : World} {ops : Array Oper} {rest : List Oper} {o : Oper} {a : Act} {Q : Exit → Act → World → Prop} (hg : o.guard = none) (s x : Operand) (hop : o.op = Op.call { callee := Callee.builtin Builtin.append, args := #[s, x], argTypes := #[84, 84] })
    (B : Nat) (v : Value) (n : Nat) (xs : List Value) (hs : a.eval s = v) (hown : w.ownsRow B 91 73 v n xs) (q : Nat) (hx : a.eval x = .slice (some ⟨q, 0, none⟩) 1 1) (cs : List Value) (hq : w.heap[q]? = some (.cells cs.toArray 91 (0, 0))) (hl : cs.length = 73) (h1 : ∀ u ∈ cs, u.oneCell' = true) (hn : n ≤ 1000) (hB : B ≤ w.heap.size)
    (hK : ∀ v' w', Turned B w w' v v' (n + 1) (xs ++ cs) → wpList Try.prog ops Q rest (a.put o.dst v') w') : wpList Try.prog ops Q (o :: rest) a w := by
  refine wpList_plain hg fun K hK' => ?_
  obtain ⟨v', w', hrun, r1⟩ := run_append91 w o.type B v n xs hown q cs hq hl h1 hn hB
  rw [append_types w 84 83 o.type 91 91 Try.underlying84 Try.underlying83] at hrun
  unfold Oper.wp
  simp [execOp, hop, resolve, invoke, builtin, hs, hx, hrun, Result.andThen]
  exact hK' _ _ (hK v' w' r1)

set_option maxRecDepth 100000 in
set_option maxHeartbeats 2000000 in
theorem addHeld_any (B g : Nat) (v : Value) (hs : List HrD) (r : Int) (w : World) (h : AH w B g v hs) (hn : hs.length ≤ 900) :
    Calls Try.prog 40 #[.pointer (some ⟨g, 0, none⟩), .int .i64 r] w fun e w' => e = .returned (.tuple #[]) ∧ ∃ v', AH w' B g v' (hs ++ [fresh r]) ∧ Moved w w' g v v' := by
  obtain ⟨a, cap, rfl⟩ := h.form
  have hfrl : (fresh r).cells.length = 73 := HrD.cells_len (fresh_fit r).1
  have hb0 : Below w.heap.size w (w.alloc (.cells (fresh r).cells.toArray 91)) := (Below.refl _ _).alloc (Nat.le_refl _) _
  have hA0 := h.below hb0
  have hq0 : (w.alloc (.cells (fresh r).cells.toArray 91)).heap[w.heap.size]? = some (.cells (fresh r).cells.toArray 91 (0, 0)) := heap_alloc_new _ _
  have hown := hA0.own
  have hc := h.cell
  have hB : B ≤ (w.alloc (.cells (fresh r).cells.toArray 91)).heap.size := Nat.le_trans (Nat.le_trans h.base (Nat.le_of_lt h.lt)) hb0.size
  have HA : Hid (AH (w.alloc (.cells (fresh r).cells.toArray 91)) B g (.slice a hs.length cap) hs) := hA0
  have HM : Hid (Moved w (w.alloc (.cells (fresh r).cells.toArray 91)) g (.slice a hs.length cap) (.slice a hs.length cap)) := Moved.ofBelow hb0 _ _
  clear hA0 h hb0
  go_enter Try.func40, Try.ntmps40
  go_wp2_with (at_builtin; refine wpList_append91' rfl _ _ rfl B (.slice a hs.length cap) hs.length (hs.flatMap HrD.cells) rfl hown w.heap.size rfl (fresh r).cells hq0 hfrl (HrD.one (fresh_fit r)) (by omega) hB ?_; intro v1 w1 hT; have hc1 : w1.cell? ⟨g, 3, none⟩ = some (.slice a hs.length cap) := hT.grown.cell HA.out.cell (Ne.symm HA.out.ne); have hf1 : w1.frozen? ⟨g, 3, none⟩ = false := (hT.grown.frozen_far ⟨g, 3, none⟩ HA.out.lt (Ne.symm HA.out.ne)).trans HA.out.fro; obtain ⟨a1, n1, c1, rfl⟩ := owns_form hT.own)
  go_end0
  have e1 : hs.length + 1 = (hs ++ [fresh r]).length := by simp
  have e2 : hs.flatMap HrD.cells ++ (fresh r).cells = (hs ++ [fresh r]).flatMap HrD.cells := by simp
  rw [e1, e2] at hT
  obtain ⟨q1, q2⟩ := HA.out.turn hT (fun x hx => by
    rcases List.mem_append.1 hx with hx | hx
    · exact HA.out.fit x hx
    · simp at hx; rw [hx]; exact fresh_fit r)
  exact ⟨rfl, _, q1, HM.out.trans q2⟩

/-- The k-th vote of a held round and whether it is held, laid in. -/
def HrD.put (y : HrD) (k : Nat) (b : Bool) (x : VoteD) : HrD := if k = 1 then { y with v1 := x, h1 := b } else { y with v0 := x, h0 := b }
theorem put_fin {W : World} {B g gr cap : Nat} {hs : List HrD} (h : AH W B g (.slice (some ⟨gr, 0, none⟩) hs.length cap) hs) (i : Nat) (y : HrD) (hy : hs[i]? = some y) (b : Bool) (x : VoteD) (hx : x.id.length = 32) (hsl : x.sl) :
    (AH ((W.setCells gr (i * 73 + 1) x.cells).setCell ⟨gr, i * 73 + 71, none⟩ (.bool b)) B g (.slice (some ⟨gr, 0, none⟩) hs.length cap) (hs.set i (y.put 0 b x)) ∧ Moved W ((W.setCells gr (i * 73 + 1) x.cells).setCell ⟨gr, i * 73 + 71, none⟩ (.bool b)) g (.slice (some ⟨gr, 0, none⟩) hs.length cap) (.slice (some ⟨gr, 0, none⟩) hs.length cap)) ∧
    (AH ((W.setCells gr (i * 73 + 36) x.cells).setCell ⟨gr, i * 73 + 72, none⟩ (.bool b)) B g (.slice (some ⟨gr, 0, none⟩) hs.length cap) (hs.set i (y.put 1 b x)) ∧ Moved W ((W.setCells gr (i * 73 + 36) x.cells).setCell ⟨gr, i * 73 + 72, none⟩ (.bool b)) g (.slice (some ⟨gr, 0, none⟩) hs.length cap) (.slice (some ⟨gr, 0, none⟩) hs.length cap)) := by
  have hyf := h.fit y (List.mem_of_getElem? hy)
  have hl := VoteD.cells_len hx
  have hi := (List.getElem?_eq_some_iff.1 hy).1
  have hset : ∀ z : HrD, (hs.set i z)[i]? = some z := fun z => by simp [hi]
  have f1 : ({ y with v0 := x } : HrD).fit := ⟨⟨hx, hyf.1.2⟩, hsl, hyf.2.2⟩
  have f2 : ({ y with v1 := x } : HrD).fit := ⟨⟨hyf.1.1, hx⟩, hyf.2.1, hsl⟩
  constructor
  · obtain ⟨a1, m1⟩ := h.put i 1 y { y with v0 := x } hy x.cells (by omega) (ov_vote1 y x hyf.1 hx) f1
    rw [show hs.length = (hs.set i { y with v0 := x }).length by simp] at a1
    obtain ⟨a2, m2⟩ := a1.put i 71 { y with v0 := x } { y with v0 := x, h0 := b } (hset _) [.bool b] (by simp) (ov_has1 { y with v0 := x } b f1.1) f1
    simp only [List.length_set, List.set_set] at a2 m2
    exact ⟨a2, m1.trans m2⟩
  · obtain ⟨a1, m1⟩ := h.put i 36 y { y with v1 := x } hy x.cells (by omega) (ov_vote2 y x hyf.1 hx) f2
    rw [show hs.length = (hs.set i { y with v1 := x }).length by simp] at a1
    obtain ⟨a2, m2⟩ := a1.put i 72 { y with v1 := x } { y with v1 := x, h1 := b } (hset _) [.bool b] (by simp) (ov_has2 { y with v1 := x } b f2.1) f2
    simp only [List.length_set, List.set_set] at a2 m2
    exact ⟨a2, m1.trans m2⟩

set_option maxRecDepth 100000 in
set_option maxHeartbeats 2000000 in
theorem setHeld0 (B g i : Nat) (v : Value) (hs : List HrD) (y : HrD) (b : Bool) (f : Int) (id : List Int) (a1 a2 : Option Addr) (l1 l2 cp1 cp2 : Nat) (w : World) (h : AH w B g v hs) (hn : hs.length ≤ 900) (hy : hs[i]? = some y) (hid : id.length = 32) :
    Calls Try.prog 41 #[.pointer (some ⟨g, 0, none⟩), .int .i64 i, .int .i64 0, .bool b, .int .i64 f, .agg (id.map (Value.int .u8)).toArray, .slice a1 l1 cp1, .slice a2 l2 cp2] w fun e w' => e = .returned (.tuple #[]) ∧ ∃ v', AH w' B g v' (hs.set i (y.put 0 b ⟨f, id, .slice a1 l1 cp1, .slice a2 l2 cp2⟩)) ∧ Moved w w' g v v' := by
  have hin := (List.getElem?_eq_some_iff.1 hy).1
  obtain ⟨gr, cap, hv, _, _⟩ := h.own.form (by omega)
  subst hv
  have hb0 : Below w.heap.size w (w.alloc (.cells (id.map (Value.int .u8)).toArray 53)) := (Below.refl _ _).alloc (Nat.le_refl _) _
  obtain ⟨W, hW⟩ : ∃ W, W = w.alloc (.cells (id.map (Value.int .u8)).toArray 53) := ⟨_, rfl⟩
  have hA0 := h.below hb0
  rw [← hW] at hb0 hA0
  have hra : W.rangeAt w.heap.size 0 (id.map (Value.int .u8)) := by rw [hW]; exact range_of_block (heap_alloc_new _ _) 0 _ (fun j v hv => by simpa using hv)
  have hrd : rd W.drew w.heap.size 0 32 = (id.map (Value.int .u8)).toArray := rd_of_range (w := W.drew) hra (by simp [hid])
  have hcr : canRd W.drew w.heap.size 0 32 := canRd_of_range (w := W.drew) hra (by simp [hid])
  have hcd : W.drew.cell? ⟨g, 3, none⟩ = some (.slice (some ⟨gr, 0, none⟩) hs.length cap) := hA0.cell
  have hAd : AH W.drew B g (.slice (some ⟨gr, 0, none⟩) hs.length cap) hs := ⟨hA0.blk, hA0.base, hA0.own, hA0.fit⟩
  have ht : W.drew.there gr (i * 73 + 1) 35 := owns_there hAd.own _ _ (by omega)
  obtain ⟨q1, q2⟩ := (put_fin hAd i y hy b ⟨f, id, .slice a1 l1 cp1, .slice a2 l2 cp2⟩ hid ⟨rfl, rfl⟩).1
  have hyi := hAd.ids y (List.mem_of_getElem? hy)
  have hl35 : (Value.int .i64 f :: (id.map (Value.int .u8) ++ [Value.slice a1 l1 cp1, Value.slice a2 l2 cp2])).length = 35 := VoteD.cells_len (x := ⟨f, id, .slice a1 l1 cp1, .slice a2 l2 cp2⟩) hid
  have k1 : (W.drew.setCells gr (i * 73 + 1) (Value.int .i64 f :: (id.map (Value.int .u8) ++ [Value.slice a1 l1 cp1, Value.slice a2 l2 cp2]))).cell? ⟨gr, i * 73 + 71, none⟩ = some (.bool y.h0) := by
    rw [World.cell?_setCells_out _ _ _ _ _ (fun _ _ => by show i * 73 + 71 < i * 73 + 1 ∨ i * 73 + 1 + (Value.int .i64 f :: (id.map (Value.int .u8) ++ [Value.slice a1 l1 cp1, Value.slice a2 l2 cp2])).length ≤ i * 73 + 71; rw [hl35]; omega)]
    exact owns_at hAd.own hAd.ids hy 71 _ (HrD.cells_71 hyi)
  have f1 : (W.drew.setCells gr (i * 73 + 1) (Value.int .i64 f :: (id.map (Value.int .u8) ++ [Value.slice a1 l1 cp1, Value.slice a2 l2 cp2]))).frozen? ⟨gr, i * 73 + 71, none⟩ = false := by
    rw [World.frozen?_setCells]; exact hAd.own.frozenAt _
  have k3 : (W.drew.setCells gr (i * 73 + 1) (Value.int .i64 f :: (id.map (Value.int .u8) ++ [Value.slice a1 l1 cp1, Value.slice a2 l2 cp2]))).cell? ⟨g, 3, none⟩ = some (.slice (some ⟨gr, 0, none⟩) hs.length cap) := by
    rw [World.cell?_setCells_out _ _ _ _ _ (fun e _ => absurd (show g = gr from e) (fun e => hAd.ne (by rw [e]; rfl)))]
    exact hAd.cell
  have hone : oneAll (.agg (Value.int .i64 f :: (id.map (Value.int .u8) ++ [Value.slice a1 l1 cp1, Value.slice a2 l2 cp2])).toArray) = true := oneAll_vote ⟨f, id, .slice a1 l1 cp1, .slice a2 l2 cp2⟩ rfl rfl
  have HF : Hid (AH ((W.drew.setCells gr (i * 73 + 1) (Value.int .i64 f :: (id.map (Value.int .u8) ++ [Value.slice a1 l1 cp1, Value.slice a2 l2 cp2]))).setCell ⟨gr, i * 73 + 71, none⟩ (.bool b)) B g (.slice (some ⟨gr, 0, none⟩) hs.length cap) (hs.set i (y.put 0 b ⟨f, id, .slice a1 l1 cp1, .slice a2 l2 cp2⟩))) := q1
  have HM : Hid (Moved w ((W.drew.setCells gr (i * 73 + 1) (Value.int .i64 f :: (id.map (Value.int .u8) ++ [Value.slice a1 l1 cp1, Value.slice a2 l2 cp2]))).setCell ⟨gr, i * 73 + 71, none⟩ (.bool b)) g (.slice (some ⟨gr, 0, none⟩) hs.length cap) (.slice (some ⟨gr, 0, none⟩) hs.length cap)) := (Moved.ofBelow (hb0.trans (below_drewN W _ 1)) _ _).trans q2
  have HW : Hid (W = w.alloc (.cells (id.map (Value.int .u8)).toArray 53)) := hW
  have hin' : (i : Int) < (hs.length : Int) := by omega
  clear q1 q2 hyi hra hA0 hAd hW h hy hb0 hl35
  go_enter Try.func41, Try.ntmps41
  go_wp2_with fail
  rw [← HW.out]
  go_region
  go_wp2_with fail
  go_end0
  exact ⟨rfl, _, HF.out, HM.out⟩

set_option maxRecDepth 100000 in
set_option maxHeartbeats 2000000 in
theorem setHeld1 (B g i : Nat) (v : Value) (hs : List HrD) (y : HrD) (b : Bool) (f : Int) (id : List Int) (a1 a2 : Option Addr) (l1 l2 cp1 cp2 : Nat) (w : World) (h : AH w B g v hs) (hn : hs.length ≤ 900) (hy : hs[i]? = some y) (hid : id.length = 32) :
    Calls Try.prog 41 #[.pointer (some ⟨g, 0, none⟩), .int .i64 i, .int .i64 1, .bool b, .int .i64 f, .agg (id.map (Value.int .u8)).toArray, .slice a1 l1 cp1, .slice a2 l2 cp2] w fun e w' => e = .returned (.tuple #[]) ∧ ∃ v', AH w' B g v' (hs.set i (y.put 1 b ⟨f, id, .slice a1 l1 cp1, .slice a2 l2 cp2⟩)) ∧ Moved w w' g v v' := by
  have hin := (List.getElem?_eq_some_iff.1 hy).1
  obtain ⟨gr, cap, hv, _, _⟩ := h.own.form (by omega)
  subst hv
  have hb0 : Below w.heap.size w (w.alloc (.cells (id.map (Value.int .u8)).toArray 53)) := (Below.refl _ _).alloc (Nat.le_refl _) _
  obtain ⟨W, hW⟩ : ∃ W, W = w.alloc (.cells (id.map (Value.int .u8)).toArray 53) := ⟨_, rfl⟩
  have hA0 := h.below hb0
  rw [← hW] at hb0 hA0
  have hra : W.rangeAt w.heap.size 0 (id.map (Value.int .u8)) := by rw [hW]; exact range_of_block (heap_alloc_new _ _) 0 _ (fun j v hv => by simpa using hv)
  have hrd : rd W.drew w.heap.size 0 32 = (id.map (Value.int .u8)).toArray := rd_of_range (w := W.drew) hra (by simp [hid])
  have hcr : canRd W.drew w.heap.size 0 32 := canRd_of_range (w := W.drew) hra (by simp [hid])
  have hcd : W.drew.cell? ⟨g, 3, none⟩ = some (.slice (some ⟨gr, 0, none⟩) hs.length cap) := hA0.cell
  have hAd : AH W.drew B g (.slice (some ⟨gr, 0, none⟩) hs.length cap) hs := ⟨hA0.blk, hA0.base, hA0.own, hA0.fit⟩
  have ht : W.drew.there gr (i * 73 + 36) 35 := owns_there hAd.own _ _ (by omega)
  obtain ⟨q1, q2⟩ := (put_fin hAd i y hy b ⟨f, id, .slice a1 l1 cp1, .slice a2 l2 cp2⟩ hid ⟨rfl, rfl⟩).2
  have hyi := hAd.ids y (List.mem_of_getElem? hy)
  have hl35 : (Value.int .i64 f :: (id.map (Value.int .u8) ++ [Value.slice a1 l1 cp1, Value.slice a2 l2 cp2])).length = 35 := VoteD.cells_len (x := ⟨f, id, .slice a1 l1 cp1, .slice a2 l2 cp2⟩) hid
  have k1 : (W.drew.setCells gr (i * 73 + 36) (Value.int .i64 f :: (id.map (Value.int .u8) ++ [Value.slice a1 l1 cp1, Value.slice a2 l2 cp2]))).cell? ⟨gr, i * 73 + 72, none⟩ = some (.bool y.h1) := by
    rw [World.cell?_setCells_out _ _ _ _ _ (fun _ _ => by show i * 73 + 72 < i * 73 + 36 ∨ i * 73 + 36 + (Value.int .i64 f :: (id.map (Value.int .u8) ++ [Value.slice a1 l1 cp1, Value.slice a2 l2 cp2])).length ≤ i * 73 + 72; rw [hl35]; omega)]
    exact owns_at hAd.own hAd.ids hy 72 _ (HrD.cells_72 hyi)
  have f1 : (W.drew.setCells gr (i * 73 + 36) (Value.int .i64 f :: (id.map (Value.int .u8) ++ [Value.slice a1 l1 cp1, Value.slice a2 l2 cp2]))).frozen? ⟨gr, i * 73 + 72, none⟩ = false := by
    rw [World.frozen?_setCells]; exact hAd.own.frozenAt _
  have k3 : (W.drew.setCells gr (i * 73 + 36) (Value.int .i64 f :: (id.map (Value.int .u8) ++ [Value.slice a1 l1 cp1, Value.slice a2 l2 cp2]))).cell? ⟨g, 3, none⟩ = some (.slice (some ⟨gr, 0, none⟩) hs.length cap) := by
    rw [World.cell?_setCells_out _ _ _ _ _ (fun e _ => absurd (show g = gr from e) (fun e => hAd.ne (by rw [e]; rfl)))]
    exact hAd.cell
  have hone : oneAll (.agg (Value.int .i64 f :: (id.map (Value.int .u8) ++ [Value.slice a1 l1 cp1, Value.slice a2 l2 cp2])).toArray) = true := oneAll_vote ⟨f, id, .slice a1 l1 cp1, .slice a2 l2 cp2⟩ rfl rfl
  have HF : Hid (AH ((W.drew.setCells gr (i * 73 + 36) (Value.int .i64 f :: (id.map (Value.int .u8) ++ [Value.slice a1 l1 cp1, Value.slice a2 l2 cp2]))).setCell ⟨gr, i * 73 + 72, none⟩ (.bool b)) B g (.slice (some ⟨gr, 0, none⟩) hs.length cap) (hs.set i (y.put 1 b ⟨f, id, .slice a1 l1 cp1, .slice a2 l2 cp2⟩))) := q1
  have HM : Hid (Moved w ((W.drew.setCells gr (i * 73 + 36) (Value.int .i64 f :: (id.map (Value.int .u8) ++ [Value.slice a1 l1 cp1, Value.slice a2 l2 cp2]))).setCell ⟨gr, i * 73 + 72, none⟩ (.bool b)) g (.slice (some ⟨gr, 0, none⟩) hs.length cap) (.slice (some ⟨gr, 0, none⟩) hs.length cap)) := (Moved.ofBelow (hb0.trans (below_drewN W _ 1)) _ _).trans q2
  have HW : Hid (W = w.alloc (.cells (id.map (Value.int .u8)).toArray 53)) := hW
  have hin' : (i : Int) < (hs.length : Int) := by omega
  clear q1 q2 hyi hra hA0 hAd hW h hy hb0 hl35
  go_enter Try.func41, Try.ntmps41
  go_wp2_with fail
  rw [← HW.out]
  go_region
  go_wp2_with fail
  go_end0
  exact ⟨rfl, _, HF.out, HM.out⟩

theorem setHeld_any (B g i k : Nat) (hk : k < 2) (v : Value) (hs : List HrD) (y : HrD) (b : Bool) (f : Int) (id : List Int) (a1 a2 : Option Addr) (l1 l2 cp1 cp2 : Nat) (w : World) (h : AH w B g v hs) (hn : hs.length ≤ 900) (hy : hs[i]? = some y) (hid : id.length = 32) :
    Calls Try.prog 41 #[.pointer (some ⟨g, 0, none⟩), .int .i64 i, .int .i64 k, .bool b, .int .i64 f, .agg (id.map (Value.int .u8)).toArray, .slice a1 l1 cp1, .slice a2 l2 cp2] w fun e w' => e = .returned (.tuple #[]) ∧ ∃ v', AH w' B g v' (hs.set i (y.put k b ⟨f, id, .slice a1 l1 cp1, .slice a2 l2 cp2⟩)) ∧ Moved w w' g v v' := by
  have : k = 0 ∨ k = 1 := by omega
  rcases this with rfl | rfl
  · exact setHeld0 B g i v hs y b f id a1 a2 l1 l2 cp1 cp2 w h hn hy hid
  · exact setHeld1 B g i v hs y b f id a1 a2 l1 l2 cp1 cp2 w h hn hy hid

end Go.Proofs.Qxb6604712a
