/-
  Seat b6604712a: what modelHold needs: rows of type 49. No walk here.
-/
import Derived.Test.Qxb6604712aFvote
namespace Go.Proofs.Qxb6604712a
open Go.RowKit
set_option linter.unusedSimpArgs false
set_option linter.unusedVariables false

theorem zero49_eq (r : Int) : Try.zeroCells49.setIfInBounds 0 (.int .i64 r) = (fresh r).cells.toArray := by kernel_rfl
theorem zero49_size : Try.zeroCells49.size = 73 := by kernel_rfl
theorem run_build49 (w : World) (r : Int) : (Instr.build 49 #[(0, .int .i64 r)]).run Try.prog w = .ok (.agg (fresh r).cells.toArray) w := by
  have := run_build_first w 49 Try.zeroCells49 _ #[(0, 1), (1, 70), (71, 2)] (.int .i64 r) rfl Try.underlying49 (Try.zeroValue49 w) (by kernel_rfl) (by rfl) (by rw [zero49_size]; omega)
  rw [this, zero49_eq]
theorem exec_build49 (ρ : Operand → Value) (x0 : Operand) (dst : Option Tmp) (ty : TypeId) (pos : String) (af : Array Edge) (gd : Option (Nat × Bool)) (w : World) (r : Int) (h0 : ρ x0 = .int .i64 r) :
    Sem.run Try.prog (execOp ρ ⟨dst, .build 49 #[(0, x0)], ty, pos, af, gd⟩) w = .ok (.value (.agg (fresh r).cells.toArray)) w := by
  simp [execOp, Sem.run_bind, h0, run_build49]
theorem exec_buildSlice22 (ρ : Operand → Value) (x : Operand) (dst : Option Tmp) (ty : TypeId) (pos : String) (af : Array Edge) (gd : Option (Nat × Bool)) (w : World) (hx : (ρ x).cells.size = 73) :
    Sem.run Try.prog (execOp ρ ⟨dst, .buildSlice 22 1 #[(0, x)], ty, pos, af, gd⟩) w = .ok (.value (.slice (some ⟨w.heap.size, 0, none⟩) 1 1)) (w.alloc (.cells (ρ x).cells 49)) := by
  have := run_buildSlice_one w 22 49 73 (ρ x) Try.underlying22 (by kernel_rfl) hx (by omega) (by omega)
  simp [execOp, Sem.run_bind, this]
theorem Try.siz49 : (Try.prog.info? 49).map (·.size) = some 73 := by kernel_rfl
theorem Try.infz49 : (Try.prog.info? 49).map (fun i => (i.size, i.bytes, i.zero.map (·.cells.size))) = some (73, 192, some 73) := by kernel_rfl
theorem exec_load49 (ρ : Operand → Value) (xp : Operand) (dst : Option Tmp) (ty : TypeId) (pos : String) (af : Array Edge) (gd : Option (Nat × Bool)) (w : World)
    (hp : isPtr (ρ xp) = true) (hc : canRd w (ptrB (ρ xp)) (ptrO (ρ xp)) 73) :
    Sem.run Try.prog (execOp ρ ⟨dst, .load 49 xp, ty, pos, af, gd⟩) w = .ok (.value (.agg (rd w (ptrB (ρ xp)) (ptrO (ρ xp)) 73))) w := exec_load_of Try.siz49 Try.underlying49 rfl ρ xp dst ty pos af gd w hp hc

/-- A row of rounds, all of whose blocks lie from B on. -/
def R49 (w : World) (B : Nat) (v : Value) (hs : List HrD) : Prop := w.ownsRow B 49 73 v hs.length (hs.flatMap HrD.cells) ∧ ∀ x ∈ hs, x.fit

theorem wpList_append49 {w : World} {ops : Array Oper} {rest : List Oper} {o : Oper} {a : Act} {Q : Exit → Act → World → Prop} (hg : o.guard = none) (s x : Operand) (hop : o.op = Op.call { callee := Callee.builtin Builtin.append, args := #[s, x], argTypes := #[22, 22] })
    (B : Nat) (v : Value) (hs : List HrD) (w0 : World) (hev : a.eval s = v) (y : HrD) (hw : w = w0.alloc (.cells y.cells.toArray 49)) (hR : R49 w0 B v hs) (hy : y.fit) (hx : a.eval x = .slice (some ⟨w0.heap.size, 0, none⟩) 1 1) (hn : hs.length ≤ 3000) (hB : B ≤ w0.heap.size)
    (hK : ∀ a' c' w', R49 w' B (.slice a' (hs.length + 1) c') (hs ++ [y]) → Below B w0 w' → wpList Try.prog ops Q rest (a.put o.dst (.slice a' (hs.length + 1) c')) w') : wpList Try.prog ops Q (o :: rest) a w := by
  refine wpList_plain hg fun K hK' => ?_
  obtain ⟨i0, z0, hi0, hz0, hz1, hz2, hz3⟩ := info_ex Try.infz49
  have hb0 : Below w0.heap.size w0 w := by rw [hw]; exact (Below.refl _ _).alloc (Nat.le_refl _) _
  have hown : w.ownsRow B 49 73 v hs.length (hs.flatMap HrD.cells) := owns_grown (row := none) hR.1 ⟨hb0.os, hb0.tape, hb0.output, hb0.size, fun k hk _ => hb0.block k hk⟩ (.inl rfl)
  have hq : w.heap[w0.heap.size]? = some (.cells y.cells.toArray 49 (0, 0)) := by rw [hw]; exact heap_alloc_new _ _
  obtain ⟨v', w', q1, q2, q3, q4, q5⟩ := run_append_own_at (P := Try.prog) w B 22 o.type 49 i0 z0 73 192 Try.underlying22 hi0 hz0 hz1 hz2 hz3 (by omega) v hs.length _ hown ⟨w0.heap.size, 0, none⟩ 1 1 y.cells (by rw [HrD.cells_len hy.1])
    (fun j u hu => World.news_of_block (cs := y.cells.toArray) hq j u (by simpa using hu)) (HrD.one hy) (by unfold maxLen; omega) (by omega) (Nat.le_trans hB hb0.size)
  have e2 : hs.flatMap HrD.cells ++ y.cells = (hs ++ [y]).flatMap HrD.cells := by simp
  rw [e2] at q2
  have hform : ∃ a' c', v' = .slice a' (hs.length + 1) c' := by
    rcases q2.2 with ⟨h0, h1⟩ | ⟨g', cap', cur, hv, _⟩
    · omega
    · exact ⟨_, _, hv⟩
  obtain ⟨a', c', rfl⟩ := hform
  have hR' : R49 w' B (.slice a' (hs.length + 1) c') (hs ++ [y]) := ⟨by simpa using q2, fun x hx => by
    rcases List.mem_append.1 hx with hx | hx
    · exact hR.2 x hx
    · simp at hx; rw [hx]; exact hy⟩
  have hbel : Below B w0 w' := (hb0.mono hB).grown q3 (Nat.le_trans hB hb0.size) (fun k hk => (owns_block hown k hk).1)
  unfold Oper.wp
  simp [execOp, hop, resolve, invoke, builtin, hev, hx, q1, Result.andThen]
  exact hK' _ _ (hK a' c' w' hR' hbel)

/-- A store into one round of a row. -/
theorem R49.put {w : World} {B g n cap : Nat} {hs : List HrD} (h : R49 w B (.slice (some ⟨g, 0, none⟩) n cap) hs) (hn : n = hs.length) (i o : Nat) (y z : HrD) (hy : hs[i]? = some y) (cs : List Value) (hl : o + cs.length ≤ 73) (ho : overlay y.cells cs o = z.cells) (hz : z.fit) :
    R49 (w.setCells g (i * 73 + o) cs) B (.slice (some ⟨g, 0, none⟩) n cap) (hs.set i z) := by
  subst hn
  obtain ⟨e1, e2, e3⟩ := flat_split hs i y hy (fun x hx => (h.2 x hx).1) z
  have hi := (List.getElem?_eq_some_iff.1 hy).1
  refine ⟨?_, fun x hx => ?_⟩
  · have := owns_setCells cs (i * 73 + o) h.1 (by omega)
    rw [e1, ← e3, overlay_mid _ _ _ _ _ (by rw [HrD.cells_len (h.2 y (List.mem_of_getElem? hy)).1]; exact hl), ho, e3] at this
    rw [e2, List.length_set]
    exact this
  · rcases List.mem_or_eq_of_mem_set hx with hx | rfl
    · exact h.2 x hx
    · exact hz
theorem R49.at {w : World} {B g n cap : Nat} {hs : List HrD} (h : R49 w B (.slice (some ⟨g, 0, none⟩) n cap) hs) (hn : n = hs.length) {k : Nat} {x : HrD} (hx : hs[k]? = some x) : w.rangeAt g (k * 73) x.cells := fun j v hv => by
  subst hn
  have hk := (List.getElem?_eq_some_iff.1 hx).1
  have hxe : hs[k] = x := (List.getElem?_eq_some_iff.1 hx).2
  have hid : ∀ y ∈ hs, y.cells.length = 73 := fun y hy => HrD.cells_len (h.2 y hy).1
  have hj : j < 73 := by
    have := (List.getElem?_eq_some_iff.1 hv).1
    rw [hid x (List.mem_of_getElem? hx)] at this; exact this
  have hl := flat_len HrD.cells 73 hs hid
  have := flat_get HrD.cells 73 hs hid k j hk hj
  have hlt : k * 73 + j < (hs.flatMap HrD.cells).length := by rw [hl]; omega
  rw [h.1.cellAt (k * 73 + j) (by rw [← h.1.1]; exact hlt), this, hxe, hv]
theorem R49.below {w w' : World} {B : Nat} {v : Value} {hs : List HrD} (h : R49 w B v hs) (hb : Below w.heap.size w w') : R49 w' B v hs :=
  ⟨owns_grown (row := none) h.1 ⟨hb.os, hb.tape, hb.output, hb.size, fun k hk _ => hb.block k hk⟩ (.inl rfl), h.2⟩

/-- The first loop's state behind k rounds. -/
def FS (hs : List HrD) (r : Int) (p : Bool) (k : Nat) : List HrD × Bool := (hs.take k).foldl (stepI r) ([], p)
theorem FS_succ {hs : List HrD} {r : Int} {p : Bool} {k : Nat} {x : HrD} (hx : hs[k]? = some x) : FS hs r p (k + 1) = stepI r (FS hs r p k) x := by
  obtain ⟨hk, hxe⟩ := List.getElem?_eq_some_iff.1 hx
  unfold FS
  rw [List.take_succ_eq_append_getElem hk, hxe, List.foldl_append]
  rfl
theorem FS_len {hs : List HrD} {r : Int} {p : Bool} : ∀ k, (FS hs r p k).1.length ≤ 2 * k
  | 0 => by simp [FS]
  | k + 1 => by
    have ih := FS_len (hs := hs) (r := r) (p := p) k
    cases hx : hs[k]? with
    | none =>
      have e : FS hs r p (k + 1) = FS hs r p k := by
        unfold FS
        have := List.getElem?_eq_none_iff.1 hx
        rw [List.take_of_length_le (by omega), List.take_of_length_le (by omega)]
      rw [e]; omega
    | some x =>
      rw [FS_succ hx]
      unfold stepI
      simp only
      split <;> simp <;> omega

/-- The second loop's row behind i rounds: d are left ahead. -/
def GS (L : List HrD) (fin : HrD → HrD) (d i : Nat) : List HrD := L.take d ++ (((L.drop d).take i).map fin ++ (L.drop d).drop i)
theorem GS_zero (L : List HrD) (fin : HrD → HrD) (d : Nat) : GS L fin d 0 = L := by simp [GS]
theorem GS_len (L : List HrD) (fin : HrD → HrD) (d i : Nat) : (GS L fin d i).length = L.length := by simp [GS]; omega
theorem GS_get (L : List HrD) (fin : HrD → HrD) (d i : Nat) (hd : d ≤ L.length) (hi : d + i < L.length) : (GS L fin d i)[d + i]? = L[d + i]? := by
  unfold GS
  rw [List.getElem?_append_right (by simp; omega), List.getElem?_append_right (by simp; omega)]
  simp only [List.length_take, List.length_map, List.length_drop, List.getElem?_drop]
  congr 1; omega
theorem GS_succ (L : List HrD) (fin : HrD → HrD) (d i : Nat) (y : HrD) (hd : d ≤ L.length) (hy : L[d + i]? = some y) : (GS L fin d i).set (d + i) (fin y) = GS L fin d (i + 1) := by
  obtain ⟨hl, hye⟩ := List.getElem?_eq_some_iff.1 hy
  unfold GS
  have l1 : (L.take d).length = d := by rw [List.length_take]; omega
  have hdi : i < (L.drop d).length := by rw [List.length_drop]; omega
  have hde : (L.drop d)[i] = y := by rw [List.getElem_drop]; exact hye
  rw [List.set_append_right _ _ (by omega), l1, show d + i - d = i by omega]
  have l2 : (((L.drop d).take i).map fin).length = i := by rw [List.length_map, List.length_take]; omega
  rw [List.set_append_right _ _ (by omega), l2, Nat.sub_self, List.drop_eq_getElem_cons hdi, List.set_cons_zero, List.take_succ_eq_append_getElem hdi, hde]
  simp
theorem GS_all (L : List HrD) (fin : HrD → HrD) (d i : Nat) (hi : L.length ≤ d + i) : GS L fin d i = L.take d ++ (L.drop d).map fin := by
  unfold GS
  have e1 : (L.drop d).take i = L.drop d := List.take_of_length_le (by rw [List.length_drop]; omega)
  have e2 : (L.drop d).drop i = [] := List.drop_eq_nil_of_le (by rw [List.length_drop]; omega)
  rw [e1, e2]
  simp

theorem insM_eq (hs : List HrD) (r : Int) (p : Bool) : insM hs r p = if (FS hs r p hs.length).2 then (FS hs r p hs.length).1 else (FS hs r p hs.length).1 ++ [fresh r] := by
  unfold insM FS
  rw [List.take_of_length_le (Nat.le_refl _)]

/-- The end of a row, as a slice. -/
theorem R49_tail {w : World} {B g n cap : Nat} {P Q : List HrD} (h : R49 w B (.slice (some ⟨g, 0, none⟩) n cap) (P ++ Q)) (hn : n = (P ++ Q).length) (c' : Nat) (hq : Q.length ≤ 3000) : sliceAt w 73 (.slice (some ⟨g, P.length * 73, none⟩) Q.length c') Q.length (Q.flatMap HrD.cells) := by
  subst hn
  have hid : ∀ y ∈ P ++ Q, y.cells.length = 73 := fun y hy => HrD.cells_len (h.2 y hy).1
  have hlp : (P.flatMap HrD.cells).length = P.length * 73 := flat_len HrD.cells 73 P (fun y hy => hid y (List.mem_append_left _ hy))
  have hlq : (Q.flatMap HrD.cells).length = Q.length * 73 := flat_len HrD.cells 73 Q (fun y hy => hid y (List.mem_append_right _ hy))
  have hall := h.1.1
  refine ⟨_, _, rfl, hlq, by omega, .inr ⟨g, P.length * 73, rfl, fun j v hv => ?_⟩⟩
  have hj := (List.getElem?_eq_some_iff.1 hv).1
  rw [List.flatMap_append, List.length_append] at hall
  rw [h.1.cellAt (P.length * 73 + j) (by rw [← hall]; omega), List.flatMap_append, List.getElem?_append_right (by omega), hlp, show P.length * 73 + j - P.length * 73 = j by omega, hv]
theorem R49_all {w : World} {B n cap : Nat} {a : Option Addr} {L : List HrD} (h : R49 w B (.slice a n cap) L) (hn : n = L.length) (hq : L.length ≤ 3000) : sliceAt w 73 (.slice a n cap) L.length (L.flatMap HrD.cells) := by
  subst hn
  refine ⟨_, _, rfl, h.1.1, by omega, ?_⟩
  rcases h.1.2 with ⟨h0, h1⟩ | ⟨g, cap', cur, hv, _⟩
  · exact .inl h1
  · cases hv
    refine .inr ⟨g, 0, rfl, fun j v hv => ?_⟩
    have hj := (List.getElem?_eq_some_iff.1 hv).1
    rw [Nat.zero_add, h.1.cellAt j (by rw [← h.1.1]; exact hj), hv]
theorem set_same {L : List HrD} {k : Nat} {y : HrD} (h : L[k]? = some y) : L.set k y = L := by
  obtain ⟨hk, rfl⟩ := List.getElem?_eq_some_iff.1 h
  exact List.set_getElem_self hk
/-- The model's answer by the row: d rounds are left ahead. -/
theorem model_row (hs : List HrD) (r : Int) (o1 o2 : Option VoteD) (F : List HrD) (hF : insM hs r (o1.isNone && o2.isNone) = F) : modelL hs r o1 o2 = (F.drop (if 3 < F.length then F.length - 3 else 0)).map (finM r o1 o2) := by
  unfold modelL keep3
  rw [hF]
  split <;> simp

/-- What stands while a vote and its mark are laid into the round number k of a row. -/
structure Pair (W : World) (B g n cap off o1 o2 : Nat) (L : List HrD) (k j : Nat) (y : HrD) (x : VoteD) (u : Value) : Prop where
  th : W.drew.there g (off + o1) 35
  ce : (W.drew.setCells g (off + o1) x.cells).cell? ⟨g, off + o2, none⟩ = some u
  fr : (W.drew.setCells g (off + o1) x.cells).frozen? ⟨g, off + o2, none⟩ = false
  fin : R49 ((W.drew.setCells g (off + o1) x.cells).setCell ⟨g, off + o2, none⟩ (.bool true)) B (.slice (some ⟨g, 0, none⟩) n cap) (L.set k (y.put j true x))

theorem R49.pair0 {W : World} {B g n cap : Nat} {L : List HrD} (h : R49 W B (.slice (some ⟨g, 0, none⟩) n cap) L) (hn : n = L.length) (k off : Nat) (hoff : k * 73 = off) (y : HrD) (hy : L[k]? = some y) (x : VoteD) (hx : x.id.length = 32) (hsl : x.sl) :
    Pair W B g n cap off 1 71 L k 0 y x (.bool y.h0) := by
  subst hoff
  have hyf := h.2 y (List.mem_of_getElem? hy)
  have hl := VoteD.cells_len hx
  have hi := (List.getElem?_eq_some_iff.1 hy).1
  have f1 : ({ y with v0 := x } : HrD).fit := ⟨⟨hx, hyf.1.2⟩, hsl, hyf.2.2⟩
  have hD : R49 W.drew B (.slice (some ⟨g, 0, none⟩) n cap) L := ⟨h.1, h.2⟩
  have a1 := hD.put hn k 1 y { y with v0 := x } hy x.cells (by omega) (ov_vote1 y x hyf.1 hx) f1
  have hg1 : (L.set k { y with v0 := x })[k]? = some { y with v0 := x } := by simp [hi]
  have hn1 : n = (L.set k { y with v0 := x }).length := by simpa using hn
  have a2 := a1.put hn1 k 71 { y with v0 := x } { y with v0 := x, h0 := true } hg1 [.bool true] (by simp) (ov_has1 { y with v0 := x } true f1.1) f1
  rw [List.set_set] at a2
  have hown : W.drew.ownsRow B 49 73 (.slice (some ⟨g, 0, none⟩) n cap) n (L.flatMap HrD.cells) := by rw [hn]; have := h.1; rw [hn] at this; exact this
  have hown1 : (W.drew.setCells g (k * 73 + 1) x.cells).ownsRow B 49 73 (.slice (some ⟨g, 0, none⟩) n cap) n ((L.set k { y with v0 := x }).flatMap HrD.cells) := by rw [hn1]; have := a1.1; rw [hn1] at this; exact this
  refine ⟨owns_there hown _ _ (by omega), a1.at hn1 hg1 71 _ (HrD.cells_71 f1.1), hown1.frozenAt _, ?_⟩
  have e : y.put 0 true x = { y with v0 := x, h0 := true } := by unfold HrD.put; rw [if_neg (by decide)]
  rw [e]; exact a2

theorem R49.pair1 {W : World} {B g n cap : Nat} {L : List HrD} (h : R49 W B (.slice (some ⟨g, 0, none⟩) n cap) L) (hn : n = L.length) (k off : Nat) (hoff : k * 73 = off) (y : HrD) (hy : L[k]? = some y) (x : VoteD) (hx : x.id.length = 32) (hsl : x.sl) :
    Pair W B g n cap off 36 72 L k 1 y x (.bool y.h1) := by
  subst hoff
  have hyf := h.2 y (List.mem_of_getElem? hy)
  have hl := VoteD.cells_len hx
  have hi := (List.getElem?_eq_some_iff.1 hy).1
  have f1 : ({ y with v1 := x } : HrD).fit := ⟨⟨hyf.1.1, hx⟩, hyf.2.1, hsl⟩
  have hD : R49 W.drew B (.slice (some ⟨g, 0, none⟩) n cap) L := ⟨h.1, h.2⟩
  have a1 := hD.put hn k 36 y { y with v1 := x } hy x.cells (by omega) (ov_vote2 y x hyf.1 hx) f1
  have hg1 : (L.set k { y with v1 := x })[k]? = some { y with v1 := x } := by simp [hi]
  have hn1 : n = (L.set k { y with v1 := x }).length := by simpa using hn
  have a2 := a1.put hn1 k 72 { y with v1 := x } { y with v1 := x, h1 := true } hg1 [.bool true] (by simp) (ov_has2 { y with v1 := x } true f1.1) f1
  rw [List.set_set] at a2
  have hown : W.drew.ownsRow B 49 73 (.slice (some ⟨g, 0, none⟩) n cap) n (L.flatMap HrD.cells) := by rw [hn]; have := h.1; rw [hn] at this; exact this
  have hown1 : (W.drew.setCells g (k * 73 + 36) x.cells).ownsRow B 49 73 (.slice (some ⟨g, 0, none⟩) n cap) n ((L.set k { y with v1 := x }).flatMap HrD.cells) := by rw [hn1]; have := a1.1; rw [hn1] at this; exact this
  refine ⟨owns_there hown _ _ (by omega), a1.at hn1 hg1 72 _ (HrD.cells_72 f1.1), hown1.frozenAt _, ?_⟩
  have e : y.put 1 true x = { y with v1 := x, h1 := true } := by unfold HrD.put; rw [if_pos rfl]
  rw [e]; exact a2

end Go.Proofs.Qxb6604712a
