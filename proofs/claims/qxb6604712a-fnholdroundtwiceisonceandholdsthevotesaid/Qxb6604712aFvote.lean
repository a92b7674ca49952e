/-
  Seat b6604712a: findVote.
-/
import Derived.Test.Qxb6604712aCheld
namespace Go.Proofs.Qxb6604712a
open Go.RowKit
set_option linter.unusedSimpArgs false
set_option linter.unusedVariables false
attribute [local go_sem ↓] exec_load43 exec_store43
attribute [local go_sem] ptrB ptrO isPtr

theorem run_build43z (w : World) : (Instr.build 43 #[]).run Try.prog w = .ok (.agg zeroV.cells.toArray) w := by kernel_rfl
theorem exec_build43z (ρ : Operand → Value) (dst : Option Tmp) (ty : TypeId) (pos : String) (af : Array Edge) (gd : Option (Nat × Bool)) (w : World) :
    Sem.run Try.prog (execOp ρ ⟨dst, .build 43 #[], ty, pos, af, gd⟩) w = .ok (.value (.agg zeroV.cells.toArray)) w := by
  simp [execOp, Sem.run_bind, run_build43z]
attribute [local go_sem ↓] exec_build43z

/-- The vote that was found, or a vote of nothing. -/
def orZero : Option VoteD → VoteD
  | some x => x
  | none => zeroV

theorem findV_take_succ (vs : List VoteD) (f : Int) (k : Nat) (x : VoteD) (hx : vs[k]? = some x) (h : findV (vs.take k) f = none) (hf : x.frm ≠ f) : findV (vs.take (k + 1)) f = none := by
  obtain ⟨hk, hxe⟩ := List.getElem?_eq_some_iff.1 hx
  unfold findV at *
  rw [List.take_succ_eq_append_getElem hk, List.find?_append, h, hxe]
  simp [hf]
theorem findV_hit (vs : List VoteD) (f : Int) (k : Nat) (x : VoteD) (hx : vs[k]? = some x) (h : findV (vs.take k) f = none) (hf : x.frm = f) : findV vs f = some x := by
  obtain ⟨hk, hxe⟩ := List.getElem?_eq_some_iff.1 hx
  have e : vs = vs.take k ++ x :: vs.drop (k + 1) := by rw [← hxe, ← List.drop_eq_getElem_cons hk, List.take_append_drop]
  unfold findV at *
  rw [e, List.find?_append, h]
  simp [hf]

set_option maxRecDepth 100000 in
set_option maxHeartbeats 2000000 in
theorem findVote_any (v : Value) (vs : List VoteD) (f : Int) (w0 w : World) (h : votesAt w0 v vs) (hb0 : Below w0.heap.size w0 w) (hn : vs.length ≤ 1000000) :
    Calls Try.prog 21 #[v, .int .i64 f] w fun e w' => e = .returned (.tuple #[.agg (orZero (findV vs f)).cells.toArray, .bool (findV vs f).isSome]) ∧ Below w.heap.size w w' := by
  obtain ⟨a, cap, rfl, _, _, _⟩ := h.1
  have HH : Hid (votesAt w0 (.slice a vs.length cap) vs) := h
  have HB : Hid (Below w0.heap.size w0 w) := hb0
  clear h hb0
  generalize hlen : vs.length = n at *
  have HLN : Hid (vs.length = n) := hlen
  clear hlen
  go_enter Try.func21, Try.ntmps21
  go_wp2_with fail
  generalize hW : w.alloc _ = W
  have hbW : Below w.heap.size w W := by rw [← hW]; exact (Below.refl _ _).alloc (Nat.le_refl _) _
  have hth : W.there w.heap.size 0 35 := by
    rw [← hW]
    exact there_of_block (heap_alloc_new _ _) 0 35 (by simp)
  clear hW
  go_loopw [6] (fun iv wr => ∃ i : Nat, i ≤ n ∧ iv = .int .i64 i ∧ findV (vs.take i) f = none ∧ W = wr) (fun iv _ => n - (intOf iv).toNat)
  case atStart => exact ⟨0, Nat.zero_le _, rfl, by simp [findV], rfl⟩
  case round =>
    obtain ⟨i, hi, rfl, hnone, rfl⟩ := hrel
    have HNo : Hid (findV (vs.take i) f = none) := hnone
    clear hnone
    by_cases hlt : i < n
    · obtain ⟨b, o, x, hab, hx, hok, hr⟩ := HH.out.cellsAt i hlt
      cases hab
      have hrW : W.rangeAt b (o + i * 35) x.cells := rangeAt_below hr (HB.out.trans (hbW.mono HB.out.size))
      have c0 : W.cell? ⟨b, o + i * 35, none⟩ = some (.int .i64 x.frm) := by have := hrW 0 _ (VoteD.cells_0 x); simpa using this
      have hcl := VoteD.cells_len hok.1
      have hrd := rd_of_range hrW hcl
      have hcr := canRd_of_range hrW hcl
      have hone := oneAll_vote x hok.sl.1 hok.sl.2
      have hlt' : (i : Int) < (n : Int) := by omega
      have HX : Hid (vs[i]? = some x) := hx
      have HRS : Hid ((W.setCells w.heap.size 0 x.cells).rangeAt w.heap.size 0 x.cells) := World.rangeAt_setCells_same _ _ _ _ (by rw [hcl]; exact hth)
      clear hx hr hrW hok
      by_cases hf : x.frm = f
      · have HFD : Hid (findV vs f = some x) := findV_hit vs f i x HX.out HNo.out hf
        go_wp2_with fail
        refine bodyPost_ret (results2 Try.results21 _ _ w.heap.size 0 x.cells _ rfl HRS.out Try.underlying43 rfl (by rw [Try.size43, hcl])) rfl ?_
        refine ⟨by rw [HFD.out]; rfl, below_setCells' hbW (Nat.le_refl _) _ _⟩
      · have HFN : Hid (findV (vs.take (i + 1)) f = none) := findV_take_succ vs f i x HX.out HNo.out hf
        have hfb : (x.frm == f) = false := by simpa using hf
        go_wp2_with fail
        go_roundw
        case rel => exact ⟨i + 1, by omega, by go_num, HFN.out, trivial⟩
        case measure => simp [intOf]; omega
    · have HFN : Hid (findV vs f = none) := by
        have := HNo.out
        rw [List.take_of_length_le (by rw [HLN.out]; omega)] at this; exact this
      have hcl : zeroV.cells.length = 35 := VoteD.cells_len (by simp [zeroV])
      have hone := oneAll_vote zeroV rfl rfl
      have HRS : Hid ((W.setCells w.heap.size 0 zeroV.cells).rangeAt w.heap.size 0 zeroV.cells) := World.rangeAt_setCells_same _ _ _ _ (by rw [hcl]; exact hth)
      go_wp2_with fail
      refine bodyPost_ret (results2 Try.results21 _ _ w.heap.size 0 zeroV.cells _ rfl HRS.out Try.underlying43 rfl (by rw [Try.size43, hcl])) rfl ?_
      refine ⟨by rw [HFN.out]; rfl, below_setCells' hbW (Nat.le_refl _) _ _⟩
end Go.Proofs.Qxb6604712a
