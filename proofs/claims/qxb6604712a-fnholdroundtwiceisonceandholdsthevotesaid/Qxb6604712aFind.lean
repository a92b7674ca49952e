/-
  Seat b6604712a: (*tally).find by sort.Search.
-/
import Derived.Test.Qxb6604712aHold
namespace Go.Proofs.Qxb6604712a
open Go.RowKit
set_option linter.unusedSimpArgs false
set_option linter.unusedVariables false

/-- The place where the vote of sender f stands or would stand. -/
def VCut (vs : List VoteD) (f : Int) (i : Nat) : Prop := i ≤ vs.length ∧ (∀ k x, k < i → vs[k]? = some x → x.frm < f) ∧ (∀ k x, i ≤ k → vs[k]? = some x → f ≤ x.frm)
def VGrows (vs : List VoteD) : Prop := ∀ k x y, vs[k]? = some x → vs[k + 1]? = some y → x.frm < y.frm
theorem VGrows.lt {hs : List VoteD} (h : VGrows hs) : ∀ (d k : Nat) (x y : VoteD), hs[k]? = some x → hs[k + d + 1]? = some y → x.frm < y.frm
  | 0, k, x, y, hx, hy => h k x y hx hy
  | d + 1, k, x, y, hx, hy => by
    have hl : k + d + 1 < hs.length := by have := (List.getElem?_eq_some_iff.1 hy).1; omega
    have hm := List.getElem?_eq_getElem hl
    exact Int.lt_trans (h.lt d k x _ hx hm) (h _ _ _ hm hy)
theorem VGrows.lt' {hs : List VoteD} (h : VGrows hs) {k m : Nat} {x y : VoteD} (hk : k < m) (hx : hs[k]? = some x) (hy : hs[m]? = some y) : x.frm < y.frm :=
  h.lt (m - k - 1) k x y hx (by rw [show k + (m - k - 1) + 1 = m by omega]; exact hy)
def vfound (vs : List VoteD) (f : Int) (i : Nat) : Bool := match vs[i]? with | some x => x.frm == f | none => false

/-- What find reads: the two boxes, the tally's slice, the votes. -/
structure FW (W : World) (b2 b3 gs o : Nat) (f : Int) (v : Value) (vs : List VoteD) : Prop where
  c2 : W.cell? ⟨b2, 0, none⟩ = some (.pointer (some ⟨gs, o, none⟩))
  c3 : W.cell? ⟨b3, 0, none⟩ = some (.int .i64 f)
  cv : W.cell? ⟨gs, o, none⟩ = some v
  own : W.ownsRow 0 88 35 v vs.length (vs.flatMap VoteD.cells)
theorem FW.below {W W' : World} {b2 b3 gs o : Nat} {f : Int} {v : Value} {vs : List VoteD} (h : FW W b2 b3 gs o f v vs) (hb : Below W.heap.size W W') : FW W' b2 b3 gs o f v vs :=
  ⟨cell_below h.c2 hb, cell_below h.c3 hb, cell_below h.cv hb, owns_grown (row := none) h.own ⟨hb.os, hb.tape, hb.output, hb.size, fun k hk _ => hb.block k hk⟩ (.inl rfl)⟩

set_option maxRecDepth 100000 in
set_option maxHeartbeats 1000000 in
theorem cl73 (b2 b3 gs o m : Nat) (f : Int) (v : Value) (vs : List VoteD) (x : VoteD) (w : World) (h : FW w b2 b3 gs o f v vs) (hid : ∀ x ∈ vs, x.id.length = 32) (hn : vs.length ≤ 1000000) (hx : vs[m]? = some x) :
    Calls Try.prog 73 #[.int .i64 m, .pointer (some ⟨b2, 0, none⟩), .pointer (some ⟨b3, 0, none⟩)] w fun e w' => e = .returned (.bool (decide (f ≤ x.frm))) ∧ Below w.heap.size w w' := by
  obtain ⟨c2, c3, cv, own⟩ := h
  obtain ⟨gv, cap, rfl, hr⟩ := row_at VoteD.cells own (fun y hy => VoteD.cells_len (hid y hy)) hx (by omega)
  have hc : w.cell? ⟨gv, m * 35, none⟩ = some (.int .i64 x.frm) := hr 0 _ (VoteD.cells_0 x)
  have hm : (m : Int) < (vs.length : Int) := by have := (List.getElem?_eq_some_iff.1 hx).1; omega
  clear hr own hx hid
  generalize vs.length = n at *
  go_enter Try.func73, Try.ntmps73
  go_wp2_with fail
  go_quiet (fail)
  go_wp2_with fail
  go_ret
  exact ⟨by simp, below_drewN _ _ _⟩

set_option maxRecDepth 100000 in
set_option maxHeartbeats 2000000 in
theorem search_any (b2 b3 gs o : Nat) (f : Int) (v : Value) (vs : List VoteD) (w : World) (h : FW w b2 b3 gs o f v vs) (hid : ∀ x ∈ vs, x.id.length = 32) (hn : vs.length ≤ 1000000) (hgr : VGrows vs) :
    Calls Try.prog 72 #[.int .i64 vs.length, .func (.func 73) #[] #[.pointer (some ⟨b2, 0, none⟩), .pointer (some ⟨b3, 0, none⟩)]] w fun e w' => ∃ i : Nat, e = .returned (.int .i64 i) ∧ VCut vs f i ∧ Below w.heap.size w w' := by
  have HO : Hid (FW w b2 b3 gs o f v vs) := h
  have HG : Hid (VGrows vs) := hgr
  clear h hgr
  generalize hn0 : vs.length = n at *
  go_enter Try.func72, Try.ntmps72
  go_wp2_with fail
  go_loopw [5, 6] (fun iv jv wr => ∃ i j : Nat, iv = .int .i64 i ∧ jv = .int .i64 j ∧ i ≤ j ∧ j ≤ n ∧ (∀ k x, k < i → vs[k]? = some x → x.frm < f) ∧ (∀ k x, j ≤ k → vs[k]? = some x → f ≤ x.frm) ∧ Below w.heap.size w wr) (fun iv jv _ => (intOf jv).toNat - (intOf iv).toNat)
  case atStart => exact ⟨0, n, rfl, rfl, Nat.zero_le _, Nat.le_refl _, fun k x hk => by omega, fun k x hk hx => by have := (List.getElem?_eq_some_iff.1 hx).1; omega, Below.refl _ _⟩
  case round =>
    obtain ⟨i, j, rfl, rfl, hij, hjn, hlo, hhi, hb⟩ := hrel
    have HL : Hid (∀ k x, k < i → vs[k]? = some x → x.frm < f) := hlo
    have HH : Hid (∀ k x, j ≤ k → vs[k]? = some x → f ≤ x.frm) := hhi
    clear hlo hhi
    by_cases hlt : i < j
    · have hlt' : (i : Int) < (j : Int) := by omega
      obtain ⟨m, hm0⟩ : ∃ m, m = (i + j) / 2 := ⟨_, rfl⟩
      have hmm : ((i : Int) + (j : Int)) / 2 = (m : Int) := by omega
      have him : i ≤ m := by omega
      have hmj : m < j := by omega
      clear hm0
      obtain ⟨x, hx⟩ : ∃ x, vs[m]? = some x := ⟨_, List.getElem?_eq_getElem (by omega)⟩
      have HX : Hid (vs[m]? = some x) := hx
      have hcl := cl73 b2 b3 gs o m f v vs x wr (HO.out.below hb) hid (by omega) hx
      clear hx
      go_wp2_with fail
      refine hcl.mono ?_
      rintro e w1 ⟨rfl, hb1⟩
      have hb2 : Below w.heap.size w w1 := below_then hb (Nat.le_refl _) hb1
      clear hb1 hcl
      by_cases hc : f ≤ x.frm
      · rw [decide_eq_true hc]
        go_wp2_with fail
        refine ⟨⟨i, m, rfl, rfl, him, by omega, HL.out, fun k y hk hy => ?_, hb2⟩, by simp [intOf]; omega⟩
        by_cases hkm : k = m
        · subst hkm
          have e := HX.out
          rw [hy] at e; cases e; exact hc
        · exact Int.le_of_lt (Int.lt_of_le_of_lt hc (HG.out.lt' (show m < k by omega) HX.out hy))
      · rw [decide_eq_false hc]
        go_wp2_with fail
        refine ⟨⟨m + 1, j, by simp, rfl, by omega, hjn, fun k y hk hy => ?_, HH.out, hb2⟩, by simp [intOf]; omega⟩
        by_cases hkm : k = m
        · subst hkm
          have e := HX.out
          rw [hy] at e; cases e; omega
        · exact Int.lt_trans (HG.out.lt' (show k < m by omega) hy HX.out) (by omega)
    · have hij' : i = j := by omega
      subst hij'
      go_wp2_with fail
      go_ret
      exact ⟨i, rfl, ⟨by omega, HL.out, HH.out⟩, hb⟩

set_option maxRecDepth 100000 in
set_option maxHeartbeats 2000000 in
theorem find_any (gs o : Nat) (f : Int) (v : Value) (vs : List VoteD) (w : World) (hv : w.cell? ⟨gs, o, none⟩ = some v) (hown : w.ownsRow 0 88 35 v vs.length (vs.flatMap VoteD.cells)) (hid : ∀ x ∈ vs, x.id.length = 32) (hn : vs.length ≤ 1000000) (hgr : VGrows vs) :
    Calls Try.prog 62 #[.pointer (some ⟨gs, o, none⟩), .int .i64 f] w fun e w' => ∃ i : Nat, e = .returned (.tuple #[.int .i64 i, .bool (vfound vs f i)]) ∧ VCut vs f i ∧ Below w.heap.size w w' := by
  obtain ⟨a, nn, cap, rfl⟩ := owns_form hown
  have hnn : nn = vs.length := by
    rcases hown.2 with ⟨h0, h1⟩ | ⟨g', cap', cur, hv, _⟩
    · cases h0; exact h1.symm
    · cases hv; rfl
  subst hnn
  obtain ⟨W, hW⟩ : ∃ W, W = (w.alloc (.cells #[.pointer (some ⟨gs, o, none⟩)] 121)).alloc (.cells #[.int .i64 f] 3) := ⟨_, rfl⟩
  have hb0 : Below w.heap.size w W := by rw [hW]; exact ((Below.refl _ _).alloc (Nat.le_refl _) _).alloc (by simp) _
  have hF : FW W w.heap.size (w.heap.size + 1) gs o f (.slice a vs.length cap) vs := by
    refine ⟨?_, ?_, cell_below hv hb0, owns_grown (row := none) hown ⟨hb0.os, hb0.tape, hb0.output, hb0.size, fun k hk _ => hb0.block k hk⟩ (.inl rfl)⟩
    · rw [hW, cell_of_block (cur := [.pointer (some ⟨gs, o, none⟩)]) (heap_alloc2_old _ _ _)]; rfl
    · rw [hW, cell_of_block (cur := [.int .i64 f]) (heap_alloc2_new _ _ _)]; rfl
  have hsr := search_any w.heap.size (w.heap.size + 1) gs o f (.slice a vs.length cap) vs W hF hid hn hgr
  have HF : Hid (FW W w.heap.size (w.heap.size + 1) gs o f (.slice a vs.length cap) vs) := hF
  obtain ⟨f2, f3, fv, _⟩ := hF
  have HW : Hid (W = (w.alloc (.cells #[.pointer (some ⟨gs, o, none⟩)] 121)).alloc (.cells #[.int .i64 f] 3)) := hW
  rw [hW] at f2 f3 fv
  clear hW hown hv
  go_enter Try.func62, Try.ntmps62
  go_wp2_with fail
  rw [← HW.out]
  refine hsr.mono ?_
  rintro e w1 ⟨i, rfl, hcut, hb1⟩
  have HF1 := HF.out.below hb1
  have hb2 : Below w.heap.size w w1 := below_then hb0 (Nat.le_refl _) hb1
  clear hsr HF HW f2 f3 fv hb1 hb0
  obtain ⟨c2, c3, cv, own⟩ := HF1
  have HC : Hid (VCut vs f i) := hcut
  have hil := hcut.1
  clear hcut
  cases hx : vs[i]? with
  | none =>
    have hfd : Hid (vfound vs f i = false) := by show _ = _; unfold vfound; rw [hx]
    have hin : decide (i < vs.length) = false := decide_eq_false (by have := List.getElem?_eq_none_iff.1 hx; omega)
    have hin2 : decide ((i : Int) < (vs.length : Int)) = false := decide_eq_false (by have := List.getElem?_eq_none_iff.1 hx; omega)
    clear hx own hil hgr hid
    generalize vs.length = n at *
    go_wp2_with fail
    go_quiet (fail)
    go_wp2_with fail
    go_ret2
    exact ⟨i, by rw [hfd.out]; rfl, HC.out, hb2.trans (below_drewN _ _ _)⟩
  | some x =>
    obtain ⟨gv, capv, hv, hr⟩ := row_at VoteD.cells own (fun y hy => VoteD.cells_len (hid y hy)) hx (by omega)
    cases hv
    have hc : w1.cell? ⟨gv, i * 35, none⟩ = some (.int .i64 x.frm) := hr 0 _ (VoteD.cells_0 x)
    have hin : (i : Int) < (vs.length : Int) := by have := (List.getElem?_eq_some_iff.1 hx).1; omega
    have hfd : Hid (vfound vs f i = (x.frm == f)) := by show _ = _; unfold vfound; rw [hx]
    clear hx own hil hgr hid hr
    generalize vs.length = n at *
    go_wp2_with fail
    go_quiet (fail)
    go_wp2_with fail
    go_ret2
    exact ⟨i, by rw [hfd.out]; rfl, HC.out, hb2.trans (below_drewN _ _ _)⟩
end Go.Proofs.Qxb6604712a
