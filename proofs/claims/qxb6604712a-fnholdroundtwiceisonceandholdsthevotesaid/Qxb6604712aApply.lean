/-
  Seat b6604712a: addVotes.
-/
import Derived.Test.Qxb6604712aReset2
import Derived.Test.Qxb6604712aClone5
import Derived.Deep.RegionHeld3
namespace Go.Proofs.Qxb6604712a
open Go.RowKit
set_option linter.unusedSimpArgs false
set_option linter.unusedVariables false

theorem Is.drew {w : World} {P : Nat → Prop} {g : Nat} {a : StD} {pv pp cv cp sn : Value} (h : Is w P g a pv pp cv cp sn) : Is w.drew P g a pv pp cv cp sn :=
  ⟨h.blk, h.pl, h.pg, h.hheld, h.r1, h.r2, h.r3, h.r4, h.r5, h.p1, h.p2, h.p3, h.p4, h.p5, h.s1, h.s2, h.i1, h.i2, h.i3, h.i4⟩
theorem IsS.drew {w : World} {P : Nat → Prop} {g : Nat} {a : StD} (h : IsS w P g a) : IsS w.drew P g a := by
  obtain ⟨pv, pp, cv, cp, sn, h⟩ := h
  exact ⟨pv, pp, cv, cp, sn, h.drew⟩
theorem Steps.drew {P : Nat → Prop} {w w' : World} (h : Steps P w w') : Steps P w w'.drew := ⟨h.os, h.tape, h.output, h.size, h.keep⟩
theorem Steps.cell {P : Nat → Prop} {w w' : World} (h : Steps P w w') {a : Addr} {v : Value} (hp : P a.block) (hc : w.cell? a = some v) : w'.cell? a = some v := (World.cell?_of_block (w := w) (h.keep a.block hp)).trans hc
theorem Steps.range {P : Nat → Prop} {w w' : World} (h : Steps P w w') {b o : Nat} {cs : List Value} (hp : P b) (hc : w.rangeAt b o cs) : w'.rangeAt b o cs := fun j v hv => h.cell hp (hc j v hv)

def StD.addVs (a : StD) (st : Int) (xs : List VoteD) : StD := if st = 2 then { a with vs2 := a.vs2 ++ xs } else { a with vs1 := a.vs1 ++ xs }
def StD.addPs (a : StD) (st : Int) (xs : List PowD) : StD := if st = 2 then { a with ps2 := a.ps2 ++ xs } else { a with ps1 := a.ps1 ++ xs }
theorem addVs_nil (a : StD) (st : Int) : a.addVs st [] = a := by unfold StD.addVs; split <;> simp
theorem addPs_nil (a : StD) (st : Int) : a.addPs st [] = a := by unfold StD.addPs; split <;> simp
theorem addVs_snoc (a : StD) (st : Int) (xs : List VoteD) (x : VoteD) : (a.addVs st xs).addV st x = a.addVs st (xs ++ [x]) := by
  unfold StD.addVs StD.addV; split <;> simp
theorem addPs_snoc (a : StD) (st : Int) (xs : List PowD) (x : PowD) : (a.addPs st xs).addP st x = a.addPs st (xs ++ [x]) := by
  unfold StD.addPs StD.addP; split <;> simp
theorem addVs_vs (a : StD) (st : Int) (xs : List VoteD) : (a.addVs st xs).vs st = a.vs st ++ xs := by
  unfold StD.addVs StD.vs; split <;> simp_all
theorem addPs_ps (a : StD) (st : Int) (xs : List PowD) : (a.addPs st xs).ps st = a.ps st ++ xs := by
  unfold StD.addPs StD.ps; split <;> simp_all

set_option maxRecDepth 100000 in
set_option maxHeartbeats 2000000 in
theorem addVotes_is (g : Nat) (st : Int) (hst : st = 1 ∨ st = 2) (v : Value) (vs : List VoteD) (P : Nat → Prop) (a : StD) (w0 w : World) (hv : votesAt w0 v vs) (hP : ∀ k, k < w0.heap.size → P k) (hb : Below w0.heap.size w0 w) (h : IsS w P g a) (hn : (a.vs st).length + vs.length ≤ 1000000) :
    Calls Try.prog 38 #[.pointer (some ⟨g, 0, none⟩), .int .i8 st, v] w fun e w' => e = .returned (.tuple #[]) ∧ IsS w' P g (a.addVs st vs) ∧ Steps P w w' := by
  have hv0 := hv
  obtain ⟨va, cap, rfl, hl, hm, hc⟩ := hv.1
  generalize hlen : vs.length = len at *
  clear hl hc
  go_enter Try.func38, Try.ntmps38
  go_wp2
  go_loopw [6] (fun i wr => ∃ k : Nat, k ≤ len ∧ i = .int .i64 k ∧ IsS wr P g (a.addVs st (vs.take k)) ∧ Steps P w wr) (fun i _ => len - (intOf i).toNat)
  case atStart => exact ⟨0, Nat.zero_le _, rfl, by rw [List.take_zero, addVs_nil]; exact h, Steps.refl _ _⟩
  case round =>
    obtain ⟨k, hk, rfl, hI, hS⟩ := hrel
    by_cases hlt : k < len
    · obtain ⟨b, o, x, hab, hx, hok, hr⟩ := hv0.cellsAt k hlt
      cases hab
      obtain ⟨f, id, e, s⟩ := x
      obtain ⟨hid, ⟨bs1, hb1⟩, ⟨bs2, hb2⟩⟩ := hok
      obtain ⟨e1, n1, q1, rfl⟩ := hb1.form
      obtain ⟨e2, n2, q2, rfl⟩ := hb2.form
      have hbl : P b := hP b (World.block_lt_of_cell? w0 ⟨b, o + k * 35 + 0, none⟩ (hr 0 _ (VoteD.cells_0 _)))
      have hr1 : wr.rangeAt b (o + k * 35) (VoteD.mk f id (.slice e1 n1 q1) (.slice e2 n2 q2)).cells := hS.range hbl (rangeAt_below hr hb)
      have c0 : wr.cell? ⟨b, o + k * 35, none⟩ = some (.int .i64 f) := by have := hr1 0 _ (VoteD.cells_0 _); simpa using this
      have c33 := hr1 33 _ (VoteD.cells_33 (x := ⟨f, id, .slice e1 n1 q1, .slice e2 n2 q2⟩) hid)
      have c34 := hr1 34 _ (VoteD.cells_34 (x := ⟨f, id, .slice e1 n1 q1, .slice e2 n2 q2⟩) hid)
      have cid : wr.rangeAt b (o + k * 35 + 1) (id.map (Value.int .u8)) := fun j u hu => by
        have := hr1 (1 + j) u (by
          have hj := (List.getElem?_eq_some_iff.1 hu).1
          rw [VoteD.cells, Nat.add_comm 1 j, List.getElem?_cons_succ, List.getElem?_append_left hj]
          exact hu)
        rw [← Nat.add_assoc] at this; exact this
      have hu40 := Try.underlying40
      have hi40 : (Try.prog.info? 40).map (·.size) = some (id.map (Value.int .u8)).length := by rw [Try.size40]; simp [hid]
      have hlt' : (k : Int) < (len : Int) := by omega
      have hk0 : (0 : Int) ≤ (k : Int) := by omega
      have HX : Hid (vs[k]? = some ⟨f, id, .slice e1 n1 q1, .slice e2 n2 q2⟩) := hx
      have HI : Hid (IsS wr P g (a.addVs st (vs.take k))) := hI
      have hnk : ((a.addVs st (vs.take k)).vs st).length ≤ 1000000 := by rw [addVs_vs]; simp; omega
      clear hx hI hr hr1 h hb1 hb2 hv hv0
      go_wp2
      go_region_held3 (fun w' => w'.cell? ⟨b, o + k * 35, none⟩ = some (.int .i64 f) ∧ w'.rangeAt b (o + k * 35 + 1) (id.map (Value.int .u8)) ∧ w'.cell? ⟨b, o + k * 35 + 33, none⟩ = some (.slice e1 n1 q1) ∧ w'.cell? ⟨b, o + k * 35 + 34, none⟩ = some (.slice e2 n2 q2))
        (first | exact ⟨c0, cid, c33, c34⟩ | exact ⟨hS1.cell hbl c0, hS1.range hbl cid, hS1.cell hbl c33, hS1.cell hbl c34⟩ | fail)
        (first | (go_at_call 60; refine (addVote_is g st hst f id hid e1 e2 n1 n2 q1 q2 P _ _ HI.out.drew hnk).mono ?_; rintro e w1 ⟨rfl, hI1, hS1⟩))
      have hfin : IsS w1 P g (a.addVs st (vs.take (k + 1))) := by
        have hk' : k < vs.length := by omega
        have hx' : vs[k] = ⟨f, id, .slice e1 n1 q1, .slice e2 n2 q2⟩ := by have := HX.out; rw [List.getElem?_eq_getElem hk'] at this; exact Option.some.inj this
        rw [addVs_snoc] at hI1
        rw [List.take_succ_eq_append_getElem hk', hx']; exact hI1
      have hS2 : Steps P w w1 := hS.drew.trans hS1
      clear hI1 hS1
      go_wp2
      go_roundw
      case rel => exact ⟨k + 1, by omega, by go_num, hfin, hS2⟩
      case measure => simp [intOf]; omega
    · have hke : k = len := by omega
      subst hke
      go_wp2
      go_end0
      refine ⟨rfl, ?_, hS⟩
      rw [List.take_of_length_le (by omega)] at hI; exact hI

end Go.Proofs.Qxb6604712a
