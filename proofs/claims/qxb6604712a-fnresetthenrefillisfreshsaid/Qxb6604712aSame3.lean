/-
  Seat b6604712a: sameState.
-/
import Derived.Test.Qxb6604712aSame2
namespace Go.Proofs.Qxb6604712a
open Go.RowKit
set_option linter.unusedSimpArgs false
set_option linter.unusedVariables false
attribute [local go_sem ↓] exec_load53 exec_store53
attribute [local go_sem] ptrB ptrO isPtr

set_option maxRecDepth 100000 in
set_option maxHeartbeats 4000000 in
theorem sameState_any (g1 g2 : Nat) (P1 P2 : Nat → Prop) (a1 a2 : StD) (x1 x2 : Option Addr) (d1 d2 : Option Addr) (l1 l2 c1 c2 : Nat) (id : List Int) (hid : id.length = 32) (vr : Int) (b1 b2 b3 b4 b5 : Bool) (bv bg : List Int) (w : World) (h1 : IsS w P1 g1 a1) (h2 : IsS w P2 g2 a2)
    (hr : a2.round = a1.round) (hx1 : a1.prop = .pointer x1) (hx2 : a2.prop = .pointer x2) (hx : x2.isNone = x1.isNone) (hh1 : a1.held = propCells (.slice d1 l1 c1) id vr (.slice d2 l2 c2) b1 b2 b3 b4 b5) (hh2 : a2.held = propCells (.slice d1 l1 c1) id vr (.slice d2 l2 c2) b1 b2 b3 b4 b5)
    (hbv : bytesAt w (.slice d1 l1 c1) bv) (hbg : bytesAt w (.slice d2 l2 c2) bg)
    (hv : ∀ st, st = 1 ∨ st = 2 → a2.vs st = a1.vs st ∧ a2.ps st = a1.ps st ∧ a2.tot st = a1.tot st ∧ (∀ x ∈ a1.vs st, x.ok w) ∧ (a1.vs st).length ≤ 1048576 ∧ (a1.ps st).length ≤ 1048576 ∧ (∀ x ∈ a1.ps st, x.id.length = 32))
    (hz1 : ∀ k (hk : k < a1.ws.length), a1.ws[k] = 0) (hz2 : a2.ws = []) (hl1 : a1.ws.length ≤ 1048576) (hsp : a2.sp = a1.sp) :
    Calls Try.prog 36 #[.pointer (some ⟨g1, 0, none⟩), .pointer (some ⟨g2, 0, none⟩)] w fun e w' => e = .returned (.bool true) ∧ Below w.heap.size w w' := by
  have hth := there_new53
  have hgu := guard53
  have hei := eqIds53 id hid
  have hone := oneAll_ids id
  have HR : Hid (a2.round = a1.round) := hr
  have HX1 : Hid (a1.prop = .pointer x1) := hx1
  have HX2 : Hid (a2.prop = .pointer x2) := hx2
  have HX : Hid (x2.isNone = x1.isNone) := hx
  have HH1 : Hid (a1.held = propCells (.slice d1 l1 c1) id vr (.slice d2 l2 c2) b1 b2 b3 b4 b5) := hh1
  have HH2 : Hid (a2.held = propCells (.slice d1 l1 c1) id vr (.slice d2 l2 c2) b1 b2 b3 b4 b5) := hh2
  have HZ2 : Hid (a2.ws = []) := hz2
  have HSP : Hid (a2.sp = a1.sp) := hsp
  have HZ1 : Hid (∀ k (hk : k < a1.ws.length), a1.ws[k] = 0) := hz1
  have HV : Hid (∀ st, st = 1 ∨ st = 2 → a2.vs st = a1.vs st ∧ a2.ps st = a1.ps st ∧ a2.tot st = a1.tot st ∧ (∀ x ∈ a1.vs st, x.ok w) ∧ (a1.vs st).length ≤ 1048576 ∧ (a1.ps st).length ≤ 1048576 ∧ (∀ x ∈ a1.ps st, x.id.length = 32)) := hv
  clear hr hx1 hx2 hx hh1 hh2 hz2 hsp hz1 hv
  go_enter Try.func36, Try.ntmps36
  go_wp2_with fail
  refine (round_any g1 P1 a1 w h1).mono ?_
  rintro e w ⟨rfl, rfl⟩
  go_wp2_with fail
  refine (round_any g2 P2 a2 _ h2).mono ?_
  rintro e w ⟨rfl, rfl⟩
  rw [HR.out]
  go_wp2_with fail
  refine (propNil_any g1 P1 a1 x1 HX1.out _ h1).mono ?_
  rintro e w ⟨rfl, rfl⟩
  go_wp2_with fail
  refine (propNil_any g2 P2 a2 x2 HX2.out _ h2).mono ?_
  rintro e w ⟨rfl, rfl⟩
  rw [HX.out]
  go_wp2_with fail
  refine (held_any g1 P1 a1 d1 d2 l1 l2 c1 c2 id hid vr b1 b2 b3 b4 b5 _ h1 HH1.out).mono ?_
  rintro e w1 ⟨rfl, hb1⟩
  go_wp2_with fail
  generalize hW2 : World.setCells _ w1.heap.size 0 _ = W2
  obtain ⟨r1, bb1⟩ : W2.rangeAt w1.heap.size 0 (id.map (Value.int .u8)) ∧ Below w1.heap.size w1 W2 := by rw [← hW2]; exact id_new w1 _ (by simp) id hid
  have hbW2 : Below w.heap.size w W2 := below_then hb1 (Nat.le_refl _) bb1
  clear hW2
  refine (held_any g2 P2 a2 d1 d2 l1 l2 c1 c2 id hid vr b1 b2 b3 b4 b5 _ (h2.below hbW2) HH2.out).mono ?_
  rintro e w2 ⟨rfl, hb2⟩
  go_wp2_with fail
  generalize hW3 : World.setCells _ w2.heap.size 0 _ = W3
  obtain ⟨r2, bb3⟩ : W3.rangeAt w2.heap.size 0 (id.map (Value.int .u8)) ∧ Below w2.heap.size w2 W3 := by rw [← hW3]; exact id_new w2 _ (by simp) id hid
  have r1' : W3.rangeAt w1.heap.size 0 (id.map (Value.int .u8)) := rangeAt_below (rangeAt_below r1 hb2) bb3
  have hbW3 : Below w.heap.size w W3 := below_then (below_then hbW2 (Nat.le_refl _) hb2) (Nat.le_refl _) bb3
  clear hW3
  refine (bytesSame_same _ bv _ (hbv.below hbW3)).mono ?_
  rintro e w4 ⟨rfl, m4, rfl⟩
  have hcr1 : canRd (W3.drewN m4) w1.heap.size 0 32 := canRd_of_range (w := W3.drewN m4) r1' (by simp [hid])
  have hrd1 : rd (W3.drewN m4) w1.heap.size 0 32 = (id.map (Value.int .u8)).toArray := rd_of_range (w := W3.drewN m4) r1' (by simp [hid])
  have hcr2 : canRd (W3.drewN m4) w2.heap.size 0 32 := canRd_of_range (w := W3.drewN m4) r2 (by simp [hid])
  have hrd2 : rd (W3.drewN m4) w2.heap.size 0 32 = (id.map (Value.int .u8)).toArray := rd_of_range (w := W3.drewN m4) r2 (by simp [hid])
  go_wp2_with fail
  refine (bytesSame_same _ bg _ (hbg.below (hbW3.trans (below_drewN _ _ _)))).mono ?_
  rintro e w4 ⟨rfl, m5, rfl⟩
  clear hcr1 hcr2 hrd1 hrd2
  go_wp2_with fail
  have hbL : Below w.heap.size w (W3.drewN (m4 + m5)) := hbW3.trans (below_drewN _ _ _)
  clear hbW3 hbW2 r1 r1' r2 bb1 bb3 hb1 hb2
  go_loopw [23] (fun i wr => ∃ k : Nat, k ≤ 2 ∧ i = .int .i64 k ∧ Below w.heap.size w wr) (fun i _ => 2 - (intOf i).toNat)
  case atStart => exact ⟨0, by omega, rfl, hbL⟩
  case round =>
    clear hbL
    obtain ⟨k, hk, rfl, hb⟩ := hrel
    by_cases hlt : k < 2
    · have hst : (if k = 1 then (2 : Int) else 1) = 1 ∨ (if k = 1 then (2 : Int) else 1) = 2 := by split <;> simp
      obtain ⟨st, hstk⟩ : ∃ st : Int, (if k = 1 then (2 : Int) else 1) = st := ⟨_, rfl⟩
      rw [hstk] at hst
      obtain ⟨q1, q2, q3, q4, q5, q6, q7⟩ := HV.out st hst
      have HT := tallySame_any g1 g2 st hst P1 P2 a1 a2 wr (h1.below hb) (h2.below hb) q1 q2 q3 (fun x hx => (q4 x hx).below hb) q5 q6 q7
      have HT' : Hid (Calls Try.prog 56 #[.pointer (some ⟨g1, 0, none⟩), .pointer (some ⟨g2, 0, none⟩), .int .i8 st] wr fun e w' => e = .returned (.bool true) ∧ Below wr.heap.size wr w') := HT
      have HST : Hid ((if k = 1 then (2 : Int) else 1) = st) := hstk
      clear HT q1 q2 q3 q4 q5 q6 q7 hstk
      go_wp2_with fail
      refine (stepOf_any k hlt _).mono ?_
      rintro e wr ⟨rfl, rfl⟩
      rw [HST.out]
      go_wp2_with fail
      refine HT'.out.mono ?_
      rintro e w5 ⟨rfl, hb5⟩
      have hb6 := below_then hb (Nat.le_refl _) hb5
      go_wp2
      go_roundw
      case rel => exact ⟨k + 1, by omega, by go_num, hb6⟩
      case measure => simp [intOf]; omega
    · go_wp2_with fail
      refine (sendersSame_any g1 g2 P1 P2 a1 a2 _ (h1.below hb) (h2.below hb) HZ1.out HZ2.out hl1).mono ?_
      rintro e wr ⟨rfl, rfl⟩
      go_wp2_with fail
      refine (sp_any g1 P1 a1 _ (h1.below hb)).mono ?_
      rintro e wr ⟨rfl, rfl⟩
      go_wp2_with fail
      refine (sp_any g2 P2 a2 _ (h2.below hb)).mono ?_
      rintro e wr ⟨rfl, rfl⟩
      rw [HSP.out]
      go_wp2
      go_ret
      exact ⟨by simp, hb⟩

end Go.Proofs.Qxb6604712a
