/-
  Seat b6604712a: aheadIs.
-/
import Derived.Test.Qxb6604712aRdr
namespace Go.Proofs.Qxb6604712a
open Go.RowKit
set_option linter.unusedSimpArgs false
set_option linter.unusedVariables false
attribute [local go_sem ↓] exec_load43 exec_store53 exec_load53
attribute [local go_sem] ptrB ptrO isPtr

set_option maxRecDepth 100000 in
set_option maxHeartbeats 8000000 in
/-- The held rounds are what they are. -/
theorem aheadIs_any (B g : Nat) (v vw : Value) (hs : List HrD) (w : World) (h : AH w B g v hs) (hw : heldAt w vw hs) (hn : hs.length ≤ 900) :
    Calls Try.prog 16 #[.pointer (some ⟨g, 0, none⟩), vw] w fun e w' => e = .returned (.bool true) ∧ Below w.heap.size w w' := by
  have hdl := dlen_any B g v hs w h
  have HA : Hid (AH w B g v hs) := h
  obtain ⟨a, cap, rfl, _, _, _⟩ := hw.1
  have HH : Hid (heldAt w (.slice a hs.length cap) hs) := hw
  clear h hw
  obtain ⟨n, hlen⟩ : ∃ n, n = hs.length := ⟨_, rfl⟩
  rw [← hlen] at hdl hn HH ⊢
  have HLN : Hid (n = hs.length) := hlen
  clear hlen
  go_enter Try.func16, Try.ntmps16
  go_wp2_with fail
  refine hdl.mono ?_
  rintro e w ⟨rfl, rfl⟩
  clear hdl
  go_wp2_with fail
  go_loopw [5] (fun iv wr => ∃ i : Nat, i ≤ n ∧ iv = .int .i64 i ∧ Below w.heap.size w wr) (fun iv _ => n - (intOf iv).toNat)
  case atStart => exact ⟨0, Nat.zero_le _, rfl, Below.refl _ _⟩
  case round =>
    obtain ⟨i, hi, rfl, hb⟩ := hrel
    by_cases hlt : i < n
    · obtain ⟨b, o, x, hab, hx, hok, hr⟩ := HH.out.cellsAt i hlt
      cases hab
      have HX : Hid (hs[i]? = some x) := hx
      have HR : Hid (w.rangeAt b (o + i * 73) x.cells) := hr
      have HO : Hid (x.ok w) := hok
      have hlt' : (i : Int) < (n : Int) := by omega
      have c0 : wr.cell? ⟨b, o + i * 73, none⟩ = some (.int .i64 x.rnd) := by have := rangeAt_below hr hb 0 _ (HrD.cells_0 x); simpa using this
      have hAd : Hid (AH wr.drew B g v hs) := HA.out.below (hb.trans (below_drewN wr _ 1))
      clear hx hr hok
      go_wp2_with fail
      go_region_held3 (fun w' => w'.cell? ⟨b, o + i * 73, none⟩ = some (.int .i64 x.rnd))
        (first | exact c0 | fail)
        (first | (go_at_call 23; refine (dround_any B g i v hs x _ hAd.out HX.out).mono ?_; rintro e w5 ⟨rfl, rfl⟩))
      have hbd : Below w.heap.size w wr.drew := hb.trans (below_drewN wr _ 1)
      clear c0
      go_wp2_with fail
      go_loopw [6] (fun jv wq => ∃ j : Nat, j ≤ 2 ∧ jv = .int .i64 j ∧ Below w.heap.size w wq) (fun jv _ => 2 - (intOf jv).toNat)
      case atStart => exact ⟨0, by omega, rfl, hbd⟩
      case round =>
        obtain ⟨j, hj, rfl, hbq⟩ := hrel
        clear hbd hAd hb
        by_cases hj2 : j < 2
        · have hjj : j = 0 ∨ j = 1 := by omega
          rcases hjj with rfl | rfl
          · simp only [show ((0 : Nat) : Int) = 0 from rfl]
            have hvok : (x.vk 0).ok w := HO.out.1
            obtain ⟨f, id, e1, n1, q1, e2, n2, q2, bs1, bs2, hvx, hid, hy1, hy2⟩ := VoteD.shape hvok
            have hr0 : w.rangeAt b (o + i * 73 + 1) (VoteD.mk f id (.slice e1 n1 q1) (.slice e2 n2 q2)).cells := fun k u hu => by
              rw [← hvx] at hu
              have := HR.out (1 + k) u (HrD.cells_v0 HO.out.fit.1 k u hu)
              rw [← Nat.add_assoc] at this; exact this
            have hcl := VoteD.cells_len (x := ⟨f, id, .slice e1 n1 q1, .slice e2 n2 q2⟩) hid
            have HVX : Hid (x.vk 0 = ⟨f, id, .slice e1 n1 q1, .slice e2 n2 q2⟩) := hvx
            have hhas : wr.cell? ⟨b, o + i * 73 + 71, none⟩ = some (.bool x.h0) := rangeAt_below HR.out hbq 71 _ (HrD.cells_71 HO.out.fit.1)
            have hAq : Hid (AH wr.drew B g v hs) := HA.out.below (hbq.trans (below_drewN wr _ 1))
            have hhs : Hid (x.hk 0 = x.h0) := rfl
            have hmn : (i : Int) < (n : Int) := by omega
            clear hvok hvx
            go_wp2_with fail
            go_region_held3 (fun w' => w'.cell? ⟨b, o + i * 73 + 71, none⟩ = some (.bool x.h0))
              (first | exact hhas | fail)
              (first | (go_at_call 24; refine (dhas_any B g i 0 (by omega) v hs x _ hAq.out HX.out).mono ?_; rintro e w5 ⟨rfl, rfl⟩; rw [hhs.out]))
            go_wp2_with fail
            refine (dvote_any B g i 0 (by omega) v hs x f id e1 e2 n1 n2 q1 q2 _ hAq.out HX.out HVX.out).mono ?_
            rintro e w1 ⟨rfl, hb1⟩
            have hbw1 : Below w.heap.size w w1 := below_then (hbq.trans (below_drewN wr _ 1)) (Nat.le_refl _) hb1
            have hone := oneAll_ids id
            have hth := there_new53
            have hidl : (id.map (Value.int .u8)).length = 32 := by simp [hid]
            clear hhas
            go_wp2_with fail
            generalize hW2 : World.setCells _ w1.heap.size 0 _ = W2
            obtain ⟨r1, b1⟩ : W2.rangeAt w1.heap.size 0 (id.map (Value.int .u8)) ∧ Below w1.heap.size w1 W2 := by rw [← hW2]; exact id_new w1 _ (by simp) id hid
            have hbW2 : Below w.heap.size w W2 := below_then hbw1 (Nat.le_refl _) b1
            clear hW2 hone hth
            have hu53 := Try.underlying53
            have hi53 : (Try.prog.info? 53).map (·.size) = some (id.map (Value.int .u8)).length := by rw [Try.size53]; simp [hid]
            have SH : Hid (∀ W, Below W2.heap.size W2 W → W.rangeAt w1.heap.size 0 (id.map (Value.int .u8)) ∧ canRd W b (o + i * 73 + 1) 35 ∧ rd W b (o + i * 73 + 1) 35 = (VoteD.mk f id (.slice e1 n1 q1) (.slice e2 n2 q2)).cells.toArray) := fun W hW => ⟨rangeAt_below r1 hW, canRd_of_range (rangeAt_below (rangeAt_below hr0 hbW2) hW) hcl, rd_of_range (rangeAt_below (rangeAt_below hr0 hbW2) hW) hcl⟩
            have hSd := SH.out W2.drew (below_drewN W2 _ 1)
            have hVI : Hid (Calls Try.prog 26 #[.int .i64 f, .agg (id.map (Value.int .u8)).toArray, .slice e1 n1 q1, .slice e2 n2 q2, .agg (VoteD.mk f id (.slice e1 n1 q1) (.slice e2 n2 q2)).cells.toArray] W2.drew fun e w' => e = .returned (.bool true) ∧ Below W2.drew.heap.size W2.drew w') := voteIs_any f id e1 e2 n1 n2 q1 q2 bs1 bs2 W2.drew hid (hy1.below (hbW2.trans (below_drewN W2 _ 1))) (hy2.below (hbW2.trans (below_drewN W2 _ 1)))
            have HB2 : Hid (Below w.heap.size w W2) := hbW2
            clear r1 hr0 hbW2 b1 hb1 hbw1
            go_region_held3 (fun w' => w'.rangeAt w1.heap.size 0 (id.map (Value.int .u8)) ∧ canRd w' b (o + i * 73 + 1) 35 ∧ rd w' b (o + i * 73 + 1) 35 = (VoteD.mk f id (.slice e1 n1 q1) (.slice e2 n2 q2)).cells.toArray)
              (first | exact hSd | exact hS5 | fail)
              (first | (go_at_call 26; refine hVI.out.mono ?_; rintro e w5 ⟨rfl, hb5⟩; have hS5 := SH.out w5 ((below_drewN W2 W2.heap.size 1).trans hb5)))
            have HB5 : Hid (Below w.heap.size w w5) := below_then HB2.out (Nat.le_refl _) ((below_drewN W2 W2.heap.size 1).trans hb5)
            clear hb5 hSd
            go_wp2_with fail
            go_roundw
            case rel => exact ⟨1, by omega, by go_num, HB5.out⟩
            case measure => simp [intOf]
          · simp only [show ((1 : Nat) : Int) = 1 from rfl]
            have hvok : (x.vk 1).ok w := HO.out.2
            obtain ⟨f, id, e1, n1, q1, e2, n2, q2, bs1, bs2, hvx, hid, hy1, hy2⟩ := VoteD.shape hvok
            have hr0 : w.rangeAt b (o + i * 73 + 36) (VoteD.mk f id (.slice e1 n1 q1) (.slice e2 n2 q2)).cells := fun k u hu => by
              rw [← hvx] at hu
              have := HR.out (36 + k) u (HrD.cells_v1 HO.out.fit.1 k u hu)
              rw [← Nat.add_assoc] at this; exact this
            have hcl := VoteD.cells_len (x := ⟨f, id, .slice e1 n1 q1, .slice e2 n2 q2⟩) hid
            have HVX : Hid (x.vk 1 = ⟨f, id, .slice e1 n1 q1, .slice e2 n2 q2⟩) := hvx
            have hhas : wr.cell? ⟨b, o + i * 73 + 72, none⟩ = some (.bool x.h1) := rangeAt_below HR.out hbq 72 _ (HrD.cells_72 HO.out.fit.1)
            have hAq : Hid (AH wr.drew B g v hs) := HA.out.below (hbq.trans (below_drewN wr _ 1))
            have hhs : Hid (x.hk 1 = x.h1) := rfl
            have hmn : (i : Int) < (n : Int) := by omega
            clear hvok hvx
            go_wp2_with fail
            go_region_held3 (fun w' => w'.cell? ⟨b, o + i * 73 + 72, none⟩ = some (.bool x.h1))
              (first | exact hhas | fail)
              (first | (go_at_call 24; refine (dhas_any B g i 1 (by omega) v hs x _ hAq.out HX.out).mono ?_; rintro e w5 ⟨rfl, rfl⟩; rw [hhs.out]))
            go_wp2_with fail
            refine (dvote_any B g i 1 (by omega) v hs x f id e1 e2 n1 n2 q1 q2 _ hAq.out HX.out HVX.out).mono ?_
            rintro e w1 ⟨rfl, hb1⟩
            have hbw1 : Below w.heap.size w w1 := below_then (hbq.trans (below_drewN wr _ 1)) (Nat.le_refl _) hb1
            have hone := oneAll_ids id
            have hth := there_new53
            have hidl : (id.map (Value.int .u8)).length = 32 := by simp [hid]
            clear hhas
            go_wp2_with fail
            generalize hW2 : World.setCells _ w1.heap.size 0 _ = W2
            obtain ⟨r1, b1⟩ : W2.rangeAt w1.heap.size 0 (id.map (Value.int .u8)) ∧ Below w1.heap.size w1 W2 := by rw [← hW2]; exact id_new w1 _ (by simp) id hid
            have hbW2 : Below w.heap.size w W2 := below_then hbw1 (Nat.le_refl _) b1
            clear hW2 hone hth
            have hu53 := Try.underlying53
            have hi53 : (Try.prog.info? 53).map (·.size) = some (id.map (Value.int .u8)).length := by rw [Try.size53]; simp [hid]
            have SH : Hid (∀ W, Below W2.heap.size W2 W → W.rangeAt w1.heap.size 0 (id.map (Value.int .u8)) ∧ canRd W b (o + i * 73 + 36) 35 ∧ rd W b (o + i * 73 + 36) 35 = (VoteD.mk f id (.slice e1 n1 q1) (.slice e2 n2 q2)).cells.toArray) := fun W hW => ⟨rangeAt_below r1 hW, canRd_of_range (rangeAt_below (rangeAt_below hr0 hbW2) hW) hcl, rd_of_range (rangeAt_below (rangeAt_below hr0 hbW2) hW) hcl⟩
            have hSd := SH.out W2.drew (below_drewN W2 _ 1)
            have hVI : Hid (Calls Try.prog 26 #[.int .i64 f, .agg (id.map (Value.int .u8)).toArray, .slice e1 n1 q1, .slice e2 n2 q2, .agg (VoteD.mk f id (.slice e1 n1 q1) (.slice e2 n2 q2)).cells.toArray] W2.drew fun e w' => e = .returned (.bool true) ∧ Below W2.drew.heap.size W2.drew w') := voteIs_any f id e1 e2 n1 n2 q1 q2 bs1 bs2 W2.drew hid (hy1.below (hbW2.trans (below_drewN W2 _ 1))) (hy2.below (hbW2.trans (below_drewN W2 _ 1)))
            have HB2 : Hid (Below w.heap.size w W2) := hbW2
            clear r1 hr0 hbW2 b1 hb1 hbw1
            go_region_held3 (fun w' => w'.rangeAt w1.heap.size 0 (id.map (Value.int .u8)) ∧ canRd w' b (o + i * 73 + 36) 35 ∧ rd w' b (o + i * 73 + 36) 35 = (VoteD.mk f id (.slice e1 n1 q1) (.slice e2 n2 q2)).cells.toArray)
              (first | exact hSd | exact hS5 | fail)
              (first | (go_at_call 26; refine hVI.out.mono ?_; rintro e w5 ⟨rfl, hb5⟩; have hS5 := SH.out w5 ((below_drewN W2 W2.heap.size 1).trans hb5)))
            have HB5 : Hid (Below w.heap.size w w5) := below_then HB2.out (Nat.le_refl _) ((below_drewN W2 W2.heap.size 1).trans hb5)
            clear hb5 hSd
            go_wp2_with fail
            go_roundw
            case rel => exact ⟨2, by omega, by go_num, HB5.out⟩
            case measure => simp [intOf]
        · have hj3 : j = 2 := by omega
          subst hj3
          simp only [show ((2 : Nat) : Int) = 2 from rfl]
          go_wp2_with fail
          go_roundw
          case rel => exact ⟨i + 1, by omega, by go_num, hbq⟩
          case measure => simp [intOf]; omega
    · go_wp2_with fail
      go_ret
      exact ⟨rfl, hb⟩
end Go.Proofs.Qxb6604712a
