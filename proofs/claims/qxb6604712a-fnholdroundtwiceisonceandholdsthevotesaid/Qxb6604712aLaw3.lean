/-
  Seat b6604712a: the walk of the law FnHoldRoundTwiceIsOnceAndHoldsTheVote.
-/
import Derived.Test.Qxb6604712aTwo
import Derived.Test.Qxb6604712aZz18
namespace Go.Proofs.Qxb6604712a
open Go.RowKit
set_option linter.unusedSimpArgs false
set_option linter.unusedVariables false
attribute [local go_sem ↓] exec_load43 exec_store43 exec_load53 exec_store53
attribute [local go_sem] ptrB ptrO isPtr

set_option maxRecDepth 100000 in
set_option maxHeartbeats 16000000 in
theorem law3_any (vh v1 v2 : Value) (hs : List HrD) (vs1 vs2 : List VoteD) (r f : Int) (w : World) (h : heldAt w vh hs) (h1 : votesAt w v1 vs1) (h2 : votesAt w v2 vs2) :
    Calls Try.prog 4 #[vh, .int .i64 r, v1, v2, .int .i64 f] w fun e w' => e = .returned (.bool true) ∧ Below w.heap.size w w' := by
  have HH : Hid (heldAt w vh hs) := h
  have H1 : Hid (votesAt w v1 vs1) := h1
  have H2 : Hid (votesAt w v2 vs2) := h2
  obtain ⟨ah, ch, eh, _, mh, _⟩ := h.1
  obtain ⟨a1, c1, e1, _, m1, _⟩ := h1.1
  obtain ⟨a2, c2, e2, _, m2, _⟩ := h2.1
  subst eh
  subst e1
  subst e2
  have hzz := zz18 _ _ _ hs vs1 vs2 r f w h h1 h2
  clear h h1 h2
  go_enter Try.func4, Try.ntmps4
  go_wp2_with fail
  refine hzz.mono ?_
  rintro e w ⟨⟨b0, rfl, -⟩, rfl⟩
  clear hzz
  cases b0
  · go_wp2_with fail
    go_ret
    exact ⟨rfl, Below.refl _ _⟩
  by_cases hl : (hs.length : Int) ≤ 65536 ∧ (vs1.length : Int) ≤ 65536 ∧ (vs2.length : Int) ≤ 65536
  rotate_left
  · have hbb := heldBytes_any _ hs w HH.out
    go_wp2_with fail
    all_goals first
      | (go_ret; exact ⟨rfl, Below.refl _ _⟩)
      | (exfalso; omega)
  obtain ⟨l0, l1, l2⟩ := hl
  have hb8 := heldBytes_any _ hs w HH.out (by omega)
  go_wp2_with fail
  refine hb8.mono ?_
  rintro e w1 ⟨⟨r0, rfl, hr0, hr0', hs0⟩, hb1⟩
  have HS0 : Hid (r0 ≤ 1048576 → ∀ x ∈ hs, x.small) := hs0
  have hv1 := votesBytes_any _ vs1 r0 w1 (H1.out.below hb1) hr0 (by omega)
  clear hs0 hb8
  go_wp2_with fail
  refine hv1.mono ?_
  rintro e w2 ⟨⟨r1, rfl, hr1, hr1', hs1⟩, q2, rfl⟩
  have HS1 : Hid (r1 ≤ 1048576 → r0 ≤ 1048576 ∧ ∀ x ∈ vs1, lenV x.ext ≤ 1048576 ∧ lenV x.sig ≤ 1048576) := hs1
  have hb2 : Below w.heap.size w (w1.drewN q2) := hb1.trans (below_drewN _ _ _)
  clear hs1 hv1 hb1
  generalize w1.drewN q2 = w2 at *
  have hv2 := votesBytes_any _ vs2 r1 w2 (H2.out.below hb2) hr1 (by omega)
  go_wp2_with fail
  refine hv2.mono ?_
  rintro e w3 ⟨⟨r2, rfl, hr2, hr2', hs2⟩, q3, rfl⟩
  have HS2 : Hid (r2 ≤ 1048576 → r1 ≤ 1048576 ∧ ∀ x ∈ vs2, lenV x.ext ≤ 1048576 ∧ lenV x.sig ≤ 1048576) := hs2
  have hb3 : Below w.heap.size w (w2.drewN q3) := hb2.trans (below_drewN _ _ _)
  clear hs2 hv2 hb2
  generalize w2.drewN q3 = w3 at *
  by_cases hr : r2 ≤ 1048576
  rotate_left
  · go_wp2_with fail
    all_goals first
      | (go_ret; exact ⟨rfl, hb3⟩)
      | (exfalso; omega)
  obtain ⟨g1, hsm2⟩ := HS2.out hr
  obtain ⟨g0, hsm1⟩ := HS1.out g1
  have hsm0 := HS0.out g0
  have M0 : Hid (∀ x ∈ hs, x.small) := hsm0
  have M1 : Hid (∀ x ∈ vs1, lenV x.ext ≤ 1048576 ∧ lenV x.sig ≤ 1048576) := hsm1
  have M2 : Hid (∀ x ∈ vs2, lenV x.ext ≤ 1048576 ∧ lenV x.sig ≤ 1048576) := hsm2
  clear HS0 HS1 HS2 hsm0 hsm1 hsm2 g0 g1 hr0 hr0' hr1 hr1' hr2 hr2'
  by_cases h3 : (hs.length : Int) ≤ 3
  rotate_left
  · go_wp2_with fail
    all_goals first
      | (go_ret; exact ⟨rfl, hb3⟩)
      | (exfalso; omega)
  have hi9 := heldIncreasing_any _ hs w3 (HH.out.below hb3) (by omega)
  go_wp2_with fail
  refine hi9.mono ?_
  rintro e w4 ⟨⟨b4, rfl, hg4⟩, hb4⟩
  have hb4' : Below w.heap.size w w4 := below_then hb3 (Nat.le_refl _) hb4
  have HG0 : Hid (b4 = true → Grows hs) := hg4
  clear hg4 hi9 hb4 hb3
  cases b4
  · go_wp2_with fail
    go_ret
    exact ⟨rfl, hb4'⟩
  have hi10 := vInc_any _ vs1 w4 (H1.out.below hb4') (by omega)
  go_wp2_with fail
  refine hi10.mono ?_
  rintro e w5 ⟨⟨b5, rfl, hg5⟩, hb5⟩
  have hb5' : Below w.heap.size w w5 := below_then hb4' (Nat.le_refl _) hb5
  have HG1 : Hid (b5 = true → VGrows vs1) := hg5
  clear hg5 hi10 hb5 hb4'
  cases b5
  · go_wp2_with fail
    go_ret
    exact ⟨rfl, hb5'⟩
  have hi11 := vInc_any _ vs2 w5 (H2.out.below hb5') (by omega)
  go_wp2_with fail
  refine hi11.mono ?_
  rintro e w6 ⟨⟨b6, rfl, hg6⟩, hb6⟩
  have hb6' : Below w.heap.size w w6 := below_then hb5' (Nat.le_refl _) hb6
  have HG2 : Hid (b6 = true → VGrows vs2) := hg6
  clear hg6 hi11 hb6 hb5'
  cases b6
  · go_wp2_with fail
    go_ret
    exact ⟨rfl, hb6'⟩
  have hcl := cloneHeld_any _ hs w6 (HH.out.below hb6') (by omega) M0.out
  go_wp2_with fail
  refine hcl.mono ?_
  rintro e w7 ⟨vh', us, rfl, hus, hrn, hb7⟩
  have hul : us.length = hs.length := by have := congrArg List.length hrn; simpa using this
  have UH : Hid (heldAt w7 vh' us) := hus
  have HGU : Hid (Grows us) := grows_of_map hrn (HG0.out (by trivial))
  have hul3 : Hid (us.length ≤ 3) := by show _ ≤ _; omega
  have hb7' : Below w.heap.size w w7 := below_then hb6' (Nat.le_refl _) hb7
  clear hcl hus hrn hb7 hb6' M0 hul HG0
  have hc1 := cloneVotes_any _ vs1 w7 (H1.out.below hb7') (by omega) M1.out
  obtain ⟨av, nv, cv, hvf⟩ := UH.out.1.form
  subst hvf
  go_wp2_with fail
  refine hc1.mono ?_
  rintro e w8 ⟨v1', ws1, rfl, hw1, hf1, _, _, hb8⟩
  have hl1 : ws1.length = vs1.length := by have := congrArg List.length hf1; simpa using this
  have U1 : Hid (votesAt w8 v1' ws1) := hw1
  have G1 : Hid (VGrows ws1) := vgrows_of_map hf1 (HG1.out (by trivial))
  have N1 : Hid (ws1.length ≤ 65536) := by show _ ≤ _; omega
  have hb8' : Below w.heap.size w w8 := below_then hb7' (Nat.le_refl _) hb8
  have U8 : Hid (heldAt w8 (.slice av nv cv) us) := UH.out.below hb8
  clear hc1 hw1 hf1 hb8 hb7' M1 hl1 HG1 UH
  have hc2 := cloneVotes_any _ vs2 w8 (H2.out.below hb8') (by omega) M2.out
  obtain ⟨a1', n1', c1', hvf1⟩ := U1.out.1.form
  subst hvf1
  go_wp2_with fail
  refine hc2.mono ?_
  rintro e w9 ⟨v2', ws2, rfl, hw2, hf2, _, _, hb9⟩
  have hl2 : ws2.length = vs2.length := by have := congrArg List.length hf2; simpa using this
  have U2 : Hid (votesAt w9 v2' ws2) := hw2
  have G2 : Hid (VGrows ws2) := vgrows_of_map hf2 (HG2.out (by trivial))
  have N2 : Hid (ws2.length ≤ 65536) := by show _ ≤ _; omega
  have hb9' : Below w.heap.size w w9 := below_then hb8' (Nat.le_refl _) hb9
  have U9 : Hid (heldAt w9 (.slice av nv cv) us) := U8.out.below hb9
  have U19 : Hid (votesAt w9 (.slice a1' n1' c1') ws1) := U1.out.below hb9
  clear hc2 hw2 hf2 hb9 hb8' M2 hl2 HG2 U1 U8 HH H1 H2
  obtain ⟨a2', n2', c2', hvf2⟩ := U2.out.1.form
  subst hvf2
  have hbt := buildTallies_any r _ _ ws1 ws2 w9 U19.out U2.out (by have := N1.out; omega) (by have := N2.out; omega)
  go_wp2_with fail
  refine hbt.mono ?_
  rintro e w10 ⟨rfl, hI10, hb10⟩
  have hRS : RS w10 w10.heap.size w9.heap.size (talD r ws1 ws2) := ⟨hI10, Nat.le_refl _, G1.out, G2.out, (by show ws1.length ≤ _; have := N1.out; omega), (by show ws2.length ≤ _; have := N2.out; omega), fun x hx => (U19.out.2 x hx).sl, fun x hx => (U2.out.2 x hx).sl⟩
  have HRS : Hid (RS w10 w10.heap.size w9.heap.size (talD r ws1 ws2)) := hRS
  have B10 : Hid (Below w9.heap.size w9 w10) := hb10
  have hb10' : Below w.heap.size w w10 := below_then hb9' (Nat.le_refl _) hb10
  clear hbt hI10 hb10 hRS
  obtain ⟨gs, hgs⟩ : ∃ gs, gs = w9.heap.size := ⟨_, rfl⟩
  rw [← hgs] at HRS ⊢
  clear hgs
  have hba := buildAhead_any _ us w9 w10 U9.out B10.out (by have := hul3.out; omega)
  go_wp2_with fail
  refine hba.mono ?_
  rintro e w11 ⟨va, rfl, hA11, hb11⟩
  have HA11 : Hid (AH w11 w10.heap.size w10.heap.size va us) := hA11
  have hb11' : Below w.heap.size w w11 := below_then hb10' (Nat.le_refl _) hb11
  have B11 : Hid (Below w10.heap.size w10 w11) := hb11
  clear hba hA11 hb11
  have B0 : Hid (Below w9.heap.size w9 w11) := B10.out.trans (B11.out.mono B10.out.size)
  have hba2 := buildAhead_any _ us w9 w11 U9.out B0.out (by have := hul3.out; omega)
  go_wp2_with fail
  refine hba2.mono ?_
  rintro e w12 ⟨vb, rfl, hA12, hb12⟩
  have BO : Hid (Both w12 w10.heap.size w11.heap.size w10.heap.size w11.heap.size va vb us us) := Both.made HA11.out rfl hb12 hA12
  have B12 : Hid (Below w10.heap.size w10 w12) := B11.out.trans (hb12.mono B11.out.size)
  have hb12' : Below w.heap.size w w12 := below_then hb11' (Nat.le_refl _) hb12
  have HRS2 : Hid (RS w10 w11.heap.size gs (talD r ws1 ws2)) := ⟨HRS.out.is, B11.out.size, HRS.out.g1, HRS.out.g2, HRS.out.n1, HRS.out.n2, HRS.out.s1, HRS.out.s2⟩
  have Q1 : Hid (w.heap.size ≤ w10.heap.size) := hb10'.size
  have Q2 : Hid (w.heap.size ≤ w11.heap.size) := hb11'.size
  have Q3 : Hid (w10.heap.size ≤ w11.heap.size) := B11.out.size
  have Q4 : Hid (w9.heap.size ≤ w10.heap.size) := B10.out.size
  clear hba2 hA12 hb12 hb11' hb10'
  obtain ⟨B1, hB1⟩ : ∃ B1, B1 = w10.heap.size := ⟨_, rfl⟩
  obtain ⟨B2, hB2⟩ : ∃ B2, B2 = w11.heap.size := ⟨_, rfl⟩
  have HB1 : Hid (B1 = w10.heap.size) := hB1
  have HB2 : Hid (B2 = w11.heap.size) := hB2
  rw [← hB1] at BO Q1 Q3 Q4 HRS ⊢
  rw [← hB2] at BO Q2 Q3 HRS2 ⊢
  clear hB1 hB2 HA11
  -- once
  have hz1 := zzhold_any B1 B1 gs va us (talD r ws1 ws2) f w10 w12 BO.out.a1 HRS.out B12.out hul3.out HGU.out
  go_wp2_with fail
  refine hz1.mono ?_
  rintro e w13 ⟨rfl, va2, hA13, hM13⟩
  obtain ⟨HH2, hHH⟩ : ∃ HH2, HH2 = stage us (talD r ws1 ws2) f 2 := ⟨_, rfl⟩
  rw [← hHH] at hA13
  have HST : Hid (HH2 = stage us (talD r ws1 ws2) f 2) := hHH
  have BO2 : Hid (Both w13 B1 B2 B1 B2 va2 vb HH2 us) := BO.out.step1 hA13 hM13
  have b13 : Below B1 w12 w13 := hM13.belowB BO.out.a1
  have B13 : Hid (Below w10.heap.size w10 w13) := B12.out.trans (b13.mono (by have := HB1.out; omega))
  have hb13' : Below w.heap.size w w13 := hb12'.trans (b13.mono Q1.out)
  clear hz1 hA13 hM13 b13 BO B12 hb12' hHH
  -- twice
  have hz2 := zzhold_any B2 B2 gs vb us (talD r ws1 ws2) f w10 w13 BO2.out.a2 HRS2.out B13.out hul3.out HGU.out
  go_wp2_with fail
  refine hz2.mono ?_
  rintro e w14 ⟨rfl, vb2, hA14, hM14⟩
  rw [← HST.out] at hA14
  have BO3 : Hid (Both w14 B1 B2 B1 B2 va2 vb2 HH2 HH2) := BO2.out.step2 hA14 hM14
  have b14 : Below B2 w13 w14 := hM14.belowB BO2.out.a2
  have B14 : Hid (Below w10.heap.size w10 w14) := B13.out.trans (b14.mono (by have := HB1.out; have := Q3.out; omega))
  have hb14' : Below w.heap.size w w14 := hb13'.trans (b14.mono Q2.out)
  have HSH : Hid (HH2.length ≤ 3 ∧ Grows HH2) := by show _ ∧ _; rw [HST.out]; exact stage_shape us _ f hul3.out HGU.out
  clear hz2 hA14 hM14 b14 BO2 B13 hb13'
  have hz3 := zzhold_any B2 B2 gs vb2 HH2 (talD r ws1 ws2) f w10 w14 BO3.out.a2 HRS2.out B14.out HSH.out.1 HSH.out.2
  go_wp2_with fail
  refine hz3.mono ?_
  rintro e w15 ⟨rfl, vb3, hA15, hM15⟩
  have htw : stage HH2 (talD r ws1 ws2) f 2 = HH2 := by rw [HST.out]; exact stage_twice us _ f hul3.out HGU.out
  rw [htw] at hA15
  have BO4 : Hid (Both w15 B1 B2 B1 B2 va2 vb3 HH2 HH2) := BO3.out.step2 hA15 hM15
  have b15 : Below B2 w14 w15 := hM15.belowB BO3.out.a2
  have B15 : Hid (Below w10.heap.size w10 w15) := B14.out.trans (b15.mono (by have := HB1.out; have := Q3.out; omega))
  have hb15' : Below w.heap.size w w15 := hb14'.trans (b15.mono Q2.out)
  have B95 : Hid (Below w9.heap.size w9 w15) := B10.out.trans (B15.out.mono B10.out.size)
  clear hz3 hA15 hM15 b15 BO3 B14 hb14' htw HRS HRS2 B15 B11 B10 B0
  have HMD : Hid (HH2 = modelL us r (findV ws1 f) (findV ws2 f)) := by rw [HST.out]; exact model_law us r (findV ws1 f) (findV ws2 f) hul3.out HGU.out
  have HHP : Hid (HH2 = holdP (holdP us r 1 (findV ws1 f)) r 2 (findV ws2 f)) := HST.out
  have HOK : Hid (∀ x ∈ HH2, x.ok w15) := by
    show ∀ x ∈ HH2, x.ok w15
    rw [HMD.out]
    exact modelL_ok us r _ _ (fun x hx => (U9.out.2 x hx).below B95.out) (fun x hx => (U19.out.2 x (findV_mem hx)).below B95.out) (fun x hx => (U2.out.2 x (findV_mem hx)).below B95.out)
  have hsame := sameAhead_any B1 B2 B1 B2 va2 vb3 HH2 w15 BO4.out.a1 BO4.out.a2 HOK.out (by have := HSH.out.1; omega)
  go_wp2_with fail
  refine hsame.mono ?_
  rintro e w16 ⟨rfl, hb16⟩
  have hb16' : Below w.heap.size w w16 := below_then hb15' (Nat.le_refl _) hb16
  have HA16 : Hid (AH w16 B1 B1 va2 HH2) := BO4.out.a1.below hb16
  have B96 : Hid (Below w9.heap.size w9 w16) := below_then B95.out (Nat.le_refl _) hb16
  clear hsame hb16 hb15' BO4 B95 HOK
  have hshp := shape_any B1 B1 va2 HH2 w16 HA16.out HSH.out.1 HSH.out.2
  go_wp2_with fail
  refine hshp.mono ?_
  rintro e w16 ⟨rfl, rfl⟩
  clear hshp
  have hfv1 := findVote_any _ ws1 f w9 w16 U19.out B96.out (by have := N1.out; omega)
  have K1 : Hid ((orZero (findV ws1 f)).ok w9) := by
    show VoteD.ok _ _
    cases hq : findV ws1 f with
    | none => exact zeroV_ok w9
    | some x => exact U19.out.2 x (findV_mem hq)
  have K2 : Hid ((orZero (findV ws2 f)).ok w9) := by
    show VoteD.ok _ _
    cases hq : findV ws2 f with
    | none => exact zeroV_ok w9
    | some x => exact U2.out.2 x (findV_mem hq)
  obtain ⟨o1, ho1⟩ : ∃ o1, o1 = findV ws1 f := ⟨_, rfl⟩
  obtain ⟨o2, ho2⟩ : ∃ o2, o2 = findV ws2 f := ⟨_, rfl⟩
  have hfv2 := fun W hW => findVote_any _ ws2 f w9 W U2.out hW (by have := N2.out; omega)
  rw [← ho1] at hfv1 K1 HHP HMD
  rw [← ho2] at hfv2 K2 HHP HMD
  obtain ⟨x1, hx1⟩ : ∃ x1, x1 = orZero o1 := ⟨_, rfl⟩
  obtain ⟨x2, hx2⟩ : ∃ x2, x2 = orZero o2 := ⟨_, rfl⟩
  rw [← hx1] at hfv1 K1
  rw [← hx2] at hfv2 K2
  have HX1 : Hid (x1 = orZero o1) := hx1
  have HX2 : Hid (x2 = orZero o2) := hx2
  obtain ⟨p1, hp1⟩ : ∃ p1, p1 = o1.isSome := ⟨_, rfl⟩
  obtain ⟨p2, hp2⟩ : ∃ p2, p2 = o2.isSome := ⟨_, rfl⟩
  rw [← hp1] at hfv1
  rw [← hp2] at hfv2
  have HP1 : Hid (p1 = o1.isSome) := hp1
  have HP2 : Hid (p2 = o2.isSome) := hp2
  have HF2 : Hid (∀ W, Below w9.heap.size w9 W → Calls Try.prog 21 #[.slice a2' n2' c2', .int .i64 f] W fun e w' => e = .returned (.tuple #[.agg x2.cells.toArray, .bool p2]) ∧ Below W.heap.size W w') := hfv2
  have hcl1 := VoteD.cells_len K1.out.1
  have hcl2 := VoteD.cells_len K2.out.1
  have hon1 := oneAll_vote x1 K1.out.sl.1 K1.out.sl.2
  have hon2 := oneAll_vote x2 K2.out.sl.1 K2.out.sl.2
  clear ho1 ho2 hx1 hx2 hp1 hp2 hfv2 HST
  go_wp2_with fail
  refine hfv1.mono ?_
  rintro e w17 ⟨rfl, hb17⟩
  clear hfv1
  have hth1 : ∀ z : Array Value, z.size = 35 → (w17.alloc (.cells z 43)).there w17.heap.size 0 35 := fun z hz => (vote_box w17 x1 K1.out.1 z hz).2.2
  go_wp2_with fail
  generalize hW1 : World.setCells _ w17.heap.size 0 _ = W1
  obtain ⟨hbx1, hbw1⟩ : W1.rangeAt w17.heap.size 0 x1.cells ∧ Below w17.heap.size w17 W1 := by rw [← hW1]; exact ⟨(vote_box w17 x1 K1.out.1 _ (by simp)).1, (vote_box w17 x1 K1.out.1 _ (by simp)).2.1⟩
  clear hW1 hth1
  have hbW1 : Below w16.heap.size w16 W1 := below_then hb17 (Nat.le_refl _) hbw1
  refine (HF2.out W1 (B96.out.trans (hbW1.mono B96.out.size))).mono ?_
  rintro e w18 ⟨rfl, hb18⟩
  have hbw18 : Below w16.heap.size w16 w18 := below_then hbW1 (Nat.le_refl _) hb18
  have HBX1 : Hid (w18.rangeAt w17.heap.size 0 x1.cells) := rangeAt_below hbx1 hb18
  have HBW : Hid (Below w16.heap.size w16 w18) := hbw18
  clear hbx1 hbw1 hbW1 hb18 hb17 HF2 hbw18
  generalize w17.heap.size = b14 at *
  have hth2 : ∀ z : Array Value, z.size = 35 → (w18.alloc (.cells z 43)).there w18.heap.size 0 35 := fun z hz => (vote_box w18 x2 K2.out.1 z hz).2.2
  have HVB : Hid (∀ z : Array Value, z.size = 35 → ((w18.alloc (.cells z 43)).setCells w18.heap.size 0 x2.cells).rangeAt w18.heap.size 0 x2.cells ∧ Below w18.heap.size w18 ((w18.alloc (.cells z 43)).setCells w18.heap.size 0 x2.cells)) := fun z hz => ⟨(vote_box w18 x2 K2.out.1 z hz).1, (vote_box w18 x2 K2.out.1 z hz).2.1⟩
  have hnv : nv = us.length := by obtain ⟨a, c, e, _⟩ := U9.out.1; cases e; rfl
  subst hnv
  cases p1 with
  | false =>
    cases p2 with
    | false =>
      have HU : Hid (HH2 = us) := by
        show _ = _
        have e1 : o1 = none := by
          have := HP1.out
          cases o1 with
          | none => rfl
          | some z => cases this
        have e2 : o2 = none := by
          have := HP2.out
          cases o2 with
          | none => rfl
          | some z => cases this
        rw [HHP.out, e1, e2]; rfl
      go_wp2_with fail
      generalize hW2 : World.setCells _ w18.heap.size 0 _ = W2
      have hb2 : Below w16.heap.size w16 W2 := by rw [← hW2]; exact below_then HBW.out (Nat.le_refl _) (HVB.out _ (by simp)).2
      clear hW2
      refine (aheadIs_any B1 B1 va2 _ us W2 (by have := HA16.out.below hb2; rw [HU.out] at this; exact this) (U9.out.below (B96.out.trans (hb2.mono B96.out.size))) (by have := hul3.out; omega)).mono ?_
      rintro e w20 ⟨rfl, hb20⟩
      go_wp2_with fail
      go_ret
      exact ⟨rfl, below_then (below_then hb16' (Nat.le_refl _) hb2) (Nat.le_refl _) hb20⟩
    | true =>
      by_cases hlen3 : us.length = 3
      · obtain ⟨b, o, y0, hab, hy0, hok0, hr0⟩ := U9.out.cellsAt 0 (by omega)
        cases hab
        have hr0' : w9.cell? ⟨b, o, none⟩ = some (.int .i64 y0.rnd) := by have := hr0 0 _ (HrD.cells_0 y0); simpa using this
        have hcy : ∀ z : Array Value, z.size = 35 → ((w18.alloc (.cells z 43)).setCells w18.heap.size 0 x2.cells).cell? ⟨b, o, none⟩ = some (.int .i64 y0.rnd) := fun z hz => cell_below hr0' (B96.out.trans ((below_then HBW.out (Nat.le_refl _) (HVB.out z hz).2).mono B96.out.size))
        have hl3' : (us.length : Int) = 3 := by omega
        have HL3 : Hid (us.length = 3) := hlen3
        have HY0 : Hid (us[0]? = some y0) := hy0
        clear hr0 hr0' hy0 hok0
        by_cases hlow : r < y0.rnd
        · have HU : Hid (HH2 = us) := by
            show _ = _
            rw [HHP.out]
            exact low_law us r o1 o2 hul3.out HGU.out HL3.out (fun y hy => by rw [HY0.out] at hy; cases hy; exact hlow)
          clear hlen3
          go_wp2_with fail
          generalize hW2 : World.setCells _ w18.heap.size 0 _ = W2
          have hb2 : Below w16.heap.size w16 W2 := by rw [← hW2]; exact below_then HBW.out (Nat.le_refl _) (HVB.out _ (by simp)).2
          clear hW2 hcy
          refine (aheadIs_any B1 B1 va2 _ us W2 (by have := HA16.out.below hb2; rw [HU.out] at this; exact this) (U9.out.below (B96.out.trans (hb2.mono B96.out.size))) (by have := hul3.out; omega)).mono ?_
          rintro e w20 ⟨rfl, hb20⟩
          go_wp2_with fail
          go_ret
          exact ⟨rfl, below_then (below_then hb16' (Nat.le_refl _) hb2) (Nat.le_refl _) hb20⟩
        · have HN3 : Hid (¬ (us.length = 3 ∧ ∀ y, us[0]? = some y → r < y.rnd)) := fun h => hlow (h.2 y0 HY0.out)
          clear hlen3
          go_wp2_with fail
          generalize hW2 : World.setCells _ w18.heap.size 0 _ = W2
          obtain ⟨hbx2, hb2a⟩ : W2.rangeAt w18.heap.size 0 x2.cells ∧ Below w18.heap.size w18 W2 := by rw [← hW2]; exact HVB.out _ (by simp)
          have hb2 : Below w16.heap.size w16 W2 := below_then HBW.out (Nat.le_refl _) hb2a
          have HBX1' : Hid (W2.rangeAt b14 0 x1.cells) := rangeAt_below HBX1.out hb2a
          have HBX2 : Hid (W2.rangeAt w18.heap.size 0 x2.cells) := hbx2
          clear hW2 HVB hbx2 hb2a HBX1 hth2
          generalize w18.heap.size = b16 at *
          have HAW : Hid (AH W2 B1 B1 va2 HH2) := HA16.out.below hb2
          have hbW2 : Below w.heap.size w W2 := below_then hb16' (Nat.le_refl _) hb2
          have hdl := dlen_any B1 B1 va2 HH2 W2 HAW.out
          obtain ⟨N, hN⟩ : ∃ N, N = HH2.length := ⟨_, rfl⟩
          rw [← hN] at hdl
          have HNL : Hid (N = HH2.length) := hN
          have hN3 : N ≤ 3 := by rw [hN]; exact HSH.out.1
          clear hN
          refine hdl.mono ?_
          rintro e W2 ⟨rfl, rfl⟩
          clear hdl
          go_wp2_with fail
          go_loopw [19, 20] (fun jv iv wr => ∃ (i : Nat) (jj : Int), i ≤ N ∧ iv = .int .i64 i ∧ jv = .int .i64 jj ∧ W2 = wr ∧ ((jj = -1 ∧ ∀ k y, k < i → HH2[k]? = some y → y.rnd ≠ r) ∨ ∃ (m : Nat) (y : HrD), m < i ∧ jj = (m : Int) ∧ HH2[m]? = some y ∧ y.rnd = r)) (fun _ iv _ => N - (intOf iv).toNat)
          case atStart => exact ⟨0, -1, Nat.zero_le _, rfl, rfl, rfl, .inl ⟨rfl, fun k y hk => by omega⟩⟩
          case round =>
            obtain ⟨i, jj, hi, rfl, rfl, rfl, hjj⟩ := hrel
            have HJ : Hid ((jj = -1 ∧ ∀ k y, k < i → HH2[k]? = some y → y.rnd ≠ r) ∨ ∃ (m : Nat) (y : HrD), m < i ∧ jj = (m : Int) ∧ HH2[m]? = some y ∧ y.rnd = r) := hjj
            clear hjj
            by_cases hlt : i < N
            · obtain ⟨y, hy⟩ : ∃ y, HH2[i]? = some y := ⟨_, List.getElem?_eq_getElem (by rw [← HNL.out]; exact hlt)⟩
              have HY : Hid (HH2[i]? = some y) := hy
              have hdr := dround_any B1 B1 i va2 HH2 y W2 HAW.out hy
              have hlt' : (i : Int) < (N : Int) := by omega
              clear hy
              go_wp2_with fail
              refine hdr.mono ?_
              rintro e W2 ⟨rfl, rfl⟩
              clear hdr
              by_cases he : y.rnd = r
              · have heb : (y.rnd == r) = true := by simpa using he
                go_wp2_with fail
                go_roundw
                case rel => exact ⟨i + 1, _, by omega, by go_num, rfl, trivial, .inr ⟨i, y, by omega, rfl, HY.out, he⟩⟩
                case measure => simp [intOf]; omega
              · have heb : (y.rnd == r) = false := by simpa using he
                have HJ' : Hid ((jj = -1 ∧ ∀ k y, k < i + 1 → HH2[k]? = some y → y.rnd ≠ r) ∨ ∃ (m : Nat) (y : HrD), m < i + 1 ∧ jj = (m : Int) ∧ HH2[m]? = some y ∧ y.rnd = r) := by
                  rcases HJ.out with ⟨h1, h2⟩ | ⟨m, z, h1, h2, h3, h4⟩
                  · refine .inl ⟨h1, fun k z hk hz => ?_⟩
                    by_cases hki : k = i
                    · subst hki; rw [HY.out] at hz; cases hz; exact he
                    · exact h2 k z (by omega) hz
                  · exact .inr ⟨m, z, by omega, h2, h3, h4⟩
                go_wp2_with fail
                go_roundw
                case rel => exact ⟨i + 1, jj, by omega, by go_num, rfl, trivial, HJ'.out⟩
                case measure => simp [intOf]; omega
            · have hiN : i = N := by omega
              subst hiN
              obtain ⟨m, y, hm, hjm, hym, hyr⟩ : ∃ (m : Nat) (y : HrD), m < i ∧ jj = (m : Int) ∧ HH2[m]? = some y ∧ y.rnd = r := by
                rcases HJ.out with ⟨h1, h2⟩ | h
                · exfalso
                  obtain ⟨z, hz, hzr⟩ := held_law us r o1 o2 hul3.out HGU.out (fun h => absurd (HP2.out.trans (by rw [h.2])) (by decide)) HN3.out
                  rw [← HHP.out] at hz
                  obtain ⟨k, hk, hke⟩ := List.mem_iff_getElem.1 hz
                  exact h2 k z (by rw [HNL.out]; exact hk) (by rw [List.getElem?_eq_getElem hk, hke]) hzr
                · exact h
              subst hjm
              have hbr := bears_law us r o1 o2 hul3.out HGU.out y (by rw [← HHP.out]; exact List.mem_of_getElem? hym) hyr
              have HYM : Hid (HH2[m]? = some y) := hym
              have hin0 : (i : Int) ≤ (i : Int) := Int.le_refl _
              have hm0 : ¬ ((m : Int) < 0) := by omega
              have B9W : Hid (Below w9.heap.size w9 W2) := B96.out.trans (hb2.mono B96.out.size)
              have hu53 := Try.underlying53
              have hth := there_new53
              clear hym hyr HJ
              have HAWX : Hid (AH W2 B1 B1 va2 HH2) := HAW.out
              have B9X : Hid (Below w9.heap.size w9 W2) := B9W.out
              have BWX : Hid (Below W2.heap.size W2 W2) := Below.refl _ _
              have HE1 : Hid (y.h1 = true ∧ y.v1 = x2) := by
                have e1 := HP2.out
                have e2 := HX2.out
                show _ ∧ _
                cases o2 with
                | none => simp at e1
                | some z => simp only [orZero] at e2; rw [e2]; exact hbr.2 z rfl
              have hdh1 := dhas_any B1 B1 m 1 (by omega) va2 HH2 y W2 (HAWX.out) HYM.out
              rw [show y.hk 1 = true from HE1.out.1] at hdh1
              simp only [show ((1 : Nat) : Int) = 1 from rfl] at hdh1
              go_wp2_with fail
              refine hdh1.mono ?_
              rintro e W2 ⟨rfl, rfl⟩
              clear hdh1
              obtain ⟨f1, id1, e11, n11, q11, e21, n21, q21, bs11, bs21, hvx1, hid1, hy11, hy21⟩ := VoteD.shape K2.out
              have hdv1 := dvote_any B1 B1 m 1 (by omega) va2 HH2 y f1 id1 e11 e21 n11 n21 q11 q21 W2 HAWX.out HYM.out (by show y.v1 = _; rw [HE1.out.2, hvx1])
              simp only [show ((1 : Nat) : Int) = 1 from rfl] at hdv1
              go_wp2_with fail
              refine hdv1.mono ?_
              rintro e w21 ⟨rfl, hb21⟩
              clear hdv1
              have hon15 := oneAll_ids id1
              have hidl1 : (id1.map (Value.int .u8)).length = 32 := by simp [hid1]
              have hwx1 : Below w9.heap.size w9 w21 := below_then B9X.out (Nat.le_refl _) hb21
              have hrx1 : Hid (w21.rangeAt b16 0 x2.cells) := rangeAt_below HBX2.out (below_then BWX.out (Nat.le_refl _) hb21)
              have hidr1 : ∀ z : Array Value, z.size = 32 → canRd ((w21.alloc (.cells z 53)).setCells w21.heap.size 0 (id1.map (Value.int .u8))) w21.heap.size 0 32 := fun z hz => canRd_of_range (id_new w21 z hz id1 hid1).1 (by simp [hid1])
              have hidd1 : ∀ z : Array Value, z.size = 32 → rd ((w21.alloc (.cells z 53)).setCells w21.heap.size 0 (id1.map (Value.int .u8))) w21.heap.size 0 32 = (id1.map (Value.int .u8)).toArray := fun z hz => rd_of_range (id_new w21 z hz id1 hid1).1 (by simp [hid1])
              have hpr1 : ∀ z : Array Value, z.size = 32 → canRd ((w21.alloc (.cells z 53)).setCells w21.heap.size 0 (id1.map (Value.int .u8))) b16 0 35 := fun z hz => canRd_of_range (rangeAt_below hrx1.out (id_new w21 z hz id1 hid1).2) hcl2
              have hpd1 : ∀ z : Array Value, z.size = 32 → rd ((w21.alloc (.cells z 53)).setCells w21.heap.size 0 (id1.map (Value.int .u8))) b16 0 35 = (VoteD.mk f1 id1 (.slice e11 n11 q11) (.slice e21 n21 q21)).cells.toArray := fun z hz => by rw [← hvx1]; exact rd_of_range (rangeAt_below hrx1.out (id_new w21 z hz id1 hid1).2) hcl2
              have HNB1 : Hid (∀ z : Array Value, z.size = 32 → Below w21.heap.size w21 ((w21.alloc (.cells z 53)).setCells w21.heap.size 0 (id1.map (Value.int .u8)))) := fun z hz => (id_new w21 z hz id1 hid1).2
              go_wp2_with fail
              generalize hW31 : World.setCells _ w21.heap.size 0 _ = W31
              have hb31 : Below w21.heap.size w21 W31 := by rw [← hW31]; exact HNB1.out _ (by simp)
              clear hW31 hidr1 hidd1 hpr1 hpd1
              have hw31 : Below w9.heap.size w9 W31 := below_then hwx1 (Nat.le_refl _) hb31
              refine (voteIs_any f1 id1 e11 e21 n11 n21 q11 q21 bs11 bs21 W31 hid1 (hy11.below hw31) (hy21.below hw31)).mono ?_
              rintro e w41 ⟨rfl, hb41⟩
              have hbe1 : Below W2.heap.size W2 w41 := below_then (below_then hb21 (Nat.le_refl _) hb31) (Nat.le_refl _) hb41
              have BW41 : Hid (Below W2.heap.size W2 w41) := below_then BWX.out (Nat.le_refl _) hbe1
              clear hb21 hb31 hb41 hw31 hwx1 hon15
              go_wp2_with fail
              go_ret
              exact ⟨rfl, below_then hbW2 (Nat.le_refl _) BW41.out⟩
      · have hl3' : ¬ ((us.length : Int) = 3) := by omega
        have HN3 : Hid (¬ (us.length = 3 ∧ ∀ y, us[0]? = some y → r < y.rnd)) := fun h => hlen3 h.1
        clear hlen3
        go_wp2_with fail
        generalize hW2 : World.setCells _ w18.heap.size 0 _ = W2
        obtain ⟨hbx2, hb2a⟩ : W2.rangeAt w18.heap.size 0 x2.cells ∧ Below w18.heap.size w18 W2 := by rw [← hW2]; exact HVB.out _ (by simp)
        have hb2 : Below w16.heap.size w16 W2 := below_then HBW.out (Nat.le_refl _) hb2a
        have HBX1' : Hid (W2.rangeAt b14 0 x1.cells) := rangeAt_below HBX1.out hb2a
        have HBX2 : Hid (W2.rangeAt w18.heap.size 0 x2.cells) := hbx2
        clear hW2 HVB hbx2 hb2a HBX1 hth2
        generalize w18.heap.size = b16 at *
        have HAW : Hid (AH W2 B1 B1 va2 HH2) := HA16.out.below hb2
        have hbW2 : Below w.heap.size w W2 := below_then hb16' (Nat.le_refl _) hb2
        have hdl := dlen_any B1 B1 va2 HH2 W2 HAW.out
        obtain ⟨N, hN⟩ : ∃ N, N = HH2.length := ⟨_, rfl⟩
        rw [← hN] at hdl
        have HNL : Hid (N = HH2.length) := hN
        have hN3 : N ≤ 3 := by rw [hN]; exact HSH.out.1
        clear hN
        refine hdl.mono ?_
        rintro e W2 ⟨rfl, rfl⟩
        clear hdl
        go_wp2_with fail
        go_loopw [19, 20] (fun jv iv wr => ∃ (i : Nat) (jj : Int), i ≤ N ∧ iv = .int .i64 i ∧ jv = .int .i64 jj ∧ W2 = wr ∧ ((jj = -1 ∧ ∀ k y, k < i → HH2[k]? = some y → y.rnd ≠ r) ∨ ∃ (m : Nat) (y : HrD), m < i ∧ jj = (m : Int) ∧ HH2[m]? = some y ∧ y.rnd = r)) (fun _ iv _ => N - (intOf iv).toNat)
        case atStart => exact ⟨0, -1, Nat.zero_le _, rfl, rfl, rfl, .inl ⟨rfl, fun k y hk => by omega⟩⟩
        case round =>
          obtain ⟨i, jj, hi, rfl, rfl, rfl, hjj⟩ := hrel
          have HJ : Hid ((jj = -1 ∧ ∀ k y, k < i → HH2[k]? = some y → y.rnd ≠ r) ∨ ∃ (m : Nat) (y : HrD), m < i ∧ jj = (m : Int) ∧ HH2[m]? = some y ∧ y.rnd = r) := hjj
          clear hjj
          by_cases hlt : i < N
          · obtain ⟨y, hy⟩ : ∃ y, HH2[i]? = some y := ⟨_, List.getElem?_eq_getElem (by rw [← HNL.out]; exact hlt)⟩
            have HY : Hid (HH2[i]? = some y) := hy
            have hdr := dround_any B1 B1 i va2 HH2 y W2 HAW.out hy
            have hlt' : (i : Int) < (N : Int) := by omega
            clear hy
            go_wp2_with fail
            refine hdr.mono ?_
            rintro e W2 ⟨rfl, rfl⟩
            clear hdr
            by_cases he : y.rnd = r
            · have heb : (y.rnd == r) = true := by simpa using he
              go_wp2_with fail
              go_roundw
              case rel => exact ⟨i + 1, _, by omega, by go_num, rfl, trivial, .inr ⟨i, y, by omega, rfl, HY.out, he⟩⟩
              case measure => simp [intOf]; omega
            · have heb : (y.rnd == r) = false := by simpa using he
              have HJ' : Hid ((jj = -1 ∧ ∀ k y, k < i + 1 → HH2[k]? = some y → y.rnd ≠ r) ∨ ∃ (m : Nat) (y : HrD), m < i + 1 ∧ jj = (m : Int) ∧ HH2[m]? = some y ∧ y.rnd = r) := by
                rcases HJ.out with ⟨h1, h2⟩ | ⟨m, z, h1, h2, h3, h4⟩
                · refine .inl ⟨h1, fun k z hk hz => ?_⟩
                  by_cases hki : k = i
                  · subst hki; rw [HY.out] at hz; cases hz; exact he
                  · exact h2 k z (by omega) hz
                · exact .inr ⟨m, z, by omega, h2, h3, h4⟩
              go_wp2_with fail
              go_roundw
              case rel => exact ⟨i + 1, jj, by omega, by go_num, rfl, trivial, HJ'.out⟩
              case measure => simp [intOf]; omega
          · have hiN : i = N := by omega
            subst hiN
            obtain ⟨m, y, hm, hjm, hym, hyr⟩ : ∃ (m : Nat) (y : HrD), m < i ∧ jj = (m : Int) ∧ HH2[m]? = some y ∧ y.rnd = r := by
              rcases HJ.out with ⟨h1, h2⟩ | h
              · exfalso
                obtain ⟨z, hz, hzr⟩ := held_law us r o1 o2 hul3.out HGU.out (fun h => absurd (HP2.out.trans (by rw [h.2])) (by decide)) HN3.out
                rw [← HHP.out] at hz
                obtain ⟨k, hk, hke⟩ := List.mem_iff_getElem.1 hz
                exact h2 k z (by rw [HNL.out]; exact hk) (by rw [List.getElem?_eq_getElem hk, hke]) hzr
              · exact h
            subst hjm
            have hbr := bears_law us r o1 o2 hul3.out HGU.out y (by rw [← HHP.out]; exact List.mem_of_getElem? hym) hyr
            have HYM : Hid (HH2[m]? = some y) := hym
            have hin0 : (i : Int) ≤ (i : Int) := Int.le_refl _
            have hm0 : ¬ ((m : Int) < 0) := by omega
            have B9W : Hid (Below w9.heap.size w9 W2) := B96.out.trans (hb2.mono B96.out.size)
            have hu53 := Try.underlying53
            have hth := there_new53
            clear hym hyr HJ
            have HAWX : Hid (AH W2 B1 B1 va2 HH2) := HAW.out
            have B9X : Hid (Below w9.heap.size w9 W2) := B9W.out
            have BWX : Hid (Below W2.heap.size W2 W2) := Below.refl _ _
            have HE1 : Hid (y.h1 = true ∧ y.v1 = x2) := by
              have e1 := HP2.out
              have e2 := HX2.out
              show _ ∧ _
              cases o2 with
              | none => simp at e1
              | some z => simp only [orZero] at e2; rw [e2]; exact hbr.2 z rfl
            have hdh1 := dhas_any B1 B1 m 1 (by omega) va2 HH2 y W2 (HAWX.out) HYM.out
            rw [show y.hk 1 = true from HE1.out.1] at hdh1
            simp only [show ((1 : Nat) : Int) = 1 from rfl] at hdh1
            go_wp2_with fail
            refine hdh1.mono ?_
            rintro e W2 ⟨rfl, rfl⟩
            clear hdh1
            obtain ⟨f1, id1, e11, n11, q11, e21, n21, q21, bs11, bs21, hvx1, hid1, hy11, hy21⟩ := VoteD.shape K2.out
            have hdv1 := dvote_any B1 B1 m 1 (by omega) va2 HH2 y f1 id1 e11 e21 n11 n21 q11 q21 W2 HAWX.out HYM.out (by show y.v1 = _; rw [HE1.out.2, hvx1])
            simp only [show ((1 : Nat) : Int) = 1 from rfl] at hdv1
            go_wp2_with fail
            refine hdv1.mono ?_
            rintro e w21 ⟨rfl, hb21⟩
            clear hdv1
            have hon15 := oneAll_ids id1
            have hidl1 : (id1.map (Value.int .u8)).length = 32 := by simp [hid1]
            have hwx1 : Below w9.heap.size w9 w21 := below_then B9X.out (Nat.le_refl _) hb21
            have hrx1 : Hid (w21.rangeAt b16 0 x2.cells) := rangeAt_below HBX2.out (below_then BWX.out (Nat.le_refl _) hb21)
            have hidr1 : ∀ z : Array Value, z.size = 32 → canRd ((w21.alloc (.cells z 53)).setCells w21.heap.size 0 (id1.map (Value.int .u8))) w21.heap.size 0 32 := fun z hz => canRd_of_range (id_new w21 z hz id1 hid1).1 (by simp [hid1])
            have hidd1 : ∀ z : Array Value, z.size = 32 → rd ((w21.alloc (.cells z 53)).setCells w21.heap.size 0 (id1.map (Value.int .u8))) w21.heap.size 0 32 = (id1.map (Value.int .u8)).toArray := fun z hz => rd_of_range (id_new w21 z hz id1 hid1).1 (by simp [hid1])
            have hpr1 : ∀ z : Array Value, z.size = 32 → canRd ((w21.alloc (.cells z 53)).setCells w21.heap.size 0 (id1.map (Value.int .u8))) b16 0 35 := fun z hz => canRd_of_range (rangeAt_below hrx1.out (id_new w21 z hz id1 hid1).2) hcl2
            have hpd1 : ∀ z : Array Value, z.size = 32 → rd ((w21.alloc (.cells z 53)).setCells w21.heap.size 0 (id1.map (Value.int .u8))) b16 0 35 = (VoteD.mk f1 id1 (.slice e11 n11 q11) (.slice e21 n21 q21)).cells.toArray := fun z hz => by rw [← hvx1]; exact rd_of_range (rangeAt_below hrx1.out (id_new w21 z hz id1 hid1).2) hcl2
            have HNB1 : Hid (∀ z : Array Value, z.size = 32 → Below w21.heap.size w21 ((w21.alloc (.cells z 53)).setCells w21.heap.size 0 (id1.map (Value.int .u8)))) := fun z hz => (id_new w21 z hz id1 hid1).2
            go_wp2_with fail
            generalize hW31 : World.setCells _ w21.heap.size 0 _ = W31
            have hb31 : Below w21.heap.size w21 W31 := by rw [← hW31]; exact HNB1.out _ (by simp)
            clear hW31 hidr1 hidd1 hpr1 hpd1
            have hw31 : Below w9.heap.size w9 W31 := below_then hwx1 (Nat.le_refl _) hb31
            refine (voteIs_any f1 id1 e11 e21 n11 n21 q11 q21 bs11 bs21 W31 hid1 (hy11.below hw31) (hy21.below hw31)).mono ?_
            rintro e w41 ⟨rfl, hb41⟩
            have hbe1 : Below W2.heap.size W2 w41 := below_then (below_then hb21 (Nat.le_refl _) hb31) (Nat.le_refl _) hb41
            have BW41 : Hid (Below W2.heap.size W2 w41) := below_then BWX.out (Nat.le_refl _) hbe1
            clear hb21 hb31 hb41 hw31 hwx1 hon15
            go_wp2_with fail
            go_ret
            exact ⟨rfl, below_then hbW2 (Nat.le_refl _) BW41.out⟩
  | true =>
    cases p2 with
    | false =>
      by_cases hlen3 : us.length = 3
      · obtain ⟨b, o, y0, hab, hy0, hok0, hr0⟩ := U9.out.cellsAt 0 (by omega)
        cases hab
        have hr0' : w9.cell? ⟨b, o, none⟩ = some (.int .i64 y0.rnd) := by have := hr0 0 _ (HrD.cells_0 y0); simpa using this
        have hcy : ∀ z : Array Value, z.size = 35 → ((w18.alloc (.cells z 43)).setCells w18.heap.size 0 x2.cells).cell? ⟨b, o, none⟩ = some (.int .i64 y0.rnd) := fun z hz => cell_below hr0' (B96.out.trans ((below_then HBW.out (Nat.le_refl _) (HVB.out z hz).2).mono B96.out.size))
        have hl3' : (us.length : Int) = 3 := by omega
        have HL3 : Hid (us.length = 3) := hlen3
        have HY0 : Hid (us[0]? = some y0) := hy0
        clear hr0 hr0' hy0 hok0
        by_cases hlow : r < y0.rnd
        · have HU : Hid (HH2 = us) := by
            show _ = _
            rw [HHP.out]
            exact low_law us r o1 o2 hul3.out HGU.out HL3.out (fun y hy => by rw [HY0.out] at hy; cases hy; exact hlow)
          clear hlen3
          go_wp2_with fail
          generalize hW2 : World.setCells _ w18.heap.size 0 _ = W2
          have hb2 : Below w16.heap.size w16 W2 := by rw [← hW2]; exact below_then HBW.out (Nat.le_refl _) (HVB.out _ (by simp)).2
          clear hW2 hcy
          refine (aheadIs_any B1 B1 va2 _ us W2 (by have := HA16.out.below hb2; rw [HU.out] at this; exact this) (U9.out.below (B96.out.trans (hb2.mono B96.out.size))) (by have := hul3.out; omega)).mono ?_
          rintro e w20 ⟨rfl, hb20⟩
          go_wp2_with fail
          go_ret
          exact ⟨rfl, below_then (below_then hb16' (Nat.le_refl _) hb2) (Nat.le_refl _) hb20⟩
        · have HN3 : Hid (¬ (us.length = 3 ∧ ∀ y, us[0]? = some y → r < y.rnd)) := fun h => hlow (h.2 y0 HY0.out)
          clear hlen3
          go_wp2_with fail
          generalize hW2 : World.setCells _ w18.heap.size 0 _ = W2
          obtain ⟨hbx2, hb2a⟩ : W2.rangeAt w18.heap.size 0 x2.cells ∧ Below w18.heap.size w18 W2 := by rw [← hW2]; exact HVB.out _ (by simp)
          have hb2 : Below w16.heap.size w16 W2 := below_then HBW.out (Nat.le_refl _) hb2a
          have HBX1' : Hid (W2.rangeAt b14 0 x1.cells) := rangeAt_below HBX1.out hb2a
          have HBX2 : Hid (W2.rangeAt w18.heap.size 0 x2.cells) := hbx2
          clear hW2 HVB hbx2 hb2a HBX1 hth2
          generalize w18.heap.size = b16 at *
          have HAW : Hid (AH W2 B1 B1 va2 HH2) := HA16.out.below hb2
          have hbW2 : Below w.heap.size w W2 := below_then hb16' (Nat.le_refl _) hb2
          have hdl := dlen_any B1 B1 va2 HH2 W2 HAW.out
          obtain ⟨N, hN⟩ : ∃ N, N = HH2.length := ⟨_, rfl⟩
          rw [← hN] at hdl
          have HNL : Hid (N = HH2.length) := hN
          have hN3 : N ≤ 3 := by rw [hN]; exact HSH.out.1
          clear hN
          refine hdl.mono ?_
          rintro e W2 ⟨rfl, rfl⟩
          clear hdl
          go_wp2_with fail
          go_loopw [19, 20] (fun jv iv wr => ∃ (i : Nat) (jj : Int), i ≤ N ∧ iv = .int .i64 i ∧ jv = .int .i64 jj ∧ W2 = wr ∧ ((jj = -1 ∧ ∀ k y, k < i → HH2[k]? = some y → y.rnd ≠ r) ∨ ∃ (m : Nat) (y : HrD), m < i ∧ jj = (m : Int) ∧ HH2[m]? = some y ∧ y.rnd = r)) (fun _ iv _ => N - (intOf iv).toNat)
          case atStart => exact ⟨0, -1, Nat.zero_le _, rfl, rfl, rfl, .inl ⟨rfl, fun k y hk => by omega⟩⟩
          case round =>
            obtain ⟨i, jj, hi, rfl, rfl, rfl, hjj⟩ := hrel
            have HJ : Hid ((jj = -1 ∧ ∀ k y, k < i → HH2[k]? = some y → y.rnd ≠ r) ∨ ∃ (m : Nat) (y : HrD), m < i ∧ jj = (m : Int) ∧ HH2[m]? = some y ∧ y.rnd = r) := hjj
            clear hjj
            by_cases hlt : i < N
            · obtain ⟨y, hy⟩ : ∃ y, HH2[i]? = some y := ⟨_, List.getElem?_eq_getElem (by rw [← HNL.out]; exact hlt)⟩
              have HY : Hid (HH2[i]? = some y) := hy
              have hdr := dround_any B1 B1 i va2 HH2 y W2 HAW.out hy
              have hlt' : (i : Int) < (N : Int) := by omega
              clear hy
              go_wp2_with fail
              refine hdr.mono ?_
              rintro e W2 ⟨rfl, rfl⟩
              clear hdr
              by_cases he : y.rnd = r
              · have heb : (y.rnd == r) = true := by simpa using he
                go_wp2_with fail
                go_roundw
                case rel => exact ⟨i + 1, _, by omega, by go_num, rfl, trivial, .inr ⟨i, y, by omega, rfl, HY.out, he⟩⟩
                case measure => simp [intOf]; omega
              · have heb : (y.rnd == r) = false := by simpa using he
                have HJ' : Hid ((jj = -1 ∧ ∀ k y, k < i + 1 → HH2[k]? = some y → y.rnd ≠ r) ∨ ∃ (m : Nat) (y : HrD), m < i + 1 ∧ jj = (m : Int) ∧ HH2[m]? = some y ∧ y.rnd = r) := by
                  rcases HJ.out with ⟨h1, h2⟩ | ⟨m, z, h1, h2, h3, h4⟩
                  · refine .inl ⟨h1, fun k z hk hz => ?_⟩
                    by_cases hki : k = i
                    · subst hki; rw [HY.out] at hz; cases hz; exact he
                    · exact h2 k z (by omega) hz
                  · exact .inr ⟨m, z, by omega, h2, h3, h4⟩
                go_wp2_with fail
                go_roundw
                case rel => exact ⟨i + 1, jj, by omega, by go_num, rfl, trivial, HJ'.out⟩
                case measure => simp [intOf]; omega
            · have hiN : i = N := by omega
              subst hiN
              obtain ⟨m, y, hm, hjm, hym, hyr⟩ : ∃ (m : Nat) (y : HrD), m < i ∧ jj = (m : Int) ∧ HH2[m]? = some y ∧ y.rnd = r := by
                rcases HJ.out with ⟨h1, h2⟩ | h
                · exfalso
                  obtain ⟨z, hz, hzr⟩ := held_law us r o1 o2 hul3.out HGU.out (fun h => absurd (HP1.out.trans (by rw [h.1])) (by decide)) HN3.out
                  rw [← HHP.out] at hz
                  obtain ⟨k, hk, hke⟩ := List.mem_iff_getElem.1 hz
                  exact h2 k z (by rw [HNL.out]; exact hk) (by rw [List.getElem?_eq_getElem hk, hke]) hzr
                · exact h
              subst hjm
              have hbr := bears_law us r o1 o2 hul3.out HGU.out y (by rw [← HHP.out]; exact List.mem_of_getElem? hym) hyr
              have HYM : Hid (HH2[m]? = some y) := hym
              have hin0 : (i : Int) ≤ (i : Int) := Int.le_refl _
              have hm0 : ¬ ((m : Int) < 0) := by omega
              have B9W : Hid (Below w9.heap.size w9 W2) := B96.out.trans (hb2.mono B96.out.size)
              have hu53 := Try.underlying53
              have hth := there_new53
              clear hym hyr HJ
              have HAWX : Hid (AH W2 B1 B1 va2 HH2) := HAW.out
              have B9X : Hid (Below w9.heap.size w9 W2) := B9W.out
              have BWX : Hid (Below W2.heap.size W2 W2) := Below.refl _ _
              have HE0 : Hid (y.h0 = true ∧ y.v0 = x1) := by
                have e1 := HP1.out
                have e2 := HX1.out
                show _ ∧ _
                cases o1 with
                | none => simp at e1
                | some z => simp only [orZero] at e2; rw [e2]; exact hbr.1 z rfl
              have hdh0 := dhas_any B1 B1 m 0 (by omega) va2 HH2 y W2 (HAWX.out) HYM.out
              rw [show y.hk 0 = true from HE0.out.1] at hdh0
              simp only [show ((0 : Nat) : Int) = 0 from rfl] at hdh0
              go_wp2_with fail
              refine hdh0.mono ?_
              rintro e W2 ⟨rfl, rfl⟩
              clear hdh0
              obtain ⟨f0, id0, e10, n10, q10, e20, n20, q20, bs10, bs20, hvx0, hid0, hy10, hy20⟩ := VoteD.shape K1.out
              have hdv0 := dvote_any B1 B1 m 0 (by omega) va2 HH2 y f0 id0 e10 e20 n10 n20 q10 q20 W2 HAWX.out HYM.out (by show y.v0 = _; rw [HE0.out.2, hvx0])
              simp only [show ((0 : Nat) : Int) = 0 from rfl] at hdv0
              go_wp2_with fail
              refine hdv0.mono ?_
              rintro e w20 ⟨rfl, hb20⟩
              clear hdv0
              have hon05 := oneAll_ids id0
              have hidl0 : (id0.map (Value.int .u8)).length = 32 := by simp [hid0]
              have hwx0 : Below w9.heap.size w9 w20 := below_then B9X.out (Nat.le_refl _) hb20
              have hrx0 : Hid (w20.rangeAt b14 0 x1.cells) := rangeAt_below HBX1'.out (below_then BWX.out (Nat.le_refl _) hb20)
              have hidr0 : ∀ z : Array Value, z.size = 32 → canRd ((w20.alloc (.cells z 53)).setCells w20.heap.size 0 (id0.map (Value.int .u8))) w20.heap.size 0 32 := fun z hz => canRd_of_range (id_new w20 z hz id0 hid0).1 (by simp [hid0])
              have hidd0 : ∀ z : Array Value, z.size = 32 → rd ((w20.alloc (.cells z 53)).setCells w20.heap.size 0 (id0.map (Value.int .u8))) w20.heap.size 0 32 = (id0.map (Value.int .u8)).toArray := fun z hz => rd_of_range (id_new w20 z hz id0 hid0).1 (by simp [hid0])
              have hpr0 : ∀ z : Array Value, z.size = 32 → canRd ((w20.alloc (.cells z 53)).setCells w20.heap.size 0 (id0.map (Value.int .u8))) b14 0 35 := fun z hz => canRd_of_range (rangeAt_below hrx0.out (id_new w20 z hz id0 hid0).2) hcl1
              have hpd0 : ∀ z : Array Value, z.size = 32 → rd ((w20.alloc (.cells z 53)).setCells w20.heap.size 0 (id0.map (Value.int .u8))) b14 0 35 = (VoteD.mk f0 id0 (.slice e10 n10 q10) (.slice e20 n20 q20)).cells.toArray := fun z hz => by rw [← hvx0]; exact rd_of_range (rangeAt_below hrx0.out (id_new w20 z hz id0 hid0).2) hcl1
              have HNB0 : Hid (∀ z : Array Value, z.size = 32 → Below w20.heap.size w20 ((w20.alloc (.cells z 53)).setCells w20.heap.size 0 (id0.map (Value.int .u8)))) := fun z hz => (id_new w20 z hz id0 hid0).2
              go_wp2_with fail
              generalize hW30 : World.setCells _ w20.heap.size 0 _ = W30
              have hb30 : Below w20.heap.size w20 W30 := by rw [← hW30]; exact HNB0.out _ (by simp)
              clear hW30 hidr0 hidd0 hpr0 hpd0
              have hw30 : Below w9.heap.size w9 W30 := below_then hwx0 (Nat.le_refl _) hb30
              refine (voteIs_any f0 id0 e10 e20 n10 n20 q10 q20 bs10 bs20 W30 hid0 (hy10.below hw30) (hy20.below hw30)).mono ?_
              rintro e w40 ⟨rfl, hb40⟩
              have hbe0 : Below W2.heap.size W2 w40 := below_then (below_then hb20 (Nat.le_refl _) hb30) (Nat.le_refl _) hb40
              have BW40 : Hid (Below W2.heap.size W2 w40) := below_then BWX.out (Nat.le_refl _) hbe0
              clear hb20 hb30 hb40 hw30 hwx0 hon05
              go_wp2_with fail
              go_ret
              exact ⟨rfl, below_then hbW2 (Nat.le_refl _) BW40.out⟩
      · have hl3' : ¬ ((us.length : Int) = 3) := by omega
        have HN3 : Hid (¬ (us.length = 3 ∧ ∀ y, us[0]? = some y → r < y.rnd)) := fun h => hlen3 h.1
        clear hlen3
        go_wp2_with fail
        generalize hW2 : World.setCells _ w18.heap.size 0 _ = W2
        obtain ⟨hbx2, hb2a⟩ : W2.rangeAt w18.heap.size 0 x2.cells ∧ Below w18.heap.size w18 W2 := by rw [← hW2]; exact HVB.out _ (by simp)
        have hb2 : Below w16.heap.size w16 W2 := below_then HBW.out (Nat.le_refl _) hb2a
        have HBX1' : Hid (W2.rangeAt b14 0 x1.cells) := rangeAt_below HBX1.out hb2a
        have HBX2 : Hid (W2.rangeAt w18.heap.size 0 x2.cells) := hbx2
        clear hW2 HVB hbx2 hb2a HBX1 hth2
        generalize w18.heap.size = b16 at *
        have HAW : Hid (AH W2 B1 B1 va2 HH2) := HA16.out.below hb2
        have hbW2 : Below w.heap.size w W2 := below_then hb16' (Nat.le_refl _) hb2
        have hdl := dlen_any B1 B1 va2 HH2 W2 HAW.out
        obtain ⟨N, hN⟩ : ∃ N, N = HH2.length := ⟨_, rfl⟩
        rw [← hN] at hdl
        have HNL : Hid (N = HH2.length) := hN
        have hN3 : N ≤ 3 := by rw [hN]; exact HSH.out.1
        clear hN
        refine hdl.mono ?_
        rintro e W2 ⟨rfl, rfl⟩
        clear hdl
        go_wp2_with fail
        go_loopw [19, 20] (fun jv iv wr => ∃ (i : Nat) (jj : Int), i ≤ N ∧ iv = .int .i64 i ∧ jv = .int .i64 jj ∧ W2 = wr ∧ ((jj = -1 ∧ ∀ k y, k < i → HH2[k]? = some y → y.rnd ≠ r) ∨ ∃ (m : Nat) (y : HrD), m < i ∧ jj = (m : Int) ∧ HH2[m]? = some y ∧ y.rnd = r)) (fun _ iv _ => N - (intOf iv).toNat)
        case atStart => exact ⟨0, -1, Nat.zero_le _, rfl, rfl, rfl, .inl ⟨rfl, fun k y hk => by omega⟩⟩
        case round =>
          obtain ⟨i, jj, hi, rfl, rfl, rfl, hjj⟩ := hrel
          have HJ : Hid ((jj = -1 ∧ ∀ k y, k < i → HH2[k]? = some y → y.rnd ≠ r) ∨ ∃ (m : Nat) (y : HrD), m < i ∧ jj = (m : Int) ∧ HH2[m]? = some y ∧ y.rnd = r) := hjj
          clear hjj
          by_cases hlt : i < N
          · obtain ⟨y, hy⟩ : ∃ y, HH2[i]? = some y := ⟨_, List.getElem?_eq_getElem (by rw [← HNL.out]; exact hlt)⟩
            have HY : Hid (HH2[i]? = some y) := hy
            have hdr := dround_any B1 B1 i va2 HH2 y W2 HAW.out hy
            have hlt' : (i : Int) < (N : Int) := by omega
            clear hy
            go_wp2_with fail
            refine hdr.mono ?_
            rintro e W2 ⟨rfl, rfl⟩
            clear hdr
            by_cases he : y.rnd = r
            · have heb : (y.rnd == r) = true := by simpa using he
              go_wp2_with fail
              go_roundw
              case rel => exact ⟨i + 1, _, by omega, by go_num, rfl, trivial, .inr ⟨i, y, by omega, rfl, HY.out, he⟩⟩
              case measure => simp [intOf]; omega
            · have heb : (y.rnd == r) = false := by simpa using he
              have HJ' : Hid ((jj = -1 ∧ ∀ k y, k < i + 1 → HH2[k]? = some y → y.rnd ≠ r) ∨ ∃ (m : Nat) (y : HrD), m < i + 1 ∧ jj = (m : Int) ∧ HH2[m]? = some y ∧ y.rnd = r) := by
                rcases HJ.out with ⟨h1, h2⟩ | ⟨m, z, h1, h2, h3, h4⟩
                · refine .inl ⟨h1, fun k z hk hz => ?_⟩
                  by_cases hki : k = i
                  · subst hki; rw [HY.out] at hz; cases hz; exact he
                  · exact h2 k z (by omega) hz
                · exact .inr ⟨m, z, by omega, h2, h3, h4⟩
              go_wp2_with fail
              go_roundw
              case rel => exact ⟨i + 1, jj, by omega, by go_num, rfl, trivial, HJ'.out⟩
              case measure => simp [intOf]; omega
          · have hiN : i = N := by omega
            subst hiN
            obtain ⟨m, y, hm, hjm, hym, hyr⟩ : ∃ (m : Nat) (y : HrD), m < i ∧ jj = (m : Int) ∧ HH2[m]? = some y ∧ y.rnd = r := by
              rcases HJ.out with ⟨h1, h2⟩ | h
              · exfalso
                obtain ⟨z, hz, hzr⟩ := held_law us r o1 o2 hul3.out HGU.out (fun h => absurd (HP1.out.trans (by rw [h.1])) (by decide)) HN3.out
                rw [← HHP.out] at hz
                obtain ⟨k, hk, hke⟩ := List.mem_iff_getElem.1 hz
                exact h2 k z (by rw [HNL.out]; exact hk) (by rw [List.getElem?_eq_getElem hk, hke]) hzr
              · exact h
            subst hjm
            have hbr := bears_law us r o1 o2 hul3.out HGU.out y (by rw [← HHP.out]; exact List.mem_of_getElem? hym) hyr
            have HYM : Hid (HH2[m]? = some y) := hym
            have hin0 : (i : Int) ≤ (i : Int) := Int.le_refl _
            have hm0 : ¬ ((m : Int) < 0) := by omega
            have B9W : Hid (Below w9.heap.size w9 W2) := B96.out.trans (hb2.mono B96.out.size)
            have hu53 := Try.underlying53
            have hth := there_new53
            clear hym hyr HJ
            have HAWX : Hid (AH W2 B1 B1 va2 HH2) := HAW.out
            have B9X : Hid (Below w9.heap.size w9 W2) := B9W.out
            have BWX : Hid (Below W2.heap.size W2 W2) := Below.refl _ _
            have HE0 : Hid (y.h0 = true ∧ y.v0 = x1) := by
              have e1 := HP1.out
              have e2 := HX1.out
              show _ ∧ _
              cases o1 with
              | none => simp at e1
              | some z => simp only [orZero] at e2; rw [e2]; exact hbr.1 z rfl
            have hdh0 := dhas_any B1 B1 m 0 (by omega) va2 HH2 y W2 (HAWX.out) HYM.out
            rw [show y.hk 0 = true from HE0.out.1] at hdh0
            simp only [show ((0 : Nat) : Int) = 0 from rfl] at hdh0
            go_wp2_with fail
            refine hdh0.mono ?_
            rintro e W2 ⟨rfl, rfl⟩
            clear hdh0
            obtain ⟨f0, id0, e10, n10, q10, e20, n20, q20, bs10, bs20, hvx0, hid0, hy10, hy20⟩ := VoteD.shape K1.out
            have hdv0 := dvote_any B1 B1 m 0 (by omega) va2 HH2 y f0 id0 e10 e20 n10 n20 q10 q20 W2 HAWX.out HYM.out (by show y.v0 = _; rw [HE0.out.2, hvx0])
            simp only [show ((0 : Nat) : Int) = 0 from rfl] at hdv0
            go_wp2_with fail
            refine hdv0.mono ?_
            rintro e w20 ⟨rfl, hb20⟩
            clear hdv0
            have hon05 := oneAll_ids id0
            have hidl0 : (id0.map (Value.int .u8)).length = 32 := by simp [hid0]
            have hwx0 : Below w9.heap.size w9 w20 := below_then B9X.out (Nat.le_refl _) hb20
            have hrx0 : Hid (w20.rangeAt b14 0 x1.cells) := rangeAt_below HBX1'.out (below_then BWX.out (Nat.le_refl _) hb20)
            have hidr0 : ∀ z : Array Value, z.size = 32 → canRd ((w20.alloc (.cells z 53)).setCells w20.heap.size 0 (id0.map (Value.int .u8))) w20.heap.size 0 32 := fun z hz => canRd_of_range (id_new w20 z hz id0 hid0).1 (by simp [hid0])
            have hidd0 : ∀ z : Array Value, z.size = 32 → rd ((w20.alloc (.cells z 53)).setCells w20.heap.size 0 (id0.map (Value.int .u8))) w20.heap.size 0 32 = (id0.map (Value.int .u8)).toArray := fun z hz => rd_of_range (id_new w20 z hz id0 hid0).1 (by simp [hid0])
            have hpr0 : ∀ z : Array Value, z.size = 32 → canRd ((w20.alloc (.cells z 53)).setCells w20.heap.size 0 (id0.map (Value.int .u8))) b14 0 35 := fun z hz => canRd_of_range (rangeAt_below hrx0.out (id_new w20 z hz id0 hid0).2) hcl1
            have hpd0 : ∀ z : Array Value, z.size = 32 → rd ((w20.alloc (.cells z 53)).setCells w20.heap.size 0 (id0.map (Value.int .u8))) b14 0 35 = (VoteD.mk f0 id0 (.slice e10 n10 q10) (.slice e20 n20 q20)).cells.toArray := fun z hz => by rw [← hvx0]; exact rd_of_range (rangeAt_below hrx0.out (id_new w20 z hz id0 hid0).2) hcl1
            have HNB0 : Hid (∀ z : Array Value, z.size = 32 → Below w20.heap.size w20 ((w20.alloc (.cells z 53)).setCells w20.heap.size 0 (id0.map (Value.int .u8)))) := fun z hz => (id_new w20 z hz id0 hid0).2
            go_wp2_with fail
            generalize hW30 : World.setCells _ w20.heap.size 0 _ = W30
            have hb30 : Below w20.heap.size w20 W30 := by rw [← hW30]; exact HNB0.out _ (by simp)
            clear hW30 hidr0 hidd0 hpr0 hpd0
            have hw30 : Below w9.heap.size w9 W30 := below_then hwx0 (Nat.le_refl _) hb30
            refine (voteIs_any f0 id0 e10 e20 n10 n20 q10 q20 bs10 bs20 W30 hid0 (hy10.below hw30) (hy20.below hw30)).mono ?_
            rintro e w40 ⟨rfl, hb40⟩
            have hbe0 : Below W2.heap.size W2 w40 := below_then (below_then hb20 (Nat.le_refl _) hb30) (Nat.le_refl _) hb40
            have BW40 : Hid (Below W2.heap.size W2 w40) := below_then BWX.out (Nat.le_refl _) hbe0
            clear hb20 hb30 hb40 hw30 hwx0 hon05
            go_wp2_with fail
            go_ret
            exact ⟨rfl, below_then hbW2 (Nat.le_refl _) BW40.out⟩
    | true =>
      by_cases hlen3 : us.length = 3
      · obtain ⟨b, o, y0, hab, hy0, hok0, hr0⟩ := U9.out.cellsAt 0 (by omega)
        cases hab
        have hr0' : w9.cell? ⟨b, o, none⟩ = some (.int .i64 y0.rnd) := by have := hr0 0 _ (HrD.cells_0 y0); simpa using this
        have hcy : ∀ z : Array Value, z.size = 35 → ((w18.alloc (.cells z 43)).setCells w18.heap.size 0 x2.cells).cell? ⟨b, o, none⟩ = some (.int .i64 y0.rnd) := fun z hz => cell_below hr0' (B96.out.trans ((below_then HBW.out (Nat.le_refl _) (HVB.out z hz).2).mono B96.out.size))
        have hl3' : (us.length : Int) = 3 := by omega
        have HL3 : Hid (us.length = 3) := hlen3
        have HY0 : Hid (us[0]? = some y0) := hy0
        clear hr0 hr0' hy0 hok0
        by_cases hlow : r < y0.rnd
        · have HU : Hid (HH2 = us) := by
            show _ = _
            rw [HHP.out]
            exact low_law us r o1 o2 hul3.out HGU.out HL3.out (fun y hy => by rw [HY0.out] at hy; cases hy; exact hlow)
          clear hlen3
          go_wp2_with fail
          generalize hW2 : World.setCells _ w18.heap.size 0 _ = W2
          have hb2 : Below w16.heap.size w16 W2 := by rw [← hW2]; exact below_then HBW.out (Nat.le_refl _) (HVB.out _ (by simp)).2
          clear hW2 hcy
          refine (aheadIs_any B1 B1 va2 _ us W2 (by have := HA16.out.below hb2; rw [HU.out] at this; exact this) (U9.out.below (B96.out.trans (hb2.mono B96.out.size))) (by have := hul3.out; omega)).mono ?_
          rintro e w20 ⟨rfl, hb20⟩
          go_wp2_with fail
          go_ret
          exact ⟨rfl, below_then (below_then hb16' (Nat.le_refl _) hb2) (Nat.le_refl _) hb20⟩
        · have HN3 : Hid (¬ (us.length = 3 ∧ ∀ y, us[0]? = some y → r < y.rnd)) := fun h => hlow (h.2 y0 HY0.out)
          clear hlen3
          go_wp2_with fail
          generalize hW2 : World.setCells _ w18.heap.size 0 _ = W2
          obtain ⟨hbx2, hb2a⟩ : W2.rangeAt w18.heap.size 0 x2.cells ∧ Below w18.heap.size w18 W2 := by rw [← hW2]; exact HVB.out _ (by simp)
          have hb2 : Below w16.heap.size w16 W2 := below_then HBW.out (Nat.le_refl _) hb2a
          have HBX1' : Hid (W2.rangeAt b14 0 x1.cells) := rangeAt_below HBX1.out hb2a
          have HBX2 : Hid (W2.rangeAt w18.heap.size 0 x2.cells) := hbx2
          clear hW2 HVB hbx2 hb2a HBX1 hth2
          generalize w18.heap.size = b16 at *
          have HAW : Hid (AH W2 B1 B1 va2 HH2) := HA16.out.below hb2
          have hbW2 : Below w.heap.size w W2 := below_then hb16' (Nat.le_refl _) hb2
          have hdl := dlen_any B1 B1 va2 HH2 W2 HAW.out
          obtain ⟨N, hN⟩ : ∃ N, N = HH2.length := ⟨_, rfl⟩
          rw [← hN] at hdl
          have HNL : Hid (N = HH2.length) := hN
          have hN3 : N ≤ 3 := by rw [hN]; exact HSH.out.1
          clear hN
          refine hdl.mono ?_
          rintro e W2 ⟨rfl, rfl⟩
          clear hdl
          go_wp2_with fail
          go_loopw [19, 20] (fun jv iv wr => ∃ (i : Nat) (jj : Int), i ≤ N ∧ iv = .int .i64 i ∧ jv = .int .i64 jj ∧ W2 = wr ∧ ((jj = -1 ∧ ∀ k y, k < i → HH2[k]? = some y → y.rnd ≠ r) ∨ ∃ (m : Nat) (y : HrD), m < i ∧ jj = (m : Int) ∧ HH2[m]? = some y ∧ y.rnd = r)) (fun _ iv _ => N - (intOf iv).toNat)
          case atStart => exact ⟨0, -1, Nat.zero_le _, rfl, rfl, rfl, .inl ⟨rfl, fun k y hk => by omega⟩⟩
          case round =>
            obtain ⟨i, jj, hi, rfl, rfl, rfl, hjj⟩ := hrel
            have HJ : Hid ((jj = -1 ∧ ∀ k y, k < i → HH2[k]? = some y → y.rnd ≠ r) ∨ ∃ (m : Nat) (y : HrD), m < i ∧ jj = (m : Int) ∧ HH2[m]? = some y ∧ y.rnd = r) := hjj
            clear hjj
            by_cases hlt : i < N
            · obtain ⟨y, hy⟩ : ∃ y, HH2[i]? = some y := ⟨_, List.getElem?_eq_getElem (by rw [← HNL.out]; exact hlt)⟩
              have HY : Hid (HH2[i]? = some y) := hy
              have hdr := dround_any B1 B1 i va2 HH2 y W2 HAW.out hy
              have hlt' : (i : Int) < (N : Int) := by omega
              clear hy
              go_wp2_with fail
              refine hdr.mono ?_
              rintro e W2 ⟨rfl, rfl⟩
              clear hdr
              by_cases he : y.rnd = r
              · have heb : (y.rnd == r) = true := by simpa using he
                go_wp2_with fail
                go_roundw
                case rel => exact ⟨i + 1, _, by omega, by go_num, rfl, trivial, .inr ⟨i, y, by omega, rfl, HY.out, he⟩⟩
                case measure => simp [intOf]; omega
              · have heb : (y.rnd == r) = false := by simpa using he
                have HJ' : Hid ((jj = -1 ∧ ∀ k y, k < i + 1 → HH2[k]? = some y → y.rnd ≠ r) ∨ ∃ (m : Nat) (y : HrD), m < i + 1 ∧ jj = (m : Int) ∧ HH2[m]? = some y ∧ y.rnd = r) := by
                  rcases HJ.out with ⟨h1, h2⟩ | ⟨m, z, h1, h2, h3, h4⟩
                  · refine .inl ⟨h1, fun k z hk hz => ?_⟩
                    by_cases hki : k = i
                    · subst hki; rw [HY.out] at hz; cases hz; exact he
                    · exact h2 k z (by omega) hz
                  · exact .inr ⟨m, z, by omega, h2, h3, h4⟩
                go_wp2_with fail
                go_roundw
                case rel => exact ⟨i + 1, jj, by omega, by go_num, rfl, trivial, HJ'.out⟩
                case measure => simp [intOf]; omega
            · have hiN : i = N := by omega
              subst hiN
              obtain ⟨m, y, hm, hjm, hym, hyr⟩ : ∃ (m : Nat) (y : HrD), m < i ∧ jj = (m : Int) ∧ HH2[m]? = some y ∧ y.rnd = r := by
                rcases HJ.out with ⟨h1, h2⟩ | h
                · exfalso
                  obtain ⟨z, hz, hzr⟩ := held_law us r o1 o2 hul3.out HGU.out (fun h => absurd (HP1.out.trans (by rw [h.1])) (by decide)) HN3.out
                  rw [← HHP.out] at hz
                  obtain ⟨k, hk, hke⟩ := List.mem_iff_getElem.1 hz
                  exact h2 k z (by rw [HNL.out]; exact hk) (by rw [List.getElem?_eq_getElem hk, hke]) hzr
                · exact h
              subst hjm
              have hbr := bears_law us r o1 o2 hul3.out HGU.out y (by rw [← HHP.out]; exact List.mem_of_getElem? hym) hyr
              have HYM : Hid (HH2[m]? = some y) := hym
              have hin0 : (i : Int) ≤ (i : Int) := Int.le_refl _
              have hm0 : ¬ ((m : Int) < 0) := by omega
              have B9W : Hid (Below w9.heap.size w9 W2) := B96.out.trans (hb2.mono B96.out.size)
              have hu53 := Try.underlying53
              have hth := there_new53
              clear hym hyr HJ
              have HAWX : Hid (AH W2 B1 B1 va2 HH2) := HAW.out
              have B9X : Hid (Below w9.heap.size w9 W2) := B9W.out
              have BWX : Hid (Below W2.heap.size W2 W2) := Below.refl _ _
              have HE0 : Hid (y.h0 = true ∧ y.v0 = x1) := by
                have e1 := HP1.out
                have e2 := HX1.out
                show _ ∧ _
                cases o1 with
                | none => simp at e1
                | some z => simp only [orZero] at e2; rw [e2]; exact hbr.1 z rfl
              have hdh0 := dhas_any B1 B1 m 0 (by omega) va2 HH2 y W2 (HAWX.out) HYM.out
              rw [show y.hk 0 = true from HE0.out.1] at hdh0
              simp only [show ((0 : Nat) : Int) = 0 from rfl] at hdh0
              go_wp2_with fail
              refine hdh0.mono ?_
              rintro e W2 ⟨rfl, rfl⟩
              clear hdh0
              obtain ⟨f0, id0, e10, n10, q10, e20, n20, q20, bs10, bs20, hvx0, hid0, hy10, hy20⟩ := VoteD.shape K1.out
              have hdv0 := dvote_any B1 B1 m 0 (by omega) va2 HH2 y f0 id0 e10 e20 n10 n20 q10 q20 W2 HAWX.out HYM.out (by show y.v0 = _; rw [HE0.out.2, hvx0])
              simp only [show ((0 : Nat) : Int) = 0 from rfl] at hdv0
              go_wp2_with fail
              refine hdv0.mono ?_
              rintro e w20 ⟨rfl, hb20⟩
              clear hdv0
              have hon05 := oneAll_ids id0
              have hidl0 : (id0.map (Value.int .u8)).length = 32 := by simp [hid0]
              have hwx0 : Below w9.heap.size w9 w20 := below_then B9X.out (Nat.le_refl _) hb20
              have hrx0 : Hid (w20.rangeAt b14 0 x1.cells) := rangeAt_below HBX1'.out (below_then BWX.out (Nat.le_refl _) hb20)
              have hidr0 : ∀ z : Array Value, z.size = 32 → canRd ((w20.alloc (.cells z 53)).setCells w20.heap.size 0 (id0.map (Value.int .u8))) w20.heap.size 0 32 := fun z hz => canRd_of_range (id_new w20 z hz id0 hid0).1 (by simp [hid0])
              have hidd0 : ∀ z : Array Value, z.size = 32 → rd ((w20.alloc (.cells z 53)).setCells w20.heap.size 0 (id0.map (Value.int .u8))) w20.heap.size 0 32 = (id0.map (Value.int .u8)).toArray := fun z hz => rd_of_range (id_new w20 z hz id0 hid0).1 (by simp [hid0])
              have hpr0 : ∀ z : Array Value, z.size = 32 → canRd ((w20.alloc (.cells z 53)).setCells w20.heap.size 0 (id0.map (Value.int .u8))) b14 0 35 := fun z hz => canRd_of_range (rangeAt_below hrx0.out (id_new w20 z hz id0 hid0).2) hcl1
              have hpd0 : ∀ z : Array Value, z.size = 32 → rd ((w20.alloc (.cells z 53)).setCells w20.heap.size 0 (id0.map (Value.int .u8))) b14 0 35 = (VoteD.mk f0 id0 (.slice e10 n10 q10) (.slice e20 n20 q20)).cells.toArray := fun z hz => by rw [← hvx0]; exact rd_of_range (rangeAt_below hrx0.out (id_new w20 z hz id0 hid0).2) hcl1
              have HNB0 : Hid (∀ z : Array Value, z.size = 32 → Below w20.heap.size w20 ((w20.alloc (.cells z 53)).setCells w20.heap.size 0 (id0.map (Value.int .u8)))) := fun z hz => (id_new w20 z hz id0 hid0).2
              go_wp2_with fail
              generalize hW30 : World.setCells _ w20.heap.size 0 _ = W30
              have hb30 : Below w20.heap.size w20 W30 := by rw [← hW30]; exact HNB0.out _ (by simp)
              clear hW30 hidr0 hidd0 hpr0 hpd0
              have hw30 : Below w9.heap.size w9 W30 := below_then hwx0 (Nat.le_refl _) hb30
              refine (voteIs_any f0 id0 e10 e20 n10 n20 q10 q20 bs10 bs20 W30 hid0 (hy10.below hw30) (hy20.below hw30)).mono ?_
              rintro e w40 ⟨rfl, hb40⟩
              have hbe0 : Below W2.heap.size W2 w40 := below_then (below_then hb20 (Nat.le_refl _) hb30) (Nat.le_refl _) hb40
              have BW40 : Hid (Below W2.heap.size W2 w40) := below_then BWX.out (Nat.le_refl _) hbe0
              clear hb20 hb30 hb40 hw30 hwx0 hon05
              clear HAWX B9X BWX
              have HAWX : Hid (AH w40 B1 B1 va2 HH2) := HAW.out.below BW40.out
              have B9X : Hid (Below w9.heap.size w9 w40) := B9W.out.trans (BW40.out.mono B9W.out.size)
              have BWX : Hid (Below W2.heap.size W2 w40) := BW40.out
              have HE1 : Hid (y.h1 = true ∧ y.v1 = x2) := by
                have e1 := HP2.out
                have e2 := HX2.out
                show _ ∧ _
                cases o2 with
                | none => simp at e1
                | some z => simp only [orZero] at e2; rw [e2]; exact hbr.2 z rfl
              have hdh1 := dhas_any B1 B1 m 1 (by omega) va2 HH2 y w40 (HAWX.out) HYM.out
              rw [show y.hk 1 = true from HE1.out.1] at hdh1
              simp only [show ((1 : Nat) : Int) = 1 from rfl] at hdh1
              go_wp2_with fail
              refine hdh1.mono ?_
              rintro e w40 ⟨rfl, rfl⟩
              clear hdh1
              obtain ⟨f1, id1, e11, n11, q11, e21, n21, q21, bs11, bs21, hvx1, hid1, hy11, hy21⟩ := VoteD.shape K2.out
              have hdv1 := dvote_any B1 B1 m 1 (by omega) va2 HH2 y f1 id1 e11 e21 n11 n21 q11 q21 w40 HAWX.out HYM.out (by show y.v1 = _; rw [HE1.out.2, hvx1])
              simp only [show ((1 : Nat) : Int) = 1 from rfl] at hdv1
              go_wp2_with fail
              refine hdv1.mono ?_
              rintro e w21 ⟨rfl, hb21⟩
              clear hdv1
              have hon15 := oneAll_ids id1
              have hidl1 : (id1.map (Value.int .u8)).length = 32 := by simp [hid1]
              have hwx1 : Below w9.heap.size w9 w21 := below_then B9X.out (Nat.le_refl _) hb21
              have hrx1 : Hid (w21.rangeAt b16 0 x2.cells) := rangeAt_below HBX2.out (below_then BWX.out (Nat.le_refl _) hb21)
              have hidr1 : ∀ z : Array Value, z.size = 32 → canRd ((w21.alloc (.cells z 53)).setCells w21.heap.size 0 (id1.map (Value.int .u8))) w21.heap.size 0 32 := fun z hz => canRd_of_range (id_new w21 z hz id1 hid1).1 (by simp [hid1])
              have hidd1 : ∀ z : Array Value, z.size = 32 → rd ((w21.alloc (.cells z 53)).setCells w21.heap.size 0 (id1.map (Value.int .u8))) w21.heap.size 0 32 = (id1.map (Value.int .u8)).toArray := fun z hz => rd_of_range (id_new w21 z hz id1 hid1).1 (by simp [hid1])
              have hpr1 : ∀ z : Array Value, z.size = 32 → canRd ((w21.alloc (.cells z 53)).setCells w21.heap.size 0 (id1.map (Value.int .u8))) b16 0 35 := fun z hz => canRd_of_range (rangeAt_below hrx1.out (id_new w21 z hz id1 hid1).2) hcl2
              have hpd1 : ∀ z : Array Value, z.size = 32 → rd ((w21.alloc (.cells z 53)).setCells w21.heap.size 0 (id1.map (Value.int .u8))) b16 0 35 = (VoteD.mk f1 id1 (.slice e11 n11 q11) (.slice e21 n21 q21)).cells.toArray := fun z hz => by rw [← hvx1]; exact rd_of_range (rangeAt_below hrx1.out (id_new w21 z hz id1 hid1).2) hcl2
              have HNB1 : Hid (∀ z : Array Value, z.size = 32 → Below w21.heap.size w21 ((w21.alloc (.cells z 53)).setCells w21.heap.size 0 (id1.map (Value.int .u8)))) := fun z hz => (id_new w21 z hz id1 hid1).2
              go_wp2_with fail
              generalize hW31 : World.setCells _ w21.heap.size 0 _ = W31
              have hb31 : Below w21.heap.size w21 W31 := by rw [← hW31]; exact HNB1.out _ (by simp)
              clear hW31 hidr1 hidd1 hpr1 hpd1
              have hw31 : Below w9.heap.size w9 W31 := below_then hwx1 (Nat.le_refl _) hb31
              refine (voteIs_any f1 id1 e11 e21 n11 n21 q11 q21 bs11 bs21 W31 hid1 (hy11.below hw31) (hy21.below hw31)).mono ?_
              rintro e w41 ⟨rfl, hb41⟩
              have hbe1 : Below w40.heap.size w40 w41 := below_then (below_then hb21 (Nat.le_refl _) hb31) (Nat.le_refl _) hb41
              have BW41 : Hid (Below W2.heap.size W2 w41) := below_then BWX.out (Nat.le_refl _) hbe1
              clear hb21 hb31 hb41 hw31 hwx1 hon15
              go_wp2_with fail
              go_ret
              exact ⟨rfl, below_then hbW2 (Nat.le_refl _) BW41.out⟩
      · have hl3' : ¬ ((us.length : Int) = 3) := by omega
        have HN3 : Hid (¬ (us.length = 3 ∧ ∀ y, us[0]? = some y → r < y.rnd)) := fun h => hlen3 h.1
        clear hlen3
        go_wp2_with fail
        generalize hW2 : World.setCells _ w18.heap.size 0 _ = W2
        obtain ⟨hbx2, hb2a⟩ : W2.rangeAt w18.heap.size 0 x2.cells ∧ Below w18.heap.size w18 W2 := by rw [← hW2]; exact HVB.out _ (by simp)
        have hb2 : Below w16.heap.size w16 W2 := below_then HBW.out (Nat.le_refl _) hb2a
        have HBX1' : Hid (W2.rangeAt b14 0 x1.cells) := rangeAt_below HBX1.out hb2a
        have HBX2 : Hid (W2.rangeAt w18.heap.size 0 x2.cells) := hbx2
        clear hW2 HVB hbx2 hb2a HBX1 hth2
        generalize w18.heap.size = b16 at *
        have HAW : Hid (AH W2 B1 B1 va2 HH2) := HA16.out.below hb2
        have hbW2 : Below w.heap.size w W2 := below_then hb16' (Nat.le_refl _) hb2
        have hdl := dlen_any B1 B1 va2 HH2 W2 HAW.out
        obtain ⟨N, hN⟩ : ∃ N, N = HH2.length := ⟨_, rfl⟩
        rw [← hN] at hdl
        have HNL : Hid (N = HH2.length) := hN
        have hN3 : N ≤ 3 := by rw [hN]; exact HSH.out.1
        clear hN
        refine hdl.mono ?_
        rintro e W2 ⟨rfl, rfl⟩
        clear hdl
        go_wp2_with fail
        go_loopw [19, 20] (fun jv iv wr => ∃ (i : Nat) (jj : Int), i ≤ N ∧ iv = .int .i64 i ∧ jv = .int .i64 jj ∧ W2 = wr ∧ ((jj = -1 ∧ ∀ k y, k < i → HH2[k]? = some y → y.rnd ≠ r) ∨ ∃ (m : Nat) (y : HrD), m < i ∧ jj = (m : Int) ∧ HH2[m]? = some y ∧ y.rnd = r)) (fun _ iv _ => N - (intOf iv).toNat)
        case atStart => exact ⟨0, -1, Nat.zero_le _, rfl, rfl, rfl, .inl ⟨rfl, fun k y hk => by omega⟩⟩
        case round =>
          obtain ⟨i, jj, hi, rfl, rfl, rfl, hjj⟩ := hrel
          have HJ : Hid ((jj = -1 ∧ ∀ k y, k < i → HH2[k]? = some y → y.rnd ≠ r) ∨ ∃ (m : Nat) (y : HrD), m < i ∧ jj = (m : Int) ∧ HH2[m]? = some y ∧ y.rnd = r) := hjj
          clear hjj
          by_cases hlt : i < N
          · obtain ⟨y, hy⟩ : ∃ y, HH2[i]? = some y := ⟨_, List.getElem?_eq_getElem (by rw [← HNL.out]; exact hlt)⟩
            have HY : Hid (HH2[i]? = some y) := hy
            have hdr := dround_any B1 B1 i va2 HH2 y W2 HAW.out hy
            have hlt' : (i : Int) < (N : Int) := by omega
            clear hy
            go_wp2_with fail
            refine hdr.mono ?_
            rintro e W2 ⟨rfl, rfl⟩
            clear hdr
            by_cases he : y.rnd = r
            · have heb : (y.rnd == r) = true := by simpa using he
              go_wp2_with fail
              go_roundw
              case rel => exact ⟨i + 1, _, by omega, by go_num, rfl, trivial, .inr ⟨i, y, by omega, rfl, HY.out, he⟩⟩
              case measure => simp [intOf]; omega
            · have heb : (y.rnd == r) = false := by simpa using he
              have HJ' : Hid ((jj = -1 ∧ ∀ k y, k < i + 1 → HH2[k]? = some y → y.rnd ≠ r) ∨ ∃ (m : Nat) (y : HrD), m < i + 1 ∧ jj = (m : Int) ∧ HH2[m]? = some y ∧ y.rnd = r) := by
                rcases HJ.out with ⟨h1, h2⟩ | ⟨m, z, h1, h2, h3, h4⟩
                · refine .inl ⟨h1, fun k z hk hz => ?_⟩
                  by_cases hki : k = i
                  · subst hki; rw [HY.out] at hz; cases hz; exact he
                  · exact h2 k z (by omega) hz
                · exact .inr ⟨m, z, by omega, h2, h3, h4⟩
              go_wp2_with fail
              go_roundw
              case rel => exact ⟨i + 1, jj, by omega, by go_num, rfl, trivial, HJ'.out⟩
              case measure => simp [intOf]; omega
          · have hiN : i = N := by omega
            subst hiN
            obtain ⟨m, y, hm, hjm, hym, hyr⟩ : ∃ (m : Nat) (y : HrD), m < i ∧ jj = (m : Int) ∧ HH2[m]? = some y ∧ y.rnd = r := by
              rcases HJ.out with ⟨h1, h2⟩ | h
              · exfalso
                obtain ⟨z, hz, hzr⟩ := held_law us r o1 o2 hul3.out HGU.out (fun h => absurd (HP1.out.trans (by rw [h.1])) (by decide)) HN3.out
                rw [← HHP.out] at hz
                obtain ⟨k, hk, hke⟩ := List.mem_iff_getElem.1 hz
                exact h2 k z (by rw [HNL.out]; exact hk) (by rw [List.getElem?_eq_getElem hk, hke]) hzr
              · exact h
            subst hjm
            have hbr := bears_law us r o1 o2 hul3.out HGU.out y (by rw [← HHP.out]; exact List.mem_of_getElem? hym) hyr
            have HYM : Hid (HH2[m]? = some y) := hym
            have hin0 : (i : Int) ≤ (i : Int) := Int.le_refl _
            have hm0 : ¬ ((m : Int) < 0) := by omega
            have B9W : Hid (Below w9.heap.size w9 W2) := B96.out.trans (hb2.mono B96.out.size)
            have hu53 := Try.underlying53
            have hth := there_new53
            clear hym hyr HJ
            have HAWX : Hid (AH W2 B1 B1 va2 HH2) := HAW.out
            have B9X : Hid (Below w9.heap.size w9 W2) := B9W.out
            have BWX : Hid (Below W2.heap.size W2 W2) := Below.refl _ _
            have HE0 : Hid (y.h0 = true ∧ y.v0 = x1) := by
              have e1 := HP1.out
              have e2 := HX1.out
              show _ ∧ _
              cases o1 with
              | none => simp at e1
              | some z => simp only [orZero] at e2; rw [e2]; exact hbr.1 z rfl
            have hdh0 := dhas_any B1 B1 m 0 (by omega) va2 HH2 y W2 (HAWX.out) HYM.out
            rw [show y.hk 0 = true from HE0.out.1] at hdh0
            simp only [show ((0 : Nat) : Int) = 0 from rfl] at hdh0
            go_wp2_with fail
            refine hdh0.mono ?_
            rintro e W2 ⟨rfl, rfl⟩
            clear hdh0
            obtain ⟨f0, id0, e10, n10, q10, e20, n20, q20, bs10, bs20, hvx0, hid0, hy10, hy20⟩ := VoteD.shape K1.out
            have hdv0 := dvote_any B1 B1 m 0 (by omega) va2 HH2 y f0 id0 e10 e20 n10 n20 q10 q20 W2 HAWX.out HYM.out (by show y.v0 = _; rw [HE0.out.2, hvx0])
            simp only [show ((0 : Nat) : Int) = 0 from rfl] at hdv0
            go_wp2_with fail
            refine hdv0.mono ?_
            rintro e w20 ⟨rfl, hb20⟩
            clear hdv0
            have hon05 := oneAll_ids id0
            have hidl0 : (id0.map (Value.int .u8)).length = 32 := by simp [hid0]
            have hwx0 : Below w9.heap.size w9 w20 := below_then B9X.out (Nat.le_refl _) hb20
            have hrx0 : Hid (w20.rangeAt b14 0 x1.cells) := rangeAt_below HBX1'.out (below_then BWX.out (Nat.le_refl _) hb20)
            have hidr0 : ∀ z : Array Value, z.size = 32 → canRd ((w20.alloc (.cells z 53)).setCells w20.heap.size 0 (id0.map (Value.int .u8))) w20.heap.size 0 32 := fun z hz => canRd_of_range (id_new w20 z hz id0 hid0).1 (by simp [hid0])
            have hidd0 : ∀ z : Array Value, z.size = 32 → rd ((w20.alloc (.cells z 53)).setCells w20.heap.size 0 (id0.map (Value.int .u8))) w20.heap.size 0 32 = (id0.map (Value.int .u8)).toArray := fun z hz => rd_of_range (id_new w20 z hz id0 hid0).1 (by simp [hid0])
            have hpr0 : ∀ z : Array Value, z.size = 32 → canRd ((w20.alloc (.cells z 53)).setCells w20.heap.size 0 (id0.map (Value.int .u8))) b14 0 35 := fun z hz => canRd_of_range (rangeAt_below hrx0.out (id_new w20 z hz id0 hid0).2) hcl1
            have hpd0 : ∀ z : Array Value, z.size = 32 → rd ((w20.alloc (.cells z 53)).setCells w20.heap.size 0 (id0.map (Value.int .u8))) b14 0 35 = (VoteD.mk f0 id0 (.slice e10 n10 q10) (.slice e20 n20 q20)).cells.toArray := fun z hz => by rw [← hvx0]; exact rd_of_range (rangeAt_below hrx0.out (id_new w20 z hz id0 hid0).2) hcl1
            have HNB0 : Hid (∀ z : Array Value, z.size = 32 → Below w20.heap.size w20 ((w20.alloc (.cells z 53)).setCells w20.heap.size 0 (id0.map (Value.int .u8)))) := fun z hz => (id_new w20 z hz id0 hid0).2
            go_wp2_with fail
            generalize hW30 : World.setCells _ w20.heap.size 0 _ = W30
            have hb30 : Below w20.heap.size w20 W30 := by rw [← hW30]; exact HNB0.out _ (by simp)
            clear hW30 hidr0 hidd0 hpr0 hpd0
            have hw30 : Below w9.heap.size w9 W30 := below_then hwx0 (Nat.le_refl _) hb30
            refine (voteIs_any f0 id0 e10 e20 n10 n20 q10 q20 bs10 bs20 W30 hid0 (hy10.below hw30) (hy20.below hw30)).mono ?_
            rintro e w40 ⟨rfl, hb40⟩
            have hbe0 : Below W2.heap.size W2 w40 := below_then (below_then hb20 (Nat.le_refl _) hb30) (Nat.le_refl _) hb40
            have BW40 : Hid (Below W2.heap.size W2 w40) := below_then BWX.out (Nat.le_refl _) hbe0
            clear hb20 hb30 hb40 hw30 hwx0 hon05
            clear HAWX B9X BWX
            have HAWX : Hid (AH w40 B1 B1 va2 HH2) := HAW.out.below BW40.out
            have B9X : Hid (Below w9.heap.size w9 w40) := B9W.out.trans (BW40.out.mono B9W.out.size)
            have BWX : Hid (Below W2.heap.size W2 w40) := BW40.out
            have HE1 : Hid (y.h1 = true ∧ y.v1 = x2) := by
              have e1 := HP2.out
              have e2 := HX2.out
              show _ ∧ _
              cases o2 with
              | none => simp at e1
              | some z => simp only [orZero] at e2; rw [e2]; exact hbr.2 z rfl
            have hdh1 := dhas_any B1 B1 m 1 (by omega) va2 HH2 y w40 (HAWX.out) HYM.out
            rw [show y.hk 1 = true from HE1.out.1] at hdh1
            simp only [show ((1 : Nat) : Int) = 1 from rfl] at hdh1
            go_wp2_with fail
            refine hdh1.mono ?_
            rintro e w40 ⟨rfl, rfl⟩
            clear hdh1
            obtain ⟨f1, id1, e11, n11, q11, e21, n21, q21, bs11, bs21, hvx1, hid1, hy11, hy21⟩ := VoteD.shape K2.out
            have hdv1 := dvote_any B1 B1 m 1 (by omega) va2 HH2 y f1 id1 e11 e21 n11 n21 q11 q21 w40 HAWX.out HYM.out (by show y.v1 = _; rw [HE1.out.2, hvx1])
            simp only [show ((1 : Nat) : Int) = 1 from rfl] at hdv1
            go_wp2_with fail
            refine hdv1.mono ?_
            rintro e w21 ⟨rfl, hb21⟩
            clear hdv1
            have hon15 := oneAll_ids id1
            have hidl1 : (id1.map (Value.int .u8)).length = 32 := by simp [hid1]
            have hwx1 : Below w9.heap.size w9 w21 := below_then B9X.out (Nat.le_refl _) hb21
            have hrx1 : Hid (w21.rangeAt b16 0 x2.cells) := rangeAt_below HBX2.out (below_then BWX.out (Nat.le_refl _) hb21)
            have hidr1 : ∀ z : Array Value, z.size = 32 → canRd ((w21.alloc (.cells z 53)).setCells w21.heap.size 0 (id1.map (Value.int .u8))) w21.heap.size 0 32 := fun z hz => canRd_of_range (id_new w21 z hz id1 hid1).1 (by simp [hid1])
            have hidd1 : ∀ z : Array Value, z.size = 32 → rd ((w21.alloc (.cells z 53)).setCells w21.heap.size 0 (id1.map (Value.int .u8))) w21.heap.size 0 32 = (id1.map (Value.int .u8)).toArray := fun z hz => rd_of_range (id_new w21 z hz id1 hid1).1 (by simp [hid1])
            have hpr1 : ∀ z : Array Value, z.size = 32 → canRd ((w21.alloc (.cells z 53)).setCells w21.heap.size 0 (id1.map (Value.int .u8))) b16 0 35 := fun z hz => canRd_of_range (rangeAt_below hrx1.out (id_new w21 z hz id1 hid1).2) hcl2
            have hpd1 : ∀ z : Array Value, z.size = 32 → rd ((w21.alloc (.cells z 53)).setCells w21.heap.size 0 (id1.map (Value.int .u8))) b16 0 35 = (VoteD.mk f1 id1 (.slice e11 n11 q11) (.slice e21 n21 q21)).cells.toArray := fun z hz => by rw [← hvx1]; exact rd_of_range (rangeAt_below hrx1.out (id_new w21 z hz id1 hid1).2) hcl2
            have HNB1 : Hid (∀ z : Array Value, z.size = 32 → Below w21.heap.size w21 ((w21.alloc (.cells z 53)).setCells w21.heap.size 0 (id1.map (Value.int .u8)))) := fun z hz => (id_new w21 z hz id1 hid1).2
            go_wp2_with fail
            generalize hW31 : World.setCells _ w21.heap.size 0 _ = W31
            have hb31 : Below w21.heap.size w21 W31 := by rw [← hW31]; exact HNB1.out _ (by simp)
            clear hW31 hidr1 hidd1 hpr1 hpd1
            have hw31 : Below w9.heap.size w9 W31 := below_then hwx1 (Nat.le_refl _) hb31
            refine (voteIs_any f1 id1 e11 e21 n11 n21 q11 q21 bs11 bs21 W31 hid1 (hy11.below hw31) (hy21.below hw31)).mono ?_
            rintro e w41 ⟨rfl, hb41⟩
            have hbe1 : Below w40.heap.size w40 w41 := below_then (below_then hb21 (Nat.le_refl _) hb31) (Nat.le_refl _) hb41
            have BW41 : Hid (Below W2.heap.size W2 w41) := below_then BWX.out (Nat.le_refl _) hbe1
            clear hb21 hb31 hb41 hw31 hwx1 hon15
            go_wp2_with fail
            go_ret
            exact ⟨rfl, below_then hbW2 (Nat.le_refl _) BW41.out⟩
end Go.Proofs.Qxb6604712a
