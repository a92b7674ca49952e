/-
  Seat b6604712a: the walk of the law FnHoldRoundKeepsHighestRounds.
-/
import Derived.Test.Qxb6604712aVinc
import Derived.Test.Qxb6604712aZz6
namespace Go.Proofs.Qxb6604712a
open Go.RowKit
set_option linter.unusedSimpArgs false
set_option linter.unusedVariables false

set_option maxRecDepth 100000 in
set_option maxHeartbeats 4000000 in
theorem law2_any (vh v1 v2 : Value) (hs : List HrD) (vs1 vs2 : List VoteD) (r f : Int) (w : World) (h : heldAt w vh hs) (h1 : votesAt w v1 vs1) (h2 : votesAt w v2 vs2) :
    Calls Try.prog 3 #[vh, .int .i64 r, v1, v2, .int .i64 f] w fun e w' => e = .returned (.bool true) ∧ Below w.heap.size w w' := by
  have HH : Hid (heldAt w vh hs) := h
  have H1 : Hid (votesAt w v1 vs1) := h1
  have H2 : Hid (votesAt w v2 vs2) := h2
  obtain ⟨ah, ch, eh, _, mh, _⟩ := h.1
  obtain ⟨a1, c1, e1, _, m1, _⟩ := h1.1
  obtain ⟨a2, c2, e2, _, m2, _⟩ := h2.1
  subst eh
  subst e1
  subst e2
  have hzz := zz6 _ _ _ hs vs1 vs2 r f w h h1 h2
  clear h h1 h2
  go_enter Try.func3, Try.ntmps3
  go_wp2_with fail
  refine hzz.mono ?_
  rintro e w ⟨⟨b0, rfl, -⟩, rfl⟩
  clear hzz
  cases b0
  · go_wp2_with fail
    go_ret
    exact ⟨rfl, Below.refl _ _⟩
  by_cases hl : (hs.length : Int) ≤ 65536 ∧ (vs1.length : Int) ≤ 65536 ∧ (vs2.length : Int) ≤ 65536
  rotate_left
  · have hbb := heldBytes_any _ hs w HH.out
    go_wp2_with fail
    all_goals first
      | (go_ret; exact ⟨rfl, Below.refl _ _⟩)
      | (exfalso; omega)
  obtain ⟨l0, l1, l2⟩ := hl
  have hb8 := heldBytes_any _ hs w HH.out (by omega)
  go_wp2_with fail
  refine hb8.mono ?_
  rintro e w1 ⟨⟨r0, rfl, hr0, hr0', hs0⟩, hb1⟩
  have HS0 : Hid (r0 ≤ 1048576 → ∀ x ∈ hs, x.small) := hs0
  have hv1 := votesBytes_any _ vs1 r0 w1 (H1.out.below hb1) hr0 (by omega)
  clear hs0 hb8
  go_wp2_with fail
  refine hv1.mono ?_
  rintro e w2 ⟨⟨r1, rfl, hr1, hr1', hs1⟩, q2, rfl⟩
  have HS1 : Hid (r1 ≤ 1048576 → r0 ≤ 1048576 ∧ ∀ x ∈ vs1, lenV x.ext ≤ 1048576 ∧ lenV x.sig ≤ 1048576) := hs1
  have hb2 : Below w.heap.size w (w1.drewN q2) := hb1.trans (below_drewN _ _ _)
  clear hs1 hv1 hb1
  generalize w1.drewN q2 = w2 at *
  have hv2 := votesBytes_any _ vs2 r1 w2 (H2.out.below hb2) hr1 (by omega)
  go_wp2_with fail
  refine hv2.mono ?_
  rintro e w3 ⟨⟨r2, rfl, hr2, hr2', hs2⟩, q3, rfl⟩
  have HS2 : Hid (r2 ≤ 1048576 → r1 ≤ 1048576 ∧ ∀ x ∈ vs2, lenV x.ext ≤ 1048576 ∧ lenV x.sig ≤ 1048576) := hs2
  have hb3 : Below w.heap.size w (w2.drewN q3) := hb2.trans (below_drewN _ _ _)
  clear hs2 hv2 hb2
  generalize w2.drewN q3 = w3 at *
  by_cases hr : r2 ≤ 1048576
  rotate_left
  · go_wp2_with fail
    all_goals first
      | (go_ret; exact ⟨rfl, hb3⟩)
      | (exfalso; omega)
  obtain ⟨g1, hsm2⟩ := HS2.out hr
  obtain ⟨g0, hsm1⟩ := HS1.out g1
  have hsm0 := HS0.out g0
  have M0 : Hid (∀ x ∈ hs, x.small) := hsm0
  have M1 : Hid (∀ x ∈ vs1, lenV x.ext ≤ 1048576 ∧ lenV x.sig ≤ 1048576) := hsm1
  have M2 : Hid (∀ x ∈ vs2, lenV x.ext ≤ 1048576 ∧ lenV x.sig ≤ 1048576) := hsm2
  clear HS0 HS1 HS2 hsm0 hsm1 hsm2 g0 g1 hr0 hr0' hr1 hr1' hr2 hr2'
  by_cases h3 : (hs.length : Int) ≤ 3
  rotate_left
  · go_wp2_with fail
    all_goals first
      | (go_ret; exact ⟨rfl, hb3⟩)
      | (exfalso; omega)
  have hi9 := heldIncreasing_any _ hs w3 (HH.out.below hb3) (by omega)
  go_wp2_with fail
  refine hi9.mono ?_
  rintro e w4 ⟨⟨b4, rfl, hg4⟩, hb4⟩
  have hb4' : Below w.heap.size w w4 := below_then hb3 (Nat.le_refl _) hb4
  have HG0 : Hid (b4 = true → Grows hs) := hg4
  clear hg4 hi9 hb4 hb3
  cases b4
  · go_wp2_with fail
    go_ret
    exact ⟨rfl, hb4'⟩
  have hi10 := vInc_any _ vs1 w4 (H1.out.below hb4') (by omega)
  go_wp2_with fail
  refine hi10.mono ?_
  rintro e w5 ⟨⟨b5, rfl, hg5⟩, hb5⟩
  have hb5' : Below w.heap.size w w5 := below_then hb4' (Nat.le_refl _) hb5
  have HG1 : Hid (b5 = true → VGrows vs1) := hg5
  clear hg5 hi10 hb5 hb4'
  cases b5
  · go_wp2_with fail
    go_ret
    exact ⟨rfl, hb5'⟩
  have hi11 := vInc_any _ vs2 w5 (H2.out.below hb5') (by omega)
  go_wp2_with fail
  refine hi11.mono ?_
  rintro e w6 ⟨⟨b6, rfl, hg6⟩, hb6⟩
  have hb6' : Below w.heap.size w w6 := below_then hb5' (Nat.le_refl _) hb6
  have HG2 : Hid (b6 = true → VGrows vs2) := hg6
  clear hg6 hi11 hb6 hb5'
  cases b6
  · go_wp2_with fail
    go_ret
    exact ⟨rfl, hb6'⟩
  have hcl := cloneHeld_any _ hs w6 (HH.out.below hb6') (by omega) M0.out
  go_wp2_with fail
  refine hcl.mono ?_
  rintro e w7 ⟨vh', us, rfl, hus, hrn, hb7⟩
  have hul : us.length = hs.length := by have := congrArg List.length hrn; simpa using this
  have UH : Hid (heldAt w7 vh' us) := hus
  have HGU : Hid (Grows us) := grows_of_map hrn (HG0.out (by trivial))
  have hul3 : Hid (us.length ≤ 3) := by show _ ≤ _; omega
  have hb7' : Below w.heap.size w w7 := below_then hb6' (Nat.le_refl _) hb7
  clear hcl hus hrn hb7 hb6' M0 hul HG0
  have hc1 := cloneVotes_any _ vs1 w7 (H1.out.below hb7') (by omega) M1.out
  obtain ⟨av, nv, cv, hvf⟩ := UH.out.1.form
  subst hvf
  go_wp2_with fail
  refine hc1.mono ?_
  rintro e w8 ⟨v1', ws1, rfl, hw1, hf1, _, _, hb8⟩
  have hl1 : ws1.length = vs1.length := by have := congrArg List.length hf1; simpa using this
  have U1 : Hid (votesAt w8 v1' ws1) := hw1
  have G1 : Hid (VGrows ws1) := vgrows_of_map hf1 (HG1.out (by trivial))
  have N1 : Hid (ws1.length ≤ 65536) := by show _ ≤ _; omega
  have hb8' : Below w.heap.size w w8 := below_then hb7' (Nat.le_refl _) hb8
  have U8 : Hid (heldAt w8 (.slice av nv cv) us) := UH.out.below hb8
  clear hc1 hw1 hf1 hb8 hb7' M1 hl1 HG1 UH
  have hc2 := cloneVotes_any _ vs2 w8 (H2.out.below hb8') (by omega) M2.out
  obtain ⟨a1', n1', c1', hvf1⟩ := U1.out.1.form
  subst hvf1
  go_wp2_with fail
  refine hc2.mono ?_
  rintro e w9 ⟨v2', ws2, rfl, hw2, hf2, _, _, hb9⟩
  have hl2 : ws2.length = vs2.length := by have := congrArg List.length hf2; simpa using this
  have U2 : Hid (votesAt w9 v2' ws2) := hw2
  have G2 : Hid (VGrows ws2) := vgrows_of_map hf2 (HG2.out (by trivial))
  have N2 : Hid (ws2.length ≤ 65536) := by show _ ≤ _; omega
  have hb9' : Below w.heap.size w w9 := below_then hb8' (Nat.le_refl _) hb9
  have U9 : Hid (heldAt w9 (.slice av nv cv) us) := U8.out.below hb9
  have U19 : Hid (votesAt w9 (.slice a1' n1' c1') ws1) := U1.out.below hb9
  clear hc2 hw2 hf2 hb9 hb8' M2 hl2 HG2 U1 U8 HH H1 H2
  obtain ⟨a2', n2', c2', hvf2⟩ := U2.out.1.form
  subst hvf2
  have hbt := buildTallies_any r _ _ ws1 ws2 w9 U19.out U2.out (by have := N1.out; omega) (by have := N2.out; omega)
  go_wp2_with fail
  refine hbt.mono ?_
  rintro e w10 ⟨rfl, hI10, hb10⟩
  have hRS : RS w10 w10.heap.size w9.heap.size (talD r ws1 ws2) := ⟨hI10, Nat.le_refl _, G1.out, G2.out, (by show ws1.length ≤ _; have := N1.out; omega), (by show ws2.length ≤ _; have := N2.out; omega), fun x hx => (U19.out.2 x hx).sl, fun x hx => (U2.out.2 x hx).sl⟩
  have HRS : Hid (RS w10 w10.heap.size w9.heap.size (talD r ws1 ws2)) := hRS
  have B10 : Hid (Below w9.heap.size w9 w10) := hb10
  have hb10' : Below w.heap.size w w10 := below_then hb9' (Nat.le_refl _) hb10
  clear hbt hI10 hb10 hRS
  obtain ⟨gs, hgs⟩ : ∃ gs, gs = w9.heap.size := ⟨_, rfl⟩
  rw [← hgs] at HRS ⊢
  clear hgs
  have hba := buildAhead_any _ us w9 w10 U9.out B10.out (by have := hul3.out; omega)
  go_wp2_with fail
  refine hba.mono ?_
  rintro e w11 ⟨va, rfl, hA11, hb11⟩
  have HA11 : Hid (AH w11 w10.heap.size w10.heap.size va us) := hA11
  have hb11' : Below w.heap.size w w11 := below_then hb10' (Nat.le_refl _) hb11
  have B11 : Hid (Below w10.heap.size w10 w11) := hb11
  clear hba hA11 hb11
  have hzh := zzhold_any w10.heap.size w10.heap.size gs va us (talD r ws1 ws2) f w10 w11 HA11.out HRS.out B11.out hul3.out HGU.out
  go_wp2_with fail
  refine hzh.mono ?_
  rintro e w12 ⟨rfl, va2, hA12, hM12⟩
  have hmodel : stage us (talD r ws1 ws2) f 2 = modelL us r (findV ws1 f) (findV ws2 f) := model_law us r (findV ws1 f) (findV ws2 f) hul3.out HGU.out
  rw [hmodel] at hA12
  have HA12 : Hid (AH w12 w10.heap.size w10.heap.size va2 (modelL us r (findV ws1 f) (findV ws2 f))) := hA12
  have b12 : Below w10.heap.size w11 w12 := hM12.belowB HA11.out
  have hb12' : Below w.heap.size w w12 := hb11'.trans (b12.mono hb10'.size)
  have B12 : Hid (Below w9.heap.size w9 w12) := B10.out.trans ((B11.out.trans b12).mono B10.out.size)
  have HLen : Hid ((modelL us r (findV ws1 f) (findV ws2 f)).length ≤ 3) := by
    show _ ≤ _
    rw [← hmodel]
    exact (hold_shape' _ _ _ _ (hold_shape' us r 1 (findV ws1 f) hul3.out HGU.out).1 (hold_shape' us r 1 (findV ws1 f) hul3.out HGU.out).2).1
  clear hzh hA12 hM12 b12 hmodel
  have hmh := modelHold_any _ _ _ us ws1 ws2 r f w9 w12 U9.out U19.out U2.out B12.out (by have := hul3.out; omega) (by have := N1.out; omega) (by have := N2.out; omega)
  go_wp2_with fail
  refine hmh.mono ?_
  rintro e w13 ⟨vw, rfl, hsl, hb13⟩
  have B13 : Below w9.heap.size w9 w13 := below_then B12.out (Nat.le_refl _) hb13
  have hwant : heldAt w13 vw (modelL us r (findV ws1 f) (findV ws2 f)) := ⟨hsl, modelL_ok us r _ _ (fun x hx => (U9.out.2 x hx).below B13) (fun x hx => (U19.out.2 x (findV_mem hx)).below B13) (fun x hx => (U2.out.2 x (findV_mem hx)).below B13)⟩
  have hai := aheadIs_any w10.heap.size w10.heap.size va2 vw _ w13 (HA12.out.below hb13) hwant (by have := HLen.out; omega)
  have hb13' : Below w.heap.size w w13 := below_then hb12' (Nat.le_refl _) hb13
  obtain ⟨aw, nw, cw, hvw⟩ := hsl.form
  subst hvw
  clear hmh hsl hwant
  go_wp2_with fail
  refine hai.mono ?_
  rintro e w14 ⟨rfl, hb14⟩
  clear hai
  go_wp2_with fail
  go_ret
  exact ⟨rfl, below_then hb13' (Nat.le_refl _) hb14⟩
end Go.Proofs.Qxb6604712a
