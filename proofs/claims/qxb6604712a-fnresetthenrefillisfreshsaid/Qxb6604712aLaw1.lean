/-
  Seat b6604712a: FnResetThenRefillIsFresh answers true.
-/
import Derived.Test.Qxb6604712aLaw0
namespace Go.Proofs.Qxb6604712a
open Go.RowKit
set_option linter.unusedSimpArgs false
set_option linter.unusedVariables false
attribute [local go_sem ↓] exec_load62 exec_load59 exec_store62 exec_store59
attribute [local go_sem] ptrB ptrO isPtr

set_option maxRecDepth 100000 in
set_option maxHeartbeats 4000000 in
theorem law1_any (rn : Int) (f : FillD) (r : RefD) (bv1 bg1 bv2 bg2 : List Int) (vs1 vs2 us1 us2 : List VoteD) (ps1 ps2 qs1 qs2 : List PowD) (sw : List Int) (w : World) (hf : f.body.Ok w bv1 bg1 vs1 vs2 ps1 ps2) (hs : sliceAt w 1 f.sn sw.length (sw.map (Value.int .u64))) (hr : r.Ok w bv2 bg2 us1 us2 qs1 qs2) :
    Calls Try.prog 5 #[.int .i64 rn, .agg f.cells.toArray, .agg r.cells.toArray] w fun e w' => e = .returned (.bool true) ∧ Below w.heap.size w w' := by
  have hidf := hf.id
  have hidr := hr.id
  obtain ⟨sa, sc, hse⟩ : ∃ a c, f.sn = .slice a sw.length c := by obtain ⟨a, c, e, _⟩ := hs; exact ⟨a, c, e⟩
  obtain ⟨W, hW⟩ : ∃ W, W = (w.alloc (.cells f.cells.toArray 62)).alloc (.cells r.cells.toArray 59) := ⟨_, rfl⟩
  have hX := BX.init w f r
  obtain ⟨rF, cF, rB, cB, rR, cR, csn, cp1, cp2, cp3, cp4⟩ := hX.facts hidf hidr
  have HF : Hid (f.body.Ok w bv1 bg1 vs1 vs2 ps1 ps2) := hf
  have HS : Hid (sliceAt w 1 f.sn sw.length (sw.map (Value.int .u64))) := hs
  have HR : Hid (r.Ok w bv2 bg2 us1 us2 qs1 qs2) := hr
  clear hf hs hr
  rw [← hW] at hX
  go_enter Try.func5, Try.ntmps5
  go_wp2_with fail
  rw [← hW]
  clear rF cF rB cB rR cR csn cp1 cp2 cp3 cp4 hW
  refine (zzBytes_any rn f r bv1 bg1 bv2 bg2 vs1 vs2 us1 us2 ps1 ps2 qs1 qs2 sw W (HF.out.below hX.bel) (HS.out.below hX.bel) (HR.out.below hX.bel)).mono ?_
  rintro e w1 ⟨⟨b1, rfl, -⟩, hb1⟩
  have hX1 := hX.below hb1
  clear hX hb1 W
  obtain ⟨rF, cF, rB, cB, rR, cR, csn, cp1, cp2, cp3, cp4⟩ := hX1.facts hidf hidr
  rw [hse] at csn
  cases b1
  · go_wp2
    go_ret
    exact ⟨rfl, hX1.bel⟩
  go_wp2_with fail
  refine (fit_is f.body bv1 bg1 vs1 vs2 ps1 ps2 w1 (HF.out.below hX1.bel)).mono ?_
  rintro e w2 ⟨⟨b2, rfl, hfit1⟩, hb2⟩
  have hX2 := hX1.below hb2
  clear hX1 hb2 w1 rF cF rB cB rR cR csn cp1 cp2 cp3 cp4
  obtain ⟨rF, cF, rB, cB, rR, cR, csn, cp1, cp2, cp3, cp4⟩ := hX2.facts hidf hidr
  rw [hse] at csn
  cases b2
  · go_wp2
    go_ret
    exact ⟨rfl, hX2.bel⟩
  obtain ⟨p1, p2, p3, p4, p5, p6⟩ := hfit1 rfl
  clear hfit1
  go_wp2_with fail
  all_goals (try (go_ret; exact ⟨rfl, hX2.bel⟩))
  refine (fit_is r bv2 bg2 us1 us2 qs1 qs2 w2 (HR.out.below hX2.bel)).mono ?_
  rintro e w3 ⟨⟨b3, rfl, hfit2⟩, hb3⟩
  have hX3 := hX2.below hb3
  clear hX2 hb3 w2 rF cF rB cB rR cR csn cp1 cp2 cp3 cp4
  obtain ⟨rF, cF, rB, cB, rR, cR, csn, cp1, cp2, cp3, cp4⟩ := hX3.facts hidf hidr
  rw [hse] at csn
  have hsl : sw.length ≤ 65536 := by omega
  cases b3
  · go_wp2
    go_ret
    exact ⟨rfl, hX3.bel⟩
  obtain ⟨o1, o2, o3, o4, o5, o6⟩ := hfit2 rfl
  clear hfit2
  go_wp2_with fail
  have hmul : IntKind.i64.wrap (8 * (sw.length : Int)) = 8 * (sw.length : Int) := by rw [IntKind.wrap_i64]; omega
  go_region_held3 (fun w' => rd w' w.heap.size 0 47 = f.body.cells.toArray ∧ canRd w' w.heap.size 0 47 ∧ rd w' (w.heap.size + 1) 0 47 = r.cells.toArray ∧ canRd w' (w.heap.size + 1) 0 47 ∧ w'.cell? ⟨w.heap.size, 47, none⟩ = some (.slice sa sw.length sc))
    (first | exact ⟨rB, cB, rR, cR, csn⟩ | exact ⟨rB4, cB4, rR4, cR4, csn4⟩ | exact ⟨rB5, cB5, rR5, cR5, csn5⟩ | fail)
    (first | (go_at_call_of 29 (Value.agg f.body.cells.toArray); refine (refillBytes_any f.body bv1 bg1 vs1 vs2 ps1 ps2 _ _ (HF.out.below hX3.drew.bel) p1 p2 p5 p6 (by omega) (by omega)).mono ?_; rintro e w4 ⟨⟨z1, rfl, hz1, hz1', hz1s⟩, hb4⟩; obtain ⟨rF4, cF4, rB4, cB4, rR4, cR4, csn4, _, _, _, _⟩ := (hX3.drew.below hb4).facts hidf hidr; rw [hse] at csn4) | (go_at_call_of 29 (Value.agg r.cells.toArray); refine (refillBytes_any r bv2 bg2 us1 us2 qs1 qs2 _ _ (HR.out.below (hX3.drew.below hb4).bel) o1 o2 o5 o6 (by omega) (by omega)).mono ?_; rintro e w5 ⟨⟨z2, rfl, hz2, hz2', hz2s⟩, hb5⟩; obtain ⟨rF5, cF5, rB5, cB5, rR5, cR5, csn5, _, _, _, _⟩ := ((hX3.drew.below hb4).below hb5).facts hidf hidr; rw [hse] at csn5))
  have hX5 := (hX3.drew.below hb4).below hb5
  clear hmul hX3 hb4 hb5 rF cF rB cB rR cR csn cp1 cp2 cp3 cp4 rF4 cF4 rB4 cB4 rR4 cR4 csn4 rF5 cF5 rB5 cB5 rR5 cR5 csn5
  obtain ⟨rF, cF, rB, cB, rR, cR, csn, cp1, cp2, cp3, cp4⟩ := hX5.facts hidf hidr
  go_wp2_with fail
  · go_ret
    exact ⟨rfl, hX5.bel⟩
  have hz : z2 ≤ 1048576 := by omega
  obtain ⟨hz1n, hu1, hu2⟩ := hz2s hz
  obtain ⟨-, hv1, hv2⟩ := hz1s hz1n
  clear hz1s hz2s
  refine (votesIncreasing_any f.body.pv vs1 _ (HF.out.below hX5.bel).pv).mono ?_
  rintro e w6 ⟨⟨b5, rfl⟩, m5, hw⟩
  have hX6 : BX w f r w6 := by rw [hw]; exact hX5.drewN m5
  clear hw
  clear hX5 rF cF rB cB rR cR csn cp1 cp2 cp3 cp4
  obtain ⟨rF, cF, rB, cB, rR, cR, csn, cp1, cp2, cp3, cp4⟩ := hX6.facts hidf hidr
  cases b5
  · go_wp2
    go_ret
    exact ⟨rfl, hX6.bel⟩
  go_wp2_with fail
  refine (votesIncreasing_any f.body.pc vs2 _ (HF.out.below hX6.bel).pc).mono ?_
  rintro e w7 ⟨⟨b6, rfl⟩, m6, hw⟩
  have hX7 : BX w f r w7 := by rw [hw]; exact hX6.drewN m6
  clear hw
  clear hX6 rF cF rB cB rR cR csn cp1 cp2 cp3 cp4
  obtain ⟨rF, cF, rB, cB, rR, cR, csn, cp1, cp2, cp3, cp4⟩ := hX7.facts hidf hidr
  cases b6
  · go_wp2
    go_ret
    exact ⟨rfl, hX7.bel⟩
  go_wp2_with fail
  refine (votesIncreasing_any r.pv us1 _ (HR.out.below hX7.bel).pv).mono ?_
  rintro e w8 ⟨⟨b7, rfl⟩, m7, hw⟩
  have hX8 : BX w f r w8 := by rw [hw]; exact hX7.drewN m7
  clear hw
  clear hX7 rF cF rB cB rR cR csn cp1 cp2 cp3 cp4
  obtain ⟨rF, cF, rB, cB, rR, cR, csn, cp1, cp2, cp3, cp4⟩ := hX8.facts hidf hidr
  cases b7
  · go_wp2
    go_ret
    exact ⟨rfl, hX8.bel⟩
  go_wp2_with fail
  refine (votesIncreasing_any r.pc us2 _ (HR.out.below hX8.bel).pc).mono ?_
  rintro e w9 ⟨⟨b8, rfl⟩, m8, hw⟩
  have hX9 : BX w f r w9 := by rw [hw]; exact hX8.drewN m8
  clear hw
  clear hX8 rF cF rB cB rR cR csn cp1 cp2 cp3 cp4
  obtain ⟨rF, cF, rB, cB, rR, cR, csn, cp1, cp2, cp3, cp4⟩ := hX9.facts hidf hidr
  cases b8
  · go_wp2
    go_ret
    exact ⟨rfl, hX9.bel⟩
  go_wp2_with fail
  have hbf : bv1.length ≤ 1048576 := by omega
  have hbg : bg1.length ≤ 1048576 := by omega
  have hbf2 : bv2.length ≤ 1048576 := by omega
  have hbg2 : bg2.length ≤ 1048576 := by omega
  have hsw : sw.length ≤ 1048576 := by omega
  have hlt9 := hX9.lt
  refine (cloneFill_any f bv1 bg1 vs1 vs2 ps1 ps2 sw _ (HF.out.below hX9.bel) (HS.out.below hX9.bel) hbf hbg p3 p4 p5 p6 hsw hv1 hv2).mono ?_
  rintro e w10 ⟨f', xs1, xs2, rfl, hf', hs', hl1, hl2, hfrom, hfromS, hb10⟩
  have hX10 := hX9.below hb10
  have hth : w10.there w.heap.size 0 49 := there_of_block hX10.h1 0 49 (by simp [FillD.cells_len hidf])
  have hone : oneAll (.agg f'.cells.toArray) = true := by
    obtain ⟨e2, n2, cp2, hsn2⟩ := hs'.form
    unfold FillD.cells
    rw [hsn2]
    exact one_app (RefD.oneAll hf') e2 n2 cp2 f'.sp
  have hlen' := FillD.cells_len hf'.id
  obtain ⟨V, hV⟩ : ∃ V, V = w10.setCells w.heap.size 0 f'.cells := ⟨_, rfl⟩
  have hszV : V.heap.size = w10.heap.size := by rw [hV, size_setCells']
  have hY : BY w f' r V := by
    rw [hV]
    refine ⟨World.rangeAt_setCells_same _ _ _ _ (by rw [hlen']; exact hth), World.rangeAt_setCells_apart (range_of_block hX10.h2 0 _ (fun j v hv => by simpa using hv)) _ _ _ (.inl (by omega)), below_setCells' hX10.bel (Nat.le_refl _) _ _⟩
  have hf1 : f'.body.Ok V bv1 bg1 xs1 xs2 ps1 ps2 := by rw [hV]; exact hf'.apart (Apart.set1 (B1 := w.heap.size) (B2 := w.heap.size) w10 0 _) hfrom (by omega) (by omega)
  have hs1 : sliceAt V 1 f'.sn sw.length (sw.map (Value.int .u64)) := by rw [hV]; exact sliceAt.apart hs' (Apart.set1 (B1 := w.heap.size) (B2 := w.heap.size) w10 0 _) hfromS (by omega) (by omega)
  have hthR : V.there (w.heap.size + 1) 0 47 := by rw [hV]; exact World.there_setCells (there_of_block hX10.h2 0 47 (by simp [RefD.cells_len hidr])) _ _ _
  have hX10s := hb10.size
  have hidf' := hf'.id
  clear hX9 rF cF rB cB rR cR csn cp1 cp2 cp3 cp4 hf' hs' hb10
  obtain ⟨rF, cF, rR, cR⟩ := hY.facts hidf' hidr
  clear rF cF
  rw [hV] at rR cR
  go_wp2_with fail
  rw [← hV]
  clear rR cR hth hone hlen' hX10 hV
  refine (cloneRefill_any r bv2 bg2 us1 us2 qs1 qs2 V (HR.out.below hY.bel) hbf2 hbg2 o3 o4 o5 o6 hu1 hu2).mono ?_
  rintro e w11 ⟨r', ys1, ys2, rfl, hr', hl3, hl4, hfromR, hb11⟩
  have hY11 := hY.below (by omega) hb11
  have hb11s := hb11.size
  have hth : w11.there (w.heap.size + 1) 0 47 := there_below hthR hb11
  have hone := RefD.oneAll hr'
  have hlen' := RefD.cells_len hr'.id
  obtain ⟨U, hU⟩ : ∃ U, U = w11.setCells (w.heap.size + 1) 0 r'.cells := ⟨_, rfl⟩
  have hszU : U.heap.size = w11.heap.size := by rw [hU, size_setCells']
  have hZ : BY w f' r' U := by
    rw [hU]
    refine ⟨World.rangeAt_setCells_apart hY11.h1 _ _ _ (.inl (by omega)), World.rangeAt_setCells_same _ _ _ _ (by rw [hlen']; exact hth), below_setCells' hY11.bel (by omega) _ _⟩
  have hf2 : f'.body.Ok U bv1 bg1 xs1 xs2 ps1 ps2 := by rw [hU]; exact (hf1.below hb11).apart (Apart.set1 (B1 := w.heap.size + 1) (B2 := w.heap.size + 1) w11 0 _) hfrom (by omega) (by omega)
  have hs2 : sliceAt U 1 f'.sn sw.length (sw.map (Value.int .u64)) := by rw [hU]; exact sliceAt.apart (hs1.below hb11) (Apart.set1 (B1 := w.heap.size + 1) (B2 := w.heap.size + 1) w11 0 _) hfromS (by omega) (by omega)
  have hr2 : r'.Ok U bv2 bg2 ys1 ys2 qs1 qs2 := by rw [hU]; exact hr'.apart (Apart.set1 (B1 := w.heap.size + 1) (B2 := w.heap.size + 1) w11 0 _) hfromR (by omega) (by omega)
  have hidr' := hr'.id
  have HF2 : Hid (f'.body.Ok U bv1 bg1 xs1 xs2 ps1 ps2) := hf2
  have HS2 : Hid (sliceAt U 1 f'.sn sw.length (sw.map (Value.int .u64))) := hs2
  have HR2 : Hid (r'.Ok U bv2 bg2 ys1 ys2 qs1 qs2) := hr2
  have hU2 : w.heap.size + 2 ≤ U.heap.size := by omega
  clear hr' hf1 hs1 hf2 hs2 hr2 hb11 hY hfrom hfromS hfromR
  clear hthR hszU hszV
  go_wp2_with fail
  rw [← hU]
  clear hU hY11 hth hone hlen'
  refine (newRound_any rn U).mono ?_
  rintro e w12 ⟨rfl, hI12, hb12⟩
  have hZ12 := hZ.below (by omega) hb12
  obtain ⟨rF, cF, rR, cR⟩ := hZ12.facts hidf' hidr'
  go_wp2_with fail
  refine (applyFill_is U.heap.size f' bv1 bg1 xs1 xs2 ps1 ps2 sw (fun k => k < U.heap.size) (stZero rn) U w12 HF2.out HS2.out hsw (fun k hk => hk) hb12 hI12 (by simp [stZero, StD.vs]; omega) (by simp [stZero, StD.vs]; omega) (by simp [stZero, StD.ps]; omega) (by simp [stZero, StD.ps]; omega)).mono ?_
  rintro e w13 ⟨rfl, hI13, hs13⟩
  rw [fill_eq] at hI13
  have hZ13 := hZ12.steps hs13 (fun k hk => by show k < _; omega)
  have hb13 : Below U.heap.size U w13 := hb12.trans (hs13.below (fun k hk => hk))
  clear rF cF rR cR hI12 hs13 hb12
  go_wp2_with fail
  refine (zzreset_is U.heap.size _ _ w13 hI13).mono ?_
  rintro e w14 ⟨rfl, hI14, hs14⟩
  have hZ14 := hZ13.steps hs14 (fun k hk => by show k < _; omega)
  have hb14 : Below U.heap.size U w14 := hb13.trans (hs14.below (fun k hk => hk))
  clear hI13 hs14 hb13
  obtain ⟨rF, cF, rR, cR⟩ := hZ14.facts hidf' hidr'
  go_wp2_with fail
  refine (applyRefill_is U.heap.size r' bv2 bg2 ys1 ys2 qs1 qs2 _ _ U w14 HR2.out (fun k hk => hk) hb14 hI14 (by simp [StD.vs]; omega) (by simp [StD.vs]; omega) (by simp [StD.ps]; omega) (by simp [StD.ps]; omega)).mono ?_
  rintro e w15 ⟨rfl, hI15, hs15⟩
  have hZ15 := hZ14.steps hs15 (fun k hk => by show k < _; omega)
  have hb15 : Below U.heap.size U w15 := hb14.trans (hs15.below (fun k hk => hk))
  have hsz15 := hb15.size
  clear rF cF rR cR hI14 hs15 hb14
  go_wp2_with fail
  refine (newRound_any rn w15).mono ?_
  rintro e w16 ⟨rfl, hI16, hb16⟩
  have hZ16 := hZ15.below (by omega) hb16
  obtain ⟨rF, cF, rR, cR⟩ := hZ16.facts hidf' hidr'
  go_wp2_with fail
  refine (applyRefill_is w15.heap.size r' bv2 bg2 ys1 ys2 qs1 qs2 _ _ U w16 HR2.out (fun k hk => by show k < _; omega) (hb15.trans (hb16.mono hsz15)) hI16 (by simp [stZero, StD.vs]; omega) (by simp [stZero, StD.vs]; omega) (by simp [stZero, StD.ps]; omega) (by simp [stZero, StD.ps]; omega)).mono ?_
  rintro e w17 ⟨rfl, hI17, hs17⟩
  have hb17 : Below w15.heap.size w15 w17 := hb16.trans (hs17.below (fun k hk => hk))
  have hbU : Below U.heap.size U w17 := hb15.trans (hb17.mono hsz15)
  have hZ17 := hZ15.below (by omega) hb17
  have hI1 := hI15.below hb17
  clear rF cF rR cR
  go_wp2_with fail
  refine (same_end rn U.heap.size w15.heap.size _ _ r' bv2 bg2 ys1 ys2 qs1 qs2 _ w17 (HR2.out.below hbU) hI1 hI17 hsw (by omega) (by omega) (by omega) (by omega)).mono ?_
  rintro e w18 ⟨rfl, hb18⟩
  go_wp2
  go_ret
  exact ⟨rfl, below_then hZ17.bel (Nat.le_refl _) hb18⟩

end Go.Proofs.Qxb6604712a
