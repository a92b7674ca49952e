/-
  Seat b6604712a: modelHold.
-/
import Derived.Test.Qxb6604712aMod0
namespace Go.Proofs.Qxb6604712a
open Go.RowKit
set_option linter.unusedSimpArgs false
set_option linter.unusedVariables false
attribute [local go_sem ↓] exec_load43 exec_store43 exec_build49 exec_buildSlice22 exec_load49
attribute [local go_sem] ptrB ptrO isPtr

set_option maxRecDepth 100000 in
set_option maxHeartbeats 8000000 in
theorem model_ff (vh v1 v2 : Value) (hs : List HrD) (vs1 vs2 : List VoteD) (r f : Int) (w0 w : World) (h : heldAt w0 vh hs) (h1 : votesAt w0 v1 vs1) (h2 : votesAt w0 v2 vs2) (hb : Below w0.heap.size w0 w) (hn : hs.length ≤ 900) (n1 : vs1.length ≤ 1000000) (n2 : vs2.length ≤ 1000000) (p1 : (findV vs1 f).isSome = false) (p2 : (findV vs2 f).isSome = false) :
    Calls Try.prog 17 #[vh, .int .i64 r, v1, v2, .int .i64 f] w fun e w' => ∃ v', e = .returned v' ∧ sliceAt w' 73 v' (modelL hs r (findV vs1 f) (findV vs2 f)).length ((modelL hs r (findV vs1 f) (findV vs2 f)).flatMap HrD.cells) ∧ Below w.heap.size w w' := by
  have hf1 := findVote_any v1 vs1 f w0 w h1 hb n1
  have hf2 := fun W hW => findVote_any v2 vs2 f w0 W h2 hW n2
  rw [p1] at hf1
  rw [p2] at hf2
  have HP1 : Hid ((findV vs1 f).isSome = false) := p1
  have HP2 : Hid ((findV vs2 f).isSome = false) := p2
  have k1 : (orZero (findV vs1 f)).ok w0 := by
    cases hq : findV vs1 f with
    | none => exact zeroV_ok w0
    | some x => exact h1.2 x (List.mem_of_find?_eq_some hq)
  have k2 : (orZero (findV vs2 f)).ok w0 := by
    cases hq : findV vs2 f with
    | none => exact zeroV_ok w0
    | some x => exact h2.2 x (List.mem_of_find?_eq_some hq)
  obtain ⟨o1, ho1⟩ : ∃ o1, o1 = findV vs1 f := ⟨_, rfl⟩
  obtain ⟨o2, ho2⟩ : ∃ o2, o2 = findV vs2 f := ⟨_, rfl⟩
  rw [← ho1] at hf1 HP1 k1 ⊢
  rw [← ho2] at hf2 HP2 k2 ⊢
  clear p1 p2 ho1 ho2 h1 h2
  obtain ⟨x1, hx1⟩ : ∃ x1, x1 = orZero o1 := ⟨_, rfl⟩
  obtain ⟨x2, hx2⟩ : ∃ x2, x2 = orZero o2 := ⟨_, rfl⟩
  rw [← hx1] at hf1 k1
  rw [← hx2] at hf2 k2
  have HX1 : Hid (x1 = orZero o1) := hx1
  have HX2 : Hid (x2 = orZero o2) := hx2
  clear hx1 hx2
  obtain ⟨va, vcap, rfl, _, _, _⟩ := h.1
  have HH : Hid (heldAt w0 (.slice va hs.length vcap) hs) := h
  have HB : Hid (Below w0.heap.size w0 w) := hb
  have HF2 : Hid (∀ W, Below w0.heap.size w0 W → Calls Try.prog 21 #[v2, .int .i64 f] W fun e w' => e = .returned (.tuple #[.agg x2.cells.toArray, .bool false]) ∧ Below W.heap.size W w') := hf2
  clear h hb hf2
  obtain ⟨L, hL⟩ : ∃ L, L = modelL hs r o1 o2 := ⟨_, rfl⟩
  rw [← hL]
  have HL : Hid (L = modelL hs r o1 o2) := hL
  clear hL
  generalize hlen : hs.length = n at *
  have HLN : Hid (hs.length = n) := hlen
  clear hlen
  have hc1 := VoteD.cells_len k1.1
  have hc2 := VoteD.cells_len k2.1
  have hone1 := oneAll_vote x1 k1.sl.1 k1.sl.2
  have hone2 := oneAll_vote x2 k2.sl.1 k2.sl.2
  have K1 : Hid (x1.ok w0) := k1
  have K2 : Hid (x2.ok w0) := k2
  clear k1 k2
  go_enter Try.func17, Try.ntmps17
  go_wp2_with fail
  refine hf1.mono ?_
  rintro e w1 ⟨rfl, hb1⟩
  clear hf1
  have hth1 : ∀ z : Array Value, z.size = 35 → (w1.alloc (.cells z 43)).there w1.heap.size 0 35 := fun z hz => (vote_box w1 x1 K1.out.1 z hz).2.2
  go_wp2_with fail
  generalize hW1 : World.setCells _ w1.heap.size 0 _ = W1
  obtain ⟨hbx1, hbw1⟩ : W1.rangeAt w1.heap.size 0 x1.cells ∧ Below w1.heap.size w1 W1 := by rw [← hW1]; exact ⟨(vote_box w1 x1 K1.out.1 _ (by simp)).1, (vote_box w1 x1 K1.out.1 _ (by simp)).2.1⟩
  clear hW1 hth1
  have hbW1 : Below w.heap.size w W1 := below_then hb1 (Nat.le_refl _) hbw1
  refine (HF2.out W1 (HB.out.trans (hbW1.mono HB.out.size))).mono ?_
  rintro e w2 ⟨rfl, hb2⟩
  have hbw2 : Below w.heap.size w w2 := below_then hbW1 (Nat.le_refl _) hb2
  have hbx2 := rangeAt_below hbx1 hb2
  have hg1 : w1.heap.size < w2.heap.size := by have := World.block_lt_of_cell? W1 ⟨w1.heap.size, 0 + 0, none⟩ (hbx1 0 _ (VoteD.cells_0 x1)); have := hb2.size; simp at *; omega
  clear hbx1 hbw1 hbW1 hb2 hb1 HF2
  have hth2 : ∀ z : Array Value, z.size = 35 → (w2.alloc (.cells z 43)).there w2.heap.size 0 35 := fun z hz => (vote_box w2 x2 K2.out.1 z hz).2.2
  have HBX : Hid (w2.rangeAt w1.heap.size 0 x1.cells) := hbx2
  have HBW : Hid (Below w.heap.size w w2) := hbw2
  clear hbx2 hbw2
  generalize w1.heap.size = b11 at *
  obtain ⟨i0, z0, hi0, hz0, hz1, hz2, hz3⟩ := info_ex Try.infz49
  go_wp2_with (at_make; generalize hW2 : World.setCells _ w2.heap.size 0 _ = W2; refine wpList_make_own W2 rfl _ _ 22 rfl W2.heap.size 49 i0 z0 73 Try.underlying22 hi0 hz0 hz1 _ _ _ (n + 1) rfl rfl ?hC ?b2 ?b3 (Nat.le_refl _) ?_)
  case hC => simp
  case b2 => rw [hz2]; omega
  case b3 => unfold maxLen; omega
  intro w3 hown3 hgrow3
  obtain ⟨hbx3, hbw3⟩ : W2.rangeAt w2.heap.size 0 x2.cells ∧ Below w2.heap.size w2 W2 := by rw [← hW2]; exact ⟨(vote_box w2 x2 K2.out.1 _ (by simp)).1, (vote_box w2 x2 K2.out.1 _ (by simp)).2.1⟩
  clear hW2 hth2
  have hB3 : Below W2.heap.size W2 w3 := ⟨hgrow3.os, hgrow3.tape, hgrow3.output, hgrow3.size, fun k hk => hgrow3.block k hk (by simp)⟩
  have HW2 : Hid (Below w.heap.size w W2) := below_then HBW.out (Nat.le_refl _) hbw3
  have HBX1 : Hid (W2.rangeAt b11 0 x1.cells) := rangeAt_below HBX.out hbw3
  have HBX2 : Hid (W2.rangeAt w2.heap.size 0 x2.cells) := hbx3
  have HR0 : Hid (R49 w3 W2.heap.size (.slice (some ⟨W2.heap.size, 0, none⟩) 0 (n + 1)) []) := ⟨by simpa using hown3, by simp⟩
  have HWB : Hid (W2.heap.size ≤ w3.heap.size) := hgrow3.size
  clear hown3 hgrow3 hbx3 hbw3 HBX HBW hi0 hz0 hz1 hz2 hz3 hg1
  generalize w2.heap.size = b13 at *
  obtain ⟨B, hBd⟩ : ∃ B, B = W2.heap.size := ⟨_, rfl⟩
  have HBd : Hid (B = W2.heap.size) := hBd
  rw [← hBd] at HR0 hB3 HWB ⊢
  clear hBd
  go_wp2_with fail
  go_loopw [15, 16, 17] (fun wv pv iv wr => ∃ k : Nat, k ≤ n ∧ iv = .int .i64 k ∧ pv = .bool (FS hs r true k).2 ∧ ∃ a' c', wv = .slice a' (FS hs r true k).1.length c' ∧ R49 wr B (.slice a' (FS hs r true k).1.length c') (FS hs r true k).1 ∧ Below B W2 wr ∧ B ≤ wr.heap.size) (fun _ _ iv _ => n - (intOf iv).toNat)
  case atStart => exact ⟨0, Nat.zero_le _, rfl, rfl, _, _, rfl, HR0.out, hB3, HWB.out⟩
  case round =>
    obtain ⟨k, hk, rfl, rfl, a', c', rfl, hR, hbr, hBs⟩ := hrel
    have HR : Hid (R49 wr B (.slice a' (FS hs r true k).1.length c') (FS hs r true k).1) := hR
    have hfl := FS_len (hs := hs) (r := r) (p := true) k
    clear hR HR0 HWB hB3
    have HBr : Hid (Below w0.heap.size w0 wr) := HB.out.trans ((HW2.out.trans (hbr.mono (by have := HBd.out; have := HW2.out.size; omega))).mono HB.out.size)
    by_cases hlt : k < n
    · obtain ⟨b, o, x, hab, hx, hok, hr⟩ := HH.out.cellsAt k hlt
      cases hab
      have HX : Hid (hs[k]? = some x) := hx
      have hFS : FS hs r true (k + 1) = stepI r (FS hs r true k) x := FS_succ hx
      have HFS : Hid (FS hs r true (k + 1) = stepI r (FS hs r true k) x) := hFS
      obtain ⟨S, hS⟩ : ∃ S, S = FS hs r true k := ⟨_, rfl⟩
      rw [← hS] at HR hfl HFS ⊢
      obtain ⟨acc, pl⟩ := S
      have HS : Hid ((acc, pl) = FS hs r true k) := hS
      clear hS hFS
      have hlt' : (k : Int) < (n : Int) := by omega
      have hxl := HrD.cells_len hok.fit.1
      have hbl : b < w0.heap.size := World.block_lt_of_cell? w0 ⟨b, o + k * 73 + 0, none⟩ (hr 0 _ (HrD.cells_0 x))
      have HRG : Hid (∀ W, Below w0.heap.size w0 W → W.cell? ⟨b, o + k * 73, none⟩ = some (.int .i64 x.rnd) ∧ canRd W b (o + k * 73) 73 ∧ rd W b (o + k * 73) 73 = x.cells.toArray) := fun W hW => ⟨by have := rangeAt_below hr hW 0 _ (HrD.cells_0 x); simpa using this, canRd_of_range (rangeAt_below hr hW) hxl, rd_of_range (rangeAt_below hr hW) hxl⟩
      have HFX : Hid x.fit := hok.fit
      clear hx hr hok
      have hfrl : (fresh r).cells.length = 73 := HrD.cells_len (fresh_fit r).1
      obtain ⟨g0, gc, gr⟩ := HRG.out wr HBr.out
      have hsz : Hid (w0.heap.size ≤ B) := by have := HBd.out; have := HW2.out.size; have := HB.out.size; show _ ≤ _; omega
      simp only at hfl
      cases pl with
      | false =>
        by_cases hc : r < x.rnd
        · have hc' : ¬ x.rnd = r := by omega
          have hcb : (x.rnd == r) = false := by simpa using hc'
          have hnext : FS hs r true (k + 1) = (acc ++ [fresh r] ++ [x], true) := by rw [HFS.out]; simp [stepI, hc]
          have HN : Hid (FS hs r true (k + 1) = (acc ++ [fresh r] ++ [x], true)) := hnext
          clear hnext HFS
          go_wp2_with (first
            | (at_builtin; refine wpList_append49 rfl _ _ rfl B (.slice a' acc.length c') acc wr rfl (fresh r) rfl HR.out (fresh_fit r) rfl (by omega) hBs ?_; intro a5 c5 w5 hR5 hB5; have HR5 : Hid (R49 w5 B (.slice a5 (acc.length + 1) c5) (acc ++ [fresh r])) := hR5; clear hR5; have hB5s : B ≤ w5.heap.size := Nat.le_trans hBs hB5.size; obtain ⟨g5, gc5, gr5⟩ := HRG.out w5 (HBr.out.trans (hB5.mono hsz.out)))
            | (at_builtin; refine wpList_append49 rfl _ _ rfl B (.slice a5 (acc.length + 1) c5) (acc ++ [fresh r]) w5 rfl x rfl HR5.out HFX.out rfl (by simp; omega) hB5s ?_; intro a6 c6 w6 hR6 hB6; have HR6 : Hid (R49 w6 B (.slice a6 ((acc ++ [fresh r]).length + 1) c6) (acc ++ [fresh r] ++ [x])) := hR6; clear hR6))
          refine ⟨⟨k + 1, by omega, by simp, by rw [HN.out], a6, c6, by rw [HN.out]; simp, ?_, hbr.trans (hB5.trans hB6), Nat.le_trans hB5s hB6.size⟩, by simp [intOf]; omega⟩
          have := HR6.out
          rw [HN.out]; simpa using this
        · by_cases he : x.rnd = r
          · have heb : (x.rnd == r) = true := by simpa using he
            have hnext : FS hs r true (k + 1) = (acc ++ [x], true) := by rw [HFS.out]; simp [stepI, hc, he]
            have HN : Hid (FS hs r true (k + 1) = (acc ++ [x], true)) := hnext
            clear hnext HFS
            go_wp2_with (at_builtin; refine wpList_append49 rfl _ _ rfl B (.slice a' acc.length c') acc wr rfl x rfl HR.out HFX.out rfl (by omega) hBs ?_; intro a6 c6 w6 hR6 hB6; have HR6 : Hid (R49 w6 B (.slice a6 (acc.length + 1) c6) (acc ++ [x])) := hR6; clear hR6)
            refine ⟨⟨k + 1, by omega, by simp, by rw [HN.out], a6, c6, by rw [HN.out]; simp, ?_, hbr.trans hB6, Nat.le_trans hBs hB6.size⟩, by simp [intOf]; omega⟩
            have := HR6.out
            rw [HN.out]; simpa using this
          · have heb : (x.rnd == r) = false := by simpa using he
            have hnext : FS hs r true (k + 1) = (acc ++ [x], false) := by rw [HFS.out]; simp [stepI, hc, he]
            have HN : Hid (FS hs r true (k + 1) = (acc ++ [x], false)) := hnext
            clear hnext HFS
            go_wp2_with (at_builtin; refine wpList_append49 rfl _ _ rfl B (.slice a' acc.length c') acc wr rfl x rfl HR.out HFX.out rfl (by omega) hBs ?_; intro a6 c6 w6 hR6 hB6; have HR6 : Hid (R49 w6 B (.slice a6 (acc.length + 1) c6) (acc ++ [x])) := hR6; clear hR6)
            refine ⟨⟨k + 1, by omega, by simp, by rw [HN.out], a6, c6, by rw [HN.out]; simp, ?_, hbr.trans hB6, Nat.le_trans hBs hB6.size⟩, by simp [intOf]; omega⟩
            have := HR6.out
            rw [HN.out]; simpa using this
      | true =>
        have hnext : FS hs r true (k + 1) = (acc ++ [x], true) := by rw [HFS.out]; simp [stepI]
        have HN : Hid (FS hs r true (k + 1) = (acc ++ [x], true)) := hnext
        clear hnext HFS
        by_cases he : x.rnd = r
        · have heb : (x.rnd == r) = true := by simpa using he
          go_wp2_with (at_builtin; refine wpList_append49 rfl _ _ rfl B (.slice a' acc.length c') acc wr rfl x rfl HR.out HFX.out rfl (by omega) hBs ?_; intro a6 c6 w6 hR6 hB6; have HR6 : Hid (R49 w6 B (.slice a6 (acc.length + 1) c6) (acc ++ [x])) := hR6; clear hR6)
          refine ⟨⟨k + 1, by omega, by simp, by rw [HN.out], a6, c6, by rw [HN.out]; simp, ?_, hbr.trans hB6, Nat.le_trans hBs hB6.size⟩, by simp [intOf]; omega⟩
          have := HR6.out
          rw [HN.out]; simpa using this
        · have heb : (x.rnd == r) = false := by simpa using he
          go_wp2_with (at_builtin; refine wpList_append49 rfl _ _ rfl B (.slice a' acc.length c') acc wr rfl x rfl HR.out HFX.out rfl (by omega) hBs ?_; intro a6 c6 w6 hR6 hB6; have HR6 : Hid (R49 w6 B (.slice a6 (acc.length + 1) c6) (acc ++ [x])) := hR6; clear hR6)
          refine ⟨⟨k + 1, by omega, by simp, by rw [HN.out], a6, c6, by rw [HN.out]; simp, ?_, hbr.trans hB6, Nat.le_trans hBs hB6.size⟩, by simp [intOf]; omega⟩
          have := HR6.out
          rw [HN.out]; simpa using this
    · have hkn : k = n := by omega
      subst hkn
      obtain ⟨S, hS⟩ : ∃ S, S = FS hs r true k := ⟨_, rfl⟩
      rw [← hS] at HR hfl ⊢
      obtain ⟨acc, pl⟩ := S
      have HS : Hid ((acc, pl) = FS hs r true k) := hS
      clear hS
      simp only at hfl
      have hfrl : (fresh r).cells.length = 73 := HrD.cells_len (fresh_fit r).1
      have hkc : (k : Int) ≤ (k : Int) := Int.le_refl _
      cases pl with
      | true =>
        obtain ⟨N, hN⟩ : ∃ N, N = acc.length := ⟨_, rfl⟩
        obtain ⟨F, hF⟩ : ∃ F, F = acc := ⟨_, rfl⟩
        have HI : Hid (insM hs r true = F) := by show _ = _; rw [hF, insM_eq, HLN.out, ← HS.out]; rfl
        have HNF : Hid (F.length = N) := by show _ = _; rw [hF, hN]
        have hNle : N ≤ 2 * k := by omega
        have HRF : Hid (R49 wr B (.slice a' N c') F) := by show R49 _ _ _ _; rw [hF, hN]; exact HR.out
        show Code.wp _ _ _ _ _
        simp only [← hN]
        clear hN hF HR hfl HS
        generalize a' = aF at *
        generalize c' = cF at *
        by_cases h3 : 3 < N
        · obtain ⟨g, cc, hv, _, _⟩ := HRF.out.1.form (by have := HNF.out; omega)
          have hv' : aF = some ⟨g, 0, none⟩ := by simp only [Value.slice.injEq] at hv; exact hv.1
          subst hv'
          clear hv
          have hcap : N ≤ cF ∧ cF ≤ 9223372036854775807 := by
            have h0 := HRF.out.1
            rw [HNF.out] at h0
            have := owns_cap h0
            unfold maxLen at this
            omega
          obtain ⟨d, rfl⟩ : ∃ d, N = d + 3 := ⟨N - 3, by omega⟩
          obtain ⟨hcap1, hcap2⟩ := hcap
          have hd1 : ¬ (cF = d) := by omega
          have h3' : (3 : Int) < (d : Int) + 3 := by omega
          go_wp2_with fail
          go_loopw [18] (fun iv wq => ∃ i : Nat, i ≤ 3 ∧ iv = .int .i64 i ∧ R49 wq B (.slice (some ⟨g, 0, none⟩) (d + 3) cF) (GS F (finM r o1 o2) d i) ∧ Below B W2 wq) (fun iv _ => 3 - (intOf iv).toNat)
          case atStart => exact ⟨0, Nat.zero_le _, rfl, by rw [GS_zero]; exact HRF.out, hbr⟩
          case round =>
            obtain ⟨i, hi, rfl, hR, hbq⟩ := hrel
            have HRQ : Hid (R49 wr B (.slice (some ⟨g, 0, none⟩) (d + 3) cF) (GS F (finM r o1 o2) d i)) := hR
            clear hR
            by_cases hlt2 : i < 3
            · have hFl := HNF.out
              obtain ⟨y, hy⟩ : ∃ y, F[d + i]? = some y := ⟨_, List.getElem?_eq_getElem (by omega)⟩
              have hyl := (List.getElem?_eq_some_iff.1 hy).1
              have hgy : (GS F (finM r o1 o2) d i)[d + i]? = some y := by rw [GS_get _ _ _ _ (by omega) hyl]; exact hy
              have hsucc := GS_succ F (finM r o1 o2) d i y (by omega) hy
              have hNl : (d + 3) = (GS F (finM r o1 o2) d i).length := by rw [GS_len]; omega
              have hyf := HRQ.out.2 y (List.mem_of_getElem? hgy)
              have hBg : B ≤ g := (owns_block HRQ.out.1 g rfl).1
              have hoff : (d + i) * 73 = d * 73 + i * 73 := by omega
              have hrng := HRQ.out.at hNl hgy
              rw [hoff] at hrng
              have c0 : wr.cell? ⟨g, d * 73 + i * 73, none⟩ = some (.int .i64 y.rnd) := hrng 0 _ (HrD.cells_0 y)
              have hi2 : (i : Int) < ((3 : Nat) : Int) := by omega
              have hi3 : (i : Int) < 3 ∨ True := .inr trivial
              have HGY : Hid ((GS F (finM r o1 o2) d i)[(d + i)]? = some y) := hgy
              have HSC : Hid ((GS F (finM r o1 o2) d i).set (d + i) (finM r o1 o2 y) = GS F (finM r o1 o2) d (i + 1)) := hsucc
              have HYF : Hid y.fit := hyf
              have hwB : Hid (Below W2.heap.size W2 wr) := by rw [← HBd.out]; exact hbq
              by_cases he : y.rnd = r
              · have heb : (y.rnd == r) = true := by simpa using he
                have HFIN : Hid (R49 wr B (.slice (some ⟨g, 0, none⟩) (d + 3) cF) (GS F (finM r o1 o2) d (i + 1))) := by
                  show R49 _ _ _ _
                  have e1 := HP1.out
                  have e2 := HP2.out
                  have hfin : finM r o1 o2 y = y := by
                    unfold finM
                    rw [if_pos he]
                    cases o1 <;> cases o2 <;> simp_all [upO]
                  rw [← HSC.out, hfin, set_same HGY.out]; exact HRQ.out
                clear hgy hsucc hNl hyf hrng hy hFl hyl
                go_wp2_with fail
                go_roundw
                case rel => exact ⟨i + 1, by omega, by go_num, HFIN.out, hbq⟩
                case measure => simp [intOf]; omega
              · have heb : (y.rnd == r) = false := by simpa using he
                have HFIN : Hid (R49 wr B (.slice (some ⟨g, 0, none⟩) (d + 3) cF) (GS F (finM r o1 o2) d (i + 1))) := by
                  show R49 _ _ _ _
                  have hfin : finM r o1 o2 y = y := by unfold finM; rw [if_neg he]
                  rw [← HSC.out, hfin, set_same HGY.out]; exact HRQ.out
                clear hgy hsucc hNl hyf hrng hy hFl hyl
                go_wp2_with fail
                go_roundw
                case rel => exact ⟨i + 1, by omega, by go_num, HFIN.out, hbq⟩
                case measure => simp [intOf]; omega
            · have hie : i = 3 := by omega
              subst hie
              have hFl := HNF.out
              have HLF : Hid (L = (F.drop d).map (finM r o1 o2)) := by
                show _ = _
                rw [HL.out, model_row hs r o1 o2 F (by have e1 := HP1.out; have e2 := HP2.out; have := HI.out; cases o1 <;> cases o2 <;> simp_all)]
                rw [if_pos (by omega), show F.length - 3 = d by omega]
              have HBE : Hid (Below w.heap.size w wr) := HW2.out.trans (hbq.mono (by have := HBd.out; have := HW2.out.size; omega))
              have HFL : Hid (F.length = (d + 3)) := hFl
              clear hFl
              go_wp2_with fail
              go_ret
              have hFl := HFL.out
              refine ⟨_, rfl, ?_, HBE.out⟩
              have hR := HRQ.out
              rw [GS_all _ _ _ _ (by omega)] at hR
              have hdl : (F.take d).length = d := by rw [List.length_take]; omega
              have hql : ((F.drop d).map (finM r o1 o2)).length = 3 := by rw [List.length_map, List.length_drop]; omega
              have := R49_tail hR (by rw [List.length_append, hdl, hql]) (cF - d) (by omega)
              rw [hdl, hql] at this
              rw [HLF.out, hql]
              exact this
        · have h3' : ¬ ((3 : Int) < (N : Int)) := by omega
          go_wp2_with fail
          go_loopw [18] (fun iv wq => ∃ i : Nat, i ≤ N ∧ iv = .int .i64 i ∧ R49 wq B (.slice aF N cF) (GS F (finM r o1 o2) 0 i) ∧ Below B W2 wq) (fun iv _ => N - (intOf iv).toNat)
          case atStart => exact ⟨0, Nat.zero_le _, rfl, by rw [GS_zero]; exact HRF.out, hbr⟩
          case round =>
            obtain ⟨i, hi, rfl, hR, hbq⟩ := hrel
            have HRQ : Hid (R49 wr B (.slice aF N cF) (GS F (finM r o1 o2) 0 i)) := hR
            clear hR
            by_cases hlt2 : i < N
            · have hFl := HNF.out
              obtain ⟨y, hy⟩ : ∃ y, F[0 + i]? = some y := ⟨_, List.getElem?_eq_getElem (by omega)⟩
              have hyl := (List.getElem?_eq_some_iff.1 hy).1
              have hgy : (GS F (finM r o1 o2) 0 i)[0 + i]? = some y := by rw [GS_get _ _ _ _ (by omega) hyl]; exact hy
              have hsucc := GS_succ F (finM r o1 o2) 0 i y (by omega) hy
              have hNl : N = (GS F (finM r o1 o2) 0 i).length := by rw [GS_len]; omega
              have hyf := HRQ.out.2 y (List.mem_of_getElem? hgy)
              obtain ⟨g, cc, hv, hBg, hgl⟩ := HRQ.out.1.form (by omega)
              have hv' : aF = some ⟨g, 0, none⟩ := by simp only [Value.slice.injEq] at hv; exact hv.1
              subst hv'
              clear hv
              rw [Nat.zero_add] at hgy hsucc hy
              have hoff : i * 73 = i * 73 := by omega
              have hrng := HRQ.out.at hNl hgy
              rw [hoff] at hrng
              have c0 : wr.cell? ⟨g, i * 73, none⟩ = some (.int .i64 y.rnd) := hrng 0 _ (HrD.cells_0 y)
              have hi2 : (i : Int) < ((N : Nat) : Int) := by omega
              have hi3 : (i : Int) < 3 ∨ True := .inr trivial
              have HGY : Hid ((GS F (finM r o1 o2) 0 i)[i]? = some y) := hgy
              have HSC : Hid ((GS F (finM r o1 o2) 0 i).set i (finM r o1 o2 y) = GS F (finM r o1 o2) 0 (i + 1)) := hsucc
              have HYF : Hid y.fit := hyf
              have hwB : Hid (Below W2.heap.size W2 wr) := by rw [← HBd.out]; exact hbq
              by_cases he : y.rnd = r
              · have heb : (y.rnd == r) = true := by simpa using he
                have HFIN : Hid (R49 wr B (.slice (some ⟨g, 0, none⟩) N cF) (GS F (finM r o1 o2) 0 (i + 1))) := by
                  show R49 _ _ _ _
                  have e1 := HP1.out
                  have e2 := HP2.out
                  have hfin : finM r o1 o2 y = y := by
                    unfold finM
                    rw [if_pos he]
                    cases o1 <;> cases o2 <;> simp_all [upO]
                  rw [← HSC.out, hfin, set_same HGY.out]; exact HRQ.out
                clear hgy hsucc hNl hyf hrng hy hFl hyl
                go_wp2_with fail
                go_roundw
                case rel => exact ⟨i + 1, by omega, by go_num, HFIN.out, hbq⟩
                case measure => simp [intOf]; omega
              · have heb : (y.rnd == r) = false := by simpa using he
                have HFIN : Hid (R49 wr B (.slice (some ⟨g, 0, none⟩) N cF) (GS F (finM r o1 o2) 0 (i + 1))) := by
                  show R49 _ _ _ _
                  have hfin : finM r o1 o2 y = y := by unfold finM; rw [if_neg he]
                  rw [← HSC.out, hfin, set_same HGY.out]; exact HRQ.out
                clear hgy hsucc hNl hyf hrng hy hFl hyl
                go_wp2_with fail
                go_roundw
                case rel => exact ⟨i + 1, by omega, by go_num, HFIN.out, hbq⟩
                case measure => simp [intOf]; omega
            · have hie : i = N := by omega
              subst hie
              have hFl := HNF.out
              have HLF : Hid (L = (F.drop 0).map (finM r o1 o2)) := by
                show _ = _
                rw [HL.out, model_row hs r o1 o2 F (by have e1 := HP1.out; have e2 := HP2.out; have := HI.out; cases o1 <;> cases o2 <;> simp_all)]
                rw [if_neg (by omega)]
              have HBE : Hid (Below w.heap.size w wr) := HW2.out.trans (hbq.mono (by have := HBd.out; have := HW2.out.size; omega))
              have HFL : Hid (F.length = i) := hFl
              clear hFl
              go_wp2_with fail
              go_ret
              have hFl := HFL.out
              refine ⟨_, rfl, ?_, HBE.out⟩
              have hR := HRQ.out
              rw [GS_all _ _ _ _ (by omega)] at hR
              have e : F.take 0 ++ (F.drop 0).map (finM r o1 o2) = (F.drop 0).map (finM r o1 o2) := by simp
              rw [e] at hR
              have hml : ((F.drop 0).map (finM r o1 o2)).length = F.length := by simp
              have := R49_all hR (by omega) (by omega)
              rw [HLF.out]
              exact this
      | false =>
        obtain ⟨F, hF⟩ : ∃ F, F = acc ++ [fresh r] := ⟨_, rfl⟩
        have HI : Hid (insM hs r true = F) := by show _ = _; rw [hF, insM_eq, HLN.out, ← HS.out]; rfl
        have HFF : Hid (F = acc ++ [fresh r]) := hF
        clear hF
        by_cases h3 : 3 < acc.length + 1
        · obtain ⟨d, hd⟩ : ∃ d, acc.length + 1 = d + 3 := ⟨acc.length - 2, by omega⟩
          have HD : Hid (acc.length + 1 = d + 3) := hd
          have hd' : (acc.length : Int) + 1 = (d : Int) + 3 := by omega
          have h3' : (3 : Int) < (d : Int) + 3 := by omega
          have hdle : d ≤ 2 * k := by omega
          clear hd hd'
          go_wp2_with (at_builtin; refine wpList_append49 rfl _ _ rfl B (.slice a' acc.length c') acc wr rfl (fresh r) rfl HR.out (fresh_fit r) rfl (by omega) hBs ?_; rw [HD.out]; intro a6 cF w6 hR6 hB6; rw [← HFF.out] at hR6; have HRF : Hid (R49 w6 B (.slice a6 (d + 3) cF) F) := hR6; clear hR6; have HNF : Hid (F.length = d + 3) := (by show _ = _; rw [HFF.out, ← HD.out]; simp); obtain ⟨g, cc, hv, _, _⟩ := HRF.out.1.form (by have := HNF.out; omega); have hv' : a6 = some ⟨g, 0, none⟩ := (by simp only [Value.slice.injEq] at hv; exact hv.1); subst hv'; clear hv; have hcap : d + 3 ≤ cF ∧ cF ≤ 9223372036854775807 := (by have h0 := HRF.out.1; rw [HNF.out] at h0; have := owns_cap h0; unfold maxLen at this; omega); obtain ⟨hcap1, hcap2⟩ := hcap; have hd1 : ¬ (cF = d) := (by omega); have hbq6 : Below B W2 w6 := hbr.trans hB6)
          go_loopw [18] (fun iv wq => ∃ i : Nat, i ≤ 3 ∧ iv = .int .i64 i ∧ R49 wq B (.slice (some ⟨g, 0, none⟩) (d + 3) cF) (GS F (finM r o1 o2) d i) ∧ Below B W2 wq) (fun iv _ => 3 - (intOf iv).toNat)
          case atStart => exact ⟨0, Nat.zero_le _, rfl, by rw [GS_zero]; exact HRF.out, hbq6⟩
          case round =>
            obtain ⟨i, hi, rfl, hR, hbq⟩ := hrel
            have HRQ : Hid (R49 wr B (.slice (some ⟨g, 0, none⟩) (d + 3) cF) (GS F (finM r o1 o2) d i)) := hR
            clear hR
            by_cases hlt2 : i < 3
            · have hFl := HNF.out
              obtain ⟨y, hy⟩ : ∃ y, F[d + i]? = some y := ⟨_, List.getElem?_eq_getElem (by omega)⟩
              have hyl := (List.getElem?_eq_some_iff.1 hy).1
              have hgy : (GS F (finM r o1 o2) d i)[d + i]? = some y := by rw [GS_get _ _ _ _ (by omega) hyl]; exact hy
              have hsucc := GS_succ F (finM r o1 o2) d i y (by omega) hy
              have hNl : (d + 3) = (GS F (finM r o1 o2) d i).length := by rw [GS_len]; omega
              have hyf := HRQ.out.2 y (List.mem_of_getElem? hgy)
              have hBg : B ≤ g := (owns_block HRQ.out.1 g rfl).1
              have hoff : (d + i) * 73 = d * 73 + i * 73 := by omega
              have hrng := HRQ.out.at hNl hgy
              rw [hoff] at hrng
              have c0 : wr.cell? ⟨g, d * 73 + i * 73, none⟩ = some (.int .i64 y.rnd) := hrng 0 _ (HrD.cells_0 y)
              have hi2 : (i : Int) < ((3 : Nat) : Int) := by omega
              have hi3 : (i : Int) < 3 ∨ True := .inr trivial
              have HGY : Hid ((GS F (finM r o1 o2) d i)[(d + i)]? = some y) := hgy
              have HSC : Hid ((GS F (finM r o1 o2) d i).set (d + i) (finM r o1 o2 y) = GS F (finM r o1 o2) d (i + 1)) := hsucc
              have HYF : Hid y.fit := hyf
              have hwB : Hid (Below W2.heap.size W2 wr) := by rw [← HBd.out]; exact hbq
              by_cases he : y.rnd = r
              · have heb : (y.rnd == r) = true := by simpa using he
                have HFIN : Hid (R49 wr B (.slice (some ⟨g, 0, none⟩) (d + 3) cF) (GS F (finM r o1 o2) d (i + 1))) := by
                  show R49 _ _ _ _
                  have e1 := HP1.out
                  have e2 := HP2.out
                  have hfin : finM r o1 o2 y = y := by
                    unfold finM
                    rw [if_pos he]
                    cases o1 <;> cases o2 <;> simp_all [upO]
                  rw [← HSC.out, hfin, set_same HGY.out]; exact HRQ.out
                clear hgy hsucc hNl hyf hrng hy hFl hyl
                go_wp2_with fail
                go_roundw
                case rel => exact ⟨i + 1, by omega, by go_num, HFIN.out, hbq⟩
                case measure => simp [intOf]; omega
              · have heb : (y.rnd == r) = false := by simpa using he
                have HFIN : Hid (R49 wr B (.slice (some ⟨g, 0, none⟩) (d + 3) cF) (GS F (finM r o1 o2) d (i + 1))) := by
                  show R49 _ _ _ _
                  have hfin : finM r o1 o2 y = y := by unfold finM; rw [if_neg he]
                  rw [← HSC.out, hfin, set_same HGY.out]; exact HRQ.out
                clear hgy hsucc hNl hyf hrng hy hFl hyl
                go_wp2_with fail
                go_roundw
                case rel => exact ⟨i + 1, by omega, by go_num, HFIN.out, hbq⟩
                case measure => simp [intOf]; omega
            · have hie : i = 3 := by omega
              subst hie
              have hFl := HNF.out
              have HLF : Hid (L = (F.drop d).map (finM r o1 o2)) := by
                show _ = _
                rw [HL.out, model_row hs r o1 o2 F (by have e1 := HP1.out; have e2 := HP2.out; have := HI.out; cases o1 <;> cases o2 <;> simp_all)]
                rw [if_pos (by omega), show F.length - 3 = d by omega]
              have HBE : Hid (Below w.heap.size w wr) := HW2.out.trans (hbq.mono (by have := HBd.out; have := HW2.out.size; omega))
              have HFL : Hid (F.length = (d + 3)) := hFl
              clear hFl
              go_wp2_with fail
              go_ret
              have hFl := HFL.out
              refine ⟨_, rfl, ?_, HBE.out⟩
              have hR := HRQ.out
              rw [GS_all _ _ _ _ (by omega)] at hR
              have hdl : (F.take d).length = d := by rw [List.length_take]; omega
              have hql : ((F.drop d).map (finM r o1 o2)).length = 3 := by rw [List.length_map, List.length_drop]; omega
              have := R49_tail hR (by rw [List.length_append, hdl, hql]) (cF - d) (by omega)
              rw [hdl, hql] at this
              rw [HLF.out, hql]
              exact this
        · obtain ⟨N, hN⟩ : ∃ N, N = acc.length + 1 := ⟨_, rfl⟩
          have HD : Hid (acc.length + 1 = N) := hN.symm
          have h3' : ¬ ((3 : Int) < (N : Int)) := by omega
          have hNle : N ≤ 3 := by omega
          clear hN
          go_wp2_with (at_builtin; refine wpList_append49 rfl _ _ rfl B (.slice a' acc.length c') acc wr rfl (fresh r) rfl HR.out (fresh_fit r) rfl (by omega) hBs ?_; rw [HD.out]; intro aF cF w6 hR6 hB6; rw [← HFF.out] at hR6; have HRF : Hid (R49 w6 B (.slice aF N cF) F) := hR6; clear hR6; have HNF : Hid (F.length = N) := (by show _ = _; rw [HFF.out, ← HD.out]; simp); have hbq6 : Below B W2 w6 := hbr.trans hB6)
          go_loopw [18] (fun iv wq => ∃ i : Nat, i ≤ N ∧ iv = .int .i64 i ∧ R49 wq B (.slice aF N cF) (GS F (finM r o1 o2) 0 i) ∧ Below B W2 wq) (fun iv _ => N - (intOf iv).toNat)
          case atStart => exact ⟨0, Nat.zero_le _, rfl, by rw [GS_zero]; exact HRF.out, hbq6⟩
          case round =>
            obtain ⟨i, hi, rfl, hR, hbq⟩ := hrel
            have HRQ : Hid (R49 wr B (.slice aF N cF) (GS F (finM r o1 o2) 0 i)) := hR
            clear hR
            by_cases hlt2 : i < N
            · have hFl := HNF.out
              obtain ⟨y, hy⟩ : ∃ y, F[0 + i]? = some y := ⟨_, List.getElem?_eq_getElem (by omega)⟩
              have hyl := (List.getElem?_eq_some_iff.1 hy).1
              have hgy : (GS F (finM r o1 o2) 0 i)[0 + i]? = some y := by rw [GS_get _ _ _ _ (by omega) hyl]; exact hy
              have hsucc := GS_succ F (finM r o1 o2) 0 i y (by omega) hy
              have hNl : N = (GS F (finM r o1 o2) 0 i).length := by rw [GS_len]; omega
              have hyf := HRQ.out.2 y (List.mem_of_getElem? hgy)
              obtain ⟨g, cc, hv, hBg, hgl⟩ := HRQ.out.1.form (by omega)
              have hv' : aF = some ⟨g, 0, none⟩ := by simp only [Value.slice.injEq] at hv; exact hv.1
              subst hv'
              clear hv
              rw [Nat.zero_add] at hgy hsucc hy
              have hoff : i * 73 = i * 73 := by omega
              have hrng := HRQ.out.at hNl hgy
              rw [hoff] at hrng
              have c0 : wr.cell? ⟨g, i * 73, none⟩ = some (.int .i64 y.rnd) := hrng 0 _ (HrD.cells_0 y)
              have hi2 : (i : Int) < ((N : Nat) : Int) := by omega
              have hi3 : (i : Int) < 3 ∨ True := .inr trivial
              have HGY : Hid ((GS F (finM r o1 o2) 0 i)[i]? = some y) := hgy
              have HSC : Hid ((GS F (finM r o1 o2) 0 i).set i (finM r o1 o2 y) = GS F (finM r o1 o2) 0 (i + 1)) := hsucc
              have HYF : Hid y.fit := hyf
              have hwB : Hid (Below W2.heap.size W2 wr) := by rw [← HBd.out]; exact hbq
              by_cases he : y.rnd = r
              · have heb : (y.rnd == r) = true := by simpa using he
                have HFIN : Hid (R49 wr B (.slice (some ⟨g, 0, none⟩) N cF) (GS F (finM r o1 o2) 0 (i + 1))) := by
                  show R49 _ _ _ _
                  have e1 := HP1.out
                  have e2 := HP2.out
                  have hfin : finM r o1 o2 y = y := by
                    unfold finM
                    rw [if_pos he]
                    cases o1 <;> cases o2 <;> simp_all [upO]
                  rw [← HSC.out, hfin, set_same HGY.out]; exact HRQ.out
                clear hgy hsucc hNl hyf hrng hy hFl hyl
                go_wp2_with fail
                go_roundw
                case rel => exact ⟨i + 1, by omega, by go_num, HFIN.out, hbq⟩
                case measure => simp [intOf]; omega
              · have heb : (y.rnd == r) = false := by simpa using he
                have HFIN : Hid (R49 wr B (.slice (some ⟨g, 0, none⟩) N cF) (GS F (finM r o1 o2) 0 (i + 1))) := by
                  show R49 _ _ _ _
                  have hfin : finM r o1 o2 y = y := by unfold finM; rw [if_neg he]
                  rw [← HSC.out, hfin, set_same HGY.out]; exact HRQ.out
                clear hgy hsucc hNl hyf hrng hy hFl hyl
                go_wp2_with fail
                go_roundw
                case rel => exact ⟨i + 1, by omega, by go_num, HFIN.out, hbq⟩
                case measure => simp [intOf]; omega
            · have hie : i = N := by omega
              subst hie
              have hFl := HNF.out
              have HLF : Hid (L = (F.drop 0).map (finM r o1 o2)) := by
                show _ = _
                rw [HL.out, model_row hs r o1 o2 F (by have e1 := HP1.out; have e2 := HP2.out; have := HI.out; cases o1 <;> cases o2 <;> simp_all)]
                rw [if_neg (by omega)]
              have HBE : Hid (Below w.heap.size w wr) := HW2.out.trans (hbq.mono (by have := HBd.out; have := HW2.out.size; omega))
              have HFL : Hid (F.length = i) := hFl
              clear hFl
              go_wp2_with fail
              go_ret
              have hFl := HFL.out
              refine ⟨_, rfl, ?_, HBE.out⟩
              have hR := HRQ.out
              rw [GS_all _ _ _ _ (by omega)] at hR
              have e : F.take 0 ++ (F.drop 0).map (finM r o1 o2) = (F.drop 0).map (finM r o1 o2) := by simp
              rw [e] at hR
              have hml : ((F.drop 0).map (finM r o1 o2)).length = F.length := by simp
              have := R49_all hR (by omega) (by omega)
              rw [HLF.out]
              exact this

end Go.Proofs.Qxb6604712a
