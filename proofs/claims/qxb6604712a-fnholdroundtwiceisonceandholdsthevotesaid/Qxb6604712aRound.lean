/-
  Seat b6604712a: (*senderAhead).holdRound, ZZholdRound.
-/
import Derived.Test.Qxb6604712aPlain2
import Derived.Test.Qxb6604712aApply
namespace Go.Proofs.Qxb6604712a
open Go.RowKit
set_option linter.unusedSimpArgs false
set_option linter.unusedVariables false
attribute [local go_sem ↓] exec_load88
attribute [local go_sem] ptrB ptrO isPtr

theorem findV_some {vs : List VoteD} {f : Int} {i : Nat} {x : VoteD} (hc : VCut vs f i) (hx : vs[i]? = some x) (hf : x.frm = f) : findV vs f = some x := by
  unfold findV
  rw [List.find?_eq_some_iff_getElem]
  obtain ⟨hi, hxe⟩ := List.getElem?_eq_some_iff.1 hx
  refine ⟨by simp [hf], i, hi, hxe, fun j hj => ?_⟩
  have := hc.2.1 j _ hj (List.getElem?_eq_getElem (by omega))
  simp; omega
theorem findV_none {vs : List VoteD} {f : Int} {i : Nat} (hc : VCut vs f i) (hg : VGrows vs) (hf : vfound vs f i = false) : findV vs f = none := by
  unfold findV
  rw [List.find?_eq_none]
  intro x hx
  obtain ⟨j, hj, hxe⟩ := List.mem_iff_getElem.1 hx
  have hxj : vs[j]? = some x := by rw [List.getElem?_eq_getElem hj, hxe]
  rcases Nat.lt_trichotomy j i with h | h | h
  · have := hc.2.1 j x h hxj
    simp; omega
  · subst h
    unfold vfound at hf
    rw [hxj] at hf
    simpa using hf
  · have hi : i < vs.length := by omega
    have h1 := hc.2.2 i _ (Nat.le_refl _) (List.getElem?_eq_getElem hi)
    have h2 := hg.lt' h (List.getElem?_eq_getElem hi) hxj
    simp; omega

theorem hold_any (B g : Nat) (v : Value) (hs : List HrD) (r st : Int) (hst : st = 1 ∨ st = 2) (x : VoteD) (w : World) (h : AH w B g v hs) (hB : B ≤ w.heap.size) (hn : hs.length ≤ 3) (hgr : Grows hs) (hx : x.id.length = 32) (hsl : x.sl) :
    Calls Try.prog 63 #[.pointer (some ⟨g, 3, none⟩), .int .i64 r, .int .i8 st, .agg x.cells.toArray] w fun e w' => e = .returned (.tuple #[]) ∧ ∃ v', AH w' B g v' (holdP hs r st (some x)) ∧ Moved w w' g v v' := by
  rcases hst with rfl | rfl
  · exact hold1 B g v hs r x _ w h hB hn hgr hx hsl (lb_cut hs r hgr)
  · exact hold2 B g v hs r x _ w h hB hn hgr hx hsl (lb_cut hs r hgr)

/-- The round's record, whatever world has grown upon w0. -/
structure RS (w0 : World) (B gs : Nat) (a : StD) : Prop where
  is : ∃ P, IsS w0 P gs a
  size : w0.heap.size ≤ B
  g1 : VGrows a.vs1
  g2 : VGrows a.vs2
  n1 : a.vs1.length ≤ 1000000
  n2 : a.vs2.length ≤ 1000000
  s1 : ∀ x ∈ a.vs1, x.sl
  s2 : ∀ x ∈ a.vs2, x.sl

theorem AH.lo {w : World} {B g : Nat} {v : Value} {hs : List HrD} (h : AH w B g v hs) : ∀ k, v.ownBlock = some k → B ≤ k := fun k hk => (owns_block h.own k hk).1
theorem Moved.belowB {w w' : World} {B g : Nat} {v v' : Value} {hs : List HrD} (m : Moved w w' g v v') (h : AH w B g v hs) : Below B w w' := m.below (Nat.le_trans h.base (Nat.le_of_lt h.lt)) h.base h.lo

/-- The step's facts of the record in a world. -/
theorem RS.at {w0 W : World} {B gs : Nat} {a : StD} (h : RS w0 B gs a) (hb : Below w0.heap.size w0 W) (st : Int) (hst : st = 1 ∨ st = 2) :
    W.cell? ⟨gs, 0, none⟩ = some (.int .i64 a.round) ∧ (∃ v o, (if st = 2 then 45 else 42) = o ∧ W.cell? ⟨gs, o, none⟩ = some v ∧ W.ownsRow 0 88 35 v (a.vs st).length ((a.vs st).flatMap VoteD.cells)) ∧ (∀ x ∈ a.vs st, x.id.length = 32 ∧ x.sl) ∧ VGrows (a.vs st) ∧ (a.vs st).length ≤ 1000000 := by
  obtain ⟨P, hI⟩ := h.is
  have hIW := hI.below hb
  obtain ⟨v, p, o, h1, h2, _, h4, _, h6, _⟩ := hIW.rows st hst
  refine ⟨?_, ⟨v, o, h1, h2, h4⟩, fun x hx => ⟨h6 x hx, ?_⟩, ?_, ?_⟩
  · obtain ⟨pv, pp, cv, cp, sn, hi⟩ := hIW
    rw [hi.cell]; rfl
  · rcases hst with rfl | rfl
    · exact h.s1 x hx
    · exact h.s2 x hx
  · rcases hst with rfl | rfl
    · exact h.g1
    · exact h.g2
  · rcases hst with rfl | rfl
    · exact h.n1
    · exact h.n2

theorem index120_0 (w : World) : (Instr.index 120 (.agg #[.int .i8 1, .int .i8 2]) (.int .i64 0)).run Try.prog w = .ok (.int .i8 1) w := by kernel_rfl
theorem index120_1 (w : World) : (Instr.index 120 (.agg #[.int .i8 1, .int .i8 2]) (.int .i64 1)).run Try.prog w = .ok (.int .i8 2) w := by kernel_rfl

def stage (hs : List HrD) (a : StD) (f : Int) : Nat → List HrD
  | 0 => hs
  | 1 => holdP hs a.round 1 (findV a.vs1 f)
  | _ => holdP (holdP hs a.round 1 (findV a.vs1 f)) a.round 2 (findV a.vs2 f)

set_option maxRecDepth 100000 in
set_option maxHeartbeats 4000000 in
theorem holdRound_any (B g gs : Nat) (v : Value) (hs : List HrD) (a : StD) (f : Int) (w0 w : World) (h : AH w B g v hs) (hrs : RS w0 B gs a) (hb : Below w0.heap.size w0 w) (hn : hs.length ≤ 3) (hgr : Grows hs) :
    Calls Try.prog 42 #[.pointer (some ⟨g, 0, none⟩), .pointer (some ⟨gs, 0, none⟩), .int .i64 f] w fun e w' => e = .returned (.tuple #[]) ∧ ∃ v', AH w' B g v' (stage hs a f 2) ∧ Moved w w' g v v' := by
  have hsh : ∀ k, (stage hs a f k).length ≤ 3 ∧ Grows (stage hs a f k) := fun k => by
    match k with
    | 0 => exact ⟨hn, hgr⟩
    | 1 => exact hold_shape' _ _ _ _ hn hgr
    | k + 2 =>
      obtain ⟨h1, h2⟩ := hold_shape' hs a.round 1 (findV a.vs1 f) hn hgr
      exact hold_shape' _ _ _ _ h1 h2
  have HS : Hid (∀ k, (stage hs a f k).length ≤ 3 ∧ Grows (stage hs a f k)) := hsh
  have HR : Hid (RS w0 B gs a) := hrs
  have HB : Hid (Below w0.heap.size w0 w) := hb
  have H0 : Hid (AH w B g v hs) := h
  clear hsh hrs hb h
  go_enter Try.func42, Try.ntmps42
  go_wp2_with fail
  go_loopw [12] (fun iv wr => ∃ k : Nat, k ≤ 2 ∧ iv = .int .i64 k ∧ ∃ v', AH wr B g v' (stage hs a f k) ∧ Moved w wr g v v') (fun iv _ => 2 - (intOf iv).toNat)
  case atStart => exact ⟨0, by omega, rfl, v, H0.out, Moved.refl _ _ _⟩
  case round =>
    obtain ⟨k, hk, rfl, v1, hA, hM⟩ := hrel
    have HA : Hid (AH wr B g v1 (stage hs a f k)) := hA
    have HM : Hid (Moved w wr g v v1) := hM
    have hbr : Below w0.heap.size w0 wr := HB.out.trans ((hM.belowB H0.out).mono HR.out.size)
    clear hA hM
    by_cases hlt : k < 2
    · have hkk : k = 0 ∨ k = 1 := by omega
      rcases hkk with rfl | rfl
      · obtain ⟨hc0, ⟨vv, o, ho, hcv, hown⟩, hids, hvg, hvn⟩ := HR.out.at hbr 1 (by omega)
        have ho' : o = 42 := by rw [← ho]; decide
        subst ho'
        have htl := tally_any gs 1 (by omega) wr
        rw [ho] at htl
        have hfd := find_any gs 42 f vv (a.vs 1) wr hcv hown (fun x hx => (hids x hx).1) hvn hvg
        have HV : Hid (a.vs 1 = a.vs1) := rfl
        have hsk := HS.out 0
        clear ho hc0 hcv hown
        simp only [show ((0 : Nat) : Int) = 0 from rfl]
        have hix := index120_0 wr
        go_wp2_with fail
        refine htl.mono ?_
        rintro e w1 ⟨rfl, rfl⟩
        clear htl
        go_wp2_with fail
        refine hfd.mono ?_
        rintro e w2 ⟨i, rfl, hcut, hb2⟩
        clear hfd
        have hb2' : Below w0.heap.size w0 w2 := below_then hbr (Nat.le_refl _) hb2
        have HA2 : Hid (AH w2 B g v1 (stage hs a f 0)) := HA.out.below hb2
        have HM2 : Hid (Moved w w2 g v v1) := HM.out.trans (Moved.ofBelow hb2 _ _)
        clear HA HM hb2 hbr
        cases hvf : vfound (a.vs 1) f i with
        | false =>
          have hfn := findV_none hcut hvg hvf
          have he : Hid (stage hs a f 1 = stage hs a f 0) := by
            show holdP (stage hs a f 0) a.round 1 (findV a.vs1 f) = _
            rw [show findV a.vs1 f = none from hfn]; rfl
          clear hvf hfn hcut
          go_wp2_with fail
          go_roundw
          case rel => exact ⟨1, by omega, rfl, v1, by rw [he.out]; exact HA2.out, HM2.out⟩
          case measure => simp [intOf]
        | true =>
          obtain ⟨x, hx, hxf⟩ : ∃ x, (a.vs 1)[i]? = some x ∧ x.frm = f := by
            unfold vfound at hvf
            cases hq : (a.vs 1)[i]? with
            | none => rw [hq] at hvf; cases hvf
            | some x => rw [hq] at hvf; exact ⟨x, rfl, by simpa using hvf⟩
          have hfs := findV_some hcut hx hxf
          have he : Hid (stage hs a f 1 = holdP (stage hs a f 0) a.round 1 (some x)) := by
            show holdP (stage hs a f 0) a.round 1 (findV a.vs1 f) = _
            rw [show findV a.vs1 f = some x from hfs]
          obtain ⟨hc0, ⟨vv, o, ho, hcv, hown⟩, _, _, _⟩ := HR.out.at (Below.refl _ _) 1 (by omega)
          have ho' : o = 42 := by rw [← ho]; decide
          subst ho'
          obtain ⟨gv, capv, rfl, hr⟩ := row_at VoteD.cells hown (fun y hy => VoteD.cells_len (hids y hy).1) hx (by omega)
          obtain ⟨hxi, hxs⟩ := hids x (List.mem_of_getElem? hx)
          have SH : Hid (∀ W, Below w0.heap.size w0 W → W.cell? ⟨gs, 0, none⟩ = some (.int .i64 a.round) ∧ W.cell? ⟨gs, 42, none⟩ = some (.slice (some ⟨gv, 0, none⟩) (a.vs 1).length capv) ∧ canRd W gv (i * 35) 35 ∧ rd W gv (i * 35) 35 = x.cells.toArray) := fun W hbW =>
            ⟨cell_below hc0 hbW, cell_below hcv hbW, canRd_of_range (rangeAt_below hr hbW) (VoteD.cells_len hxi), rd_of_range (rangeAt_below hr hbW) (VoteD.cells_len hxi)⟩
          have hSd := SH.out w2.drew (hb2'.trans (below_drewN w2 _ 1))
          have hin : (i : Int) < ((a.vs 1).length : Int) := by have := (List.getElem?_eq_some_iff.1 hx).1; omega
          have HX : Hid ((a.vs 1)[i]? = some x) := hx
          have hAd : AH w2.drew B g v1 (stage hs a f 0) := HA2.out.below (below_drewN w2 _ 1)
          have hhold := hold_any B g v1 (stage hs a f 0) a.round 1 (by omega) x w2.drew hAd (Nat.le_trans HA2.out.base (Nat.le_of_lt HA2.out.lt)) hsk.1 hsk.2 hxi hxs
          have HH : Hid (Calls Try.prog 63 #[.pointer (some ⟨g, 3, none⟩), .int .i64 a.round, .int .i8 1, .agg x.cells.toArray] w2.drew fun e w' => e = .returned (.tuple #[]) ∧ ∃ v', AH w' B g v' (holdP (stage hs a f 0) a.round 1 (some x)) ∧ Moved w2.drew w' g v1 v') := hhold
          have hc3 := HA2.out.cell
          have HAd : Hid (AH w2.drew B g v1 (stage hs a f 0)) := hAd
          have HBd : Hid (Below w0.heap.size w0 w2.drew) := hb2'.trans (below_drewN w2 _ 1)
          have HSZ : Hid (w0.heap.size ≤ B) := HR.out.size
          have HMd : Hid (Moved w w2.drew g v v1) := HM2.out.trans (Moved.ofBelow (below_drewN w2 _ 1) _ _)
          clear hc0 hcv
          clear hx hvf hcut hfs hown ho hr hxi hxs hids hAd hhold hvg hxf HX hsk
          generalize (a.vs 1).length = nv at *
          go_wp2_with fail
          go_region_held3 (fun w' => w'.cell? ⟨gs, 0, none⟩ = some (.int .i64 a.round) ∧ w'.cell? ⟨gs, 42, none⟩ = some (.slice (some ⟨gv, 0, none⟩) nv capv) ∧ canRd w' gv (i * 35) 35 ∧ rd w' gv (i * 35) 35 = x.cells.toArray)
            (first | exact hSd | exact hS5 | fail)
            (first | (go_at_call 63; refine HH.out.mono ?_; rintro e w5 ⟨rfl, v5, hA5, hM5⟩; have hS5 := SH.out w5 (HBd.out.trans ((hM5.belowB HAd.out).mono HSZ.out))))
          have HA5 : Hid (AH w5 B g v5 (stage hs a f 1)) := by show AH _ _ _ _ _; rw [he.out]; exact hA5
          have HM5 : Hid (Moved w w5 g v v5) := HMd.out.trans hM5
          clear hA5 hM5
          go_wp2_with fail
          go_roundw
          case rel => exact ⟨1, by omega, rfl, v5, HA5.out, HM5.out⟩
          case measure => simp [intOf]
      · obtain ⟨hc0, ⟨vv, o, ho, hcv, hown⟩, hids, hvg, hvn⟩ := HR.out.at hbr 2 (by omega)
        have ho' : o = 45 := by rw [← ho]; decide
        subst ho'
        have htl := tally_any gs 2 (by omega) wr
        rw [ho] at htl
        have hfd := find_any gs 45 f vv (a.vs 2) wr hcv hown (fun x hx => (hids x hx).1) hvn hvg
        have HV : Hid (a.vs 2 = a.vs2) := rfl
        have hsk := HS.out 1
        clear ho hc0 hcv hown
        simp only [show ((1 : Nat) : Int) = 1 from rfl]
        have hix := index120_1 wr
        go_wp2_with fail
        refine htl.mono ?_
        rintro e w1 ⟨rfl, rfl⟩
        clear htl
        go_wp2_with fail
        refine hfd.mono ?_
        rintro e w2 ⟨i, rfl, hcut, hb2⟩
        clear hfd
        have hb2' : Below w0.heap.size w0 w2 := below_then hbr (Nat.le_refl _) hb2
        have HA2 : Hid (AH w2 B g v1 (stage hs a f 1)) := HA.out.below hb2
        have HM2 : Hid (Moved w w2 g v v1) := HM.out.trans (Moved.ofBelow hb2 _ _)
        clear HA HM hb2 hbr
        cases hvf : vfound (a.vs 2) f i with
        | false =>
          have hfn := findV_none hcut hvg hvf
          have he : Hid (stage hs a f 2 = stage hs a f 1) := by
            show holdP (stage hs a f 1) a.round 2 (findV a.vs2 f) = _
            rw [show findV a.vs2 f = none from hfn]; rfl
          clear hvf hfn hcut
          go_wp2_with fail
          go_roundw
          case rel => exact ⟨2, by omega, rfl, v1, by rw [he.out]; exact HA2.out, HM2.out⟩
          case measure => simp [intOf]
        | true =>
          obtain ⟨x, hx, hxf⟩ : ∃ x, (a.vs 2)[i]? = some x ∧ x.frm = f := by
            unfold vfound at hvf
            cases hq : (a.vs 2)[i]? with
            | none => rw [hq] at hvf; cases hvf
            | some x => rw [hq] at hvf; exact ⟨x, rfl, by simpa using hvf⟩
          have hfs := findV_some hcut hx hxf
          have he : Hid (stage hs a f 2 = holdP (stage hs a f 1) a.round 2 (some x)) := by
            show holdP (stage hs a f 1) a.round 2 (findV a.vs2 f) = _
            rw [show findV a.vs2 f = some x from hfs]
          obtain ⟨hc0, ⟨vv, o, ho, hcv, hown⟩, _, _, _⟩ := HR.out.at (Below.refl _ _) 2 (by omega)
          have ho' : o = 45 := by rw [← ho]; decide
          subst ho'
          obtain ⟨gv, capv, rfl, hr⟩ := row_at VoteD.cells hown (fun y hy => VoteD.cells_len (hids y hy).1) hx (by omega)
          obtain ⟨hxi, hxs⟩ := hids x (List.mem_of_getElem? hx)
          have SH : Hid (∀ W, Below w0.heap.size w0 W → W.cell? ⟨gs, 0, none⟩ = some (.int .i64 a.round) ∧ W.cell? ⟨gs, 45, none⟩ = some (.slice (some ⟨gv, 0, none⟩) (a.vs 2).length capv) ∧ canRd W gv (i * 35) 35 ∧ rd W gv (i * 35) 35 = x.cells.toArray) := fun W hbW =>
            ⟨cell_below hc0 hbW, cell_below hcv hbW, canRd_of_range (rangeAt_below hr hbW) (VoteD.cells_len hxi), rd_of_range (rangeAt_below hr hbW) (VoteD.cells_len hxi)⟩
          have hSd := SH.out w2.drew (hb2'.trans (below_drewN w2 _ 1))
          have hin : (i : Int) < ((a.vs 2).length : Int) := by have := (List.getElem?_eq_some_iff.1 hx).1; omega
          have HX : Hid ((a.vs 2)[i]? = some x) := hx
          have hAd : AH w2.drew B g v1 (stage hs a f 1) := HA2.out.below (below_drewN w2 _ 1)
          have hhold := hold_any B g v1 (stage hs a f 1) a.round 2 (by omega) x w2.drew hAd (Nat.le_trans HA2.out.base (Nat.le_of_lt HA2.out.lt)) hsk.1 hsk.2 hxi hxs
          have HH : Hid (Calls Try.prog 63 #[.pointer (some ⟨g, 3, none⟩), .int .i64 a.round, .int .i8 2, .agg x.cells.toArray] w2.drew fun e w' => e = .returned (.tuple #[]) ∧ ∃ v', AH w' B g v' (holdP (stage hs a f 1) a.round 2 (some x)) ∧ Moved w2.drew w' g v1 v') := hhold
          have hc3 := HA2.out.cell
          have HAd : Hid (AH w2.drew B g v1 (stage hs a f 1)) := hAd
          have HBd : Hid (Below w0.heap.size w0 w2.drew) := hb2'.trans (below_drewN w2 _ 1)
          have HSZ : Hid (w0.heap.size ≤ B) := HR.out.size
          have HMd : Hid (Moved w w2.drew g v v1) := HM2.out.trans (Moved.ofBelow (below_drewN w2 _ 1) _ _)
          clear hc0 hcv
          clear hx hvf hcut hfs hown ho hr hxi hxs hids hAd hhold hvg hxf HX hsk
          generalize (a.vs 2).length = nv at *
          go_wp2_with fail
          go_region_held3 (fun w' => w'.cell? ⟨gs, 0, none⟩ = some (.int .i64 a.round) ∧ w'.cell? ⟨gs, 45, none⟩ = some (.slice (some ⟨gv, 0, none⟩) nv capv) ∧ canRd w' gv (i * 35) 35 ∧ rd w' gv (i * 35) 35 = x.cells.toArray)
            (first | exact hSd | exact hS5 | fail)
            (first | (go_at_call 63; refine HH.out.mono ?_; rintro e w5 ⟨rfl, v5, hA5, hM5⟩; have hS5 := SH.out w5 (HBd.out.trans ((hM5.belowB HAd.out).mono HSZ.out))))
          have HA5 : Hid (AH w5 B g v5 (stage hs a f 2)) := by show AH _ _ _ _ _; rw [he.out]; exact hA5
          have HM5 : Hid (Moved w w5 g v v5) := HMd.out.trans hM5
          clear hA5 hM5
          go_wp2_with fail
          go_roundw
          case rel => exact ⟨2, by omega, rfl, v5, HA5.out, HM5.out⟩
          case measure => simp [intOf]
    · have hk2 : k = 2 := by omega
      subst hk2
      go_wp2_with fail
      go_end0
      exact ⟨rfl, v1, HA.out, HM.out⟩

set_option maxHeartbeats 1000000 in
theorem zzhold_any (B g gs : Nat) (v : Value) (hs : List HrD) (a : StD) (f : Int) (w0 w : World) (h : AH w B g v hs) (hrs : RS w0 B gs a) (hb : Below w0.heap.size w0 w) (hn : hs.length ≤ 3) (hgr : Grows hs) :
    Calls Try.prog 15 #[.pointer (some ⟨g, 0, none⟩), .pointer (some ⟨gs, 0, none⟩), .int .i64 f] w fun e w' => e = .returned (.tuple #[]) ∧ ∃ v', AH w' B g v' (stage hs a f 2) ∧ Moved w w' g v v' := by
  have hh := holdRound_any B g gs v hs a f w0 w h hrs hb hn hgr
  clear h hrs hb
  go_enter Try.func15, Try.ntmps15
  go_wp2_with fail
  refine hh.mono ?_
  rintro e w1 ⟨rfl, v1, hA, hM⟩
  have HA : Hid (AH w1 B g v1 (stage hs a f 2)) := hA
  clear hA hh
  go_wp2_with fail
  go_end0
  exact ⟨rfl, v1, HA.out, hM⟩
end Go.Proofs.Qxb6604712a
