/-
  Seat b6604712a: applyRefill, applyFill.
-/
import Derived.Test.Qxb6604712aApply
namespace Go.Proofs.Qxb6604712a
open Go.RowKit
set_option linter.unusedSimpArgs false
set_option linter.unusedVariables false
attribute [local go_sem ↓] exec_load40
attribute [local go_sem] ptrB ptrO isPtr

theorem PowD.cells_32 {x : PowD} (h : x.id.length = 32) : x.cells[32]? = some (.int .i64 x.pw) := by simp [PowD.cells, h]

/-- What a round's record holds once it has been filled. -/
def StD.prop0 (a : StD) (g : Nat) (r : RefD) : StD := if r.hp then a.setProp g r.value r.id r.vr r.sig r.c1 r.c2 r.c3 r.c4 r.c5 else a
def StD.fill (a : StD) (g : Nat) (r : RefD) (us1 us2 : List VoteD) (ps1 ps2 : List PowD) : StD :=
  ((((((a.prop0 g r).addVs 1 us1).addVs 2 us2).addPs 1 ps1).addPs 2 ps2).setT 1 r.pt).setT 2 r.ct

theorem prop0_vs (a : StD) (g : Nat) (r : RefD) (st : Int) : (a.prop0 g r).vs st = a.vs st := by
  unfold StD.prop0; split <;> rfl
theorem prop0_ps (a : StD) (g : Nat) (r : RefD) (st : Int) : (a.prop0 g r).ps st = a.ps st := by
  unfold StD.prop0; split <;> rfl
theorem addVs1_vs2 (a : StD) (xs : List VoteD) : (a.addVs 1 xs).vs 2 = a.vs 2 := rfl
theorem addVs_ps (a : StD) (st : Int) (xs : List VoteD) (s : Int) : (a.addVs st xs).ps s = a.ps s := by
  unfold StD.addVs; split <;> rfl
theorem addPs1_ps2 (a : StD) (xs : List PowD) : (a.addPs 1 xs).ps 2 = a.ps 2 := rfl

set_option maxRecDepth 100000 in
set_option maxHeartbeats 4000000 in
theorem applyRefill_is (g : Nat) (r : RefD) (bv bg : List Int) (us1 us2 : List VoteD) (ps1 ps2 : List PowD) (P : Nat → Prop) (a : StD) (w0 w : World) (hok : r.Ok w0 bv bg us1 us2 ps1 ps2) (hP : ∀ k, k < w0.heap.size → P k) (hb : Below w0.heap.size w0 w) (h : IsS w P g a)
    (hn1 : (a.vs 1).length + us1.length ≤ 1000000) (hn2 : (a.vs 2).length + us2.length ≤ 1000000) (hm1 : (a.ps 1).length + ps1.length ≤ 1000000) (hm2 : (a.ps 2).length + ps2.length ≤ 1000000) :
    Calls Try.prog 35 #[.pointer (some ⟨g, 0, none⟩), .agg r.cells.toArray] w fun e w' => e = .returned (.tuple #[]) ∧ IsS w' P g (a.fill g r us1 us2 ps1 ps2) ∧ Steps P w w' := by
  have hid := hok.id
  have hpl : ∀ k, P k → k < w.heap.size := by obtain ⟨_, _, _, _, _, h⟩ := h; exact h.pl
  obtain ⟨W, hW⟩ : ∃ W, W = w.alloc (Obj.cells r.cells.toArray 59) := ⟨_, rfl⟩
  have hbW : Below w.heap.size w W := by rw [hW]; exact (Below.refl _ _).alloc (Nat.le_refl _) _
  have hbx : W.heap[w.heap.size]? = some (.cells r.cells.toArray 59 (0, 0)) := by rw [hW]; exact heap_alloc_new _ _
  have hszW : W.heap.size = w.heap.size + 1 := by rw [hW]; simp
  obtain ⟨Q, hQ⟩ : ∃ Q : Nat → Prop, Q = fun k => P k ∨ k = w.heap.size := ⟨_, rfl⟩
  have hQP : ∀ k, P k → Q k := fun k hk => by rw [hQ]; exact .inl hk
  have hQx : Q w.heap.size := by rw [hQ]; exact .inr rfl
  have hI : IsS W Q g a := by
    obtain ⟨pv, pp, cv, cp, sn, h⟩ := h
    refine ⟨pv, pp, cv, cp, sn, h.below hbW Q fun k hk => ?_⟩
    rw [hQ] at hk
    rcases hk with hk | hk
    · exact ⟨.inl hk, by have := hpl k hk; omega⟩
    · exact ⟨.inr (by omega), by omega⟩
  have hS0 : Steps P w W := Steps.ofBelow hbW hpl
  have hbW0 : Below w0.heap.size w0 W := hb.trans (hbW.mono hb.size)
  have hP0 : ∀ k, k < w0.heap.size → Q k := fun k hk => hQP k (hP k hk)
  have HOK : Hid (r.Ok w0 bv bg us1 us2 ps1 ps2) := hok
  obtain ⟨d1, l1, x1, f1⟩ := hok.value.form
  obtain ⟨d4, l4, x4, f4⟩ := hok.sig.form
  obtain ⟨d12, x12, f12, _, hl12, _⟩ := hok.pp.1
  obtain ⟨d13, x13, f13, _, hl13, _⟩ := hok.cp.1
  have g0 := RefD.g0 r
  have g1 := RefD.g1 r
  have g34 := RefD.g34 hid
  have g35 := RefD.g35 hid
  have g36 := RefD.g36 hid
  have g37 := RefD.g37 hid
  have g38 := RefD.g38 hid
  have g39 := RefD.g39 hid
  have g40 := RefD.g40 hid
  have g41 := RefD.g41 hid
  have g42 := RefD.g42 hid
  have g43 := RefD.g43 hid
  have g44 := RefD.g44 hid
  have g45 := RefD.g45 hid
  have g46 := RefD.g46 hid
  rw [f1] at g1
  rw [f4] at g35
  rw [f12] at g43
  rw [f13] at g44
  have hcell : ∀ {w' : World} {i : Nat} {u : Value}, w'.heap[w.heap.size]? = some (.cells r.cells.toArray 59 (0, 0)) → r.cells[i]? = some u → w'.cell? ⟨w.heap.size, i, none⟩ = some u := fun hb hu => by rw [cell_of_block hb]; exact hu
  have hbox : ∀ {w' : World}, Steps Q W w' → w'.heap[w.heap.size]? = some (.cells r.cells.toArray 59 (0, 0)) := fun hs => by rw [hs.keep _ hQx]; exact hbx
  have hrid : W.rangeAt w.heap.size 2 (r.id.map (Value.int .u8)) := range_of_block hbx 2 _ fun j v hv => by
    have hj := (List.getElem?_eq_some_iff.1 hv).1
    rw [RefD.cells, Nat.add_comm 2 j, show j + 2 = (j + 1) + 1 from rfl, List.getElem?_cons_succ, List.getElem?_cons_succ, List.getElem?_append_left hj]
    exact hv
  have HH : Hid (Below w.heap.size w W ∧ IsS W Q g a ∧ Steps P w W ∧ Below w0.heap.size w0 W) := ⟨hbW, hI, hS0, hbW0⟩
  clear hok hb hbW hI hS0 hbW0 h
  have hvs1 : ((a.prop0 g r).vs 1).length + us1.length ≤ 1000000 := by rw [prop0_vs]; exact hn1
  have hvs2 : (((a.prop0 g r).addVs 1 us1).vs 2).length + us2.length ≤ 1000000 := by rw [addVs1_vs2, prop0_vs]; exact hn2
  have hqs1 : ((((a.prop0 g r).addVs 1 us1).addVs 2 us2).ps 1).length + ps1.length ≤ 1000000 := by rw [addVs_ps, addVs_ps, prop0_ps]; exact hm1
  have hqs2 : (((((a.prop0 g r).addVs 1 us1).addVs 2 us2).addPs 1 ps1).ps 2).length + ps2.length ≤ 1000000 := by rw [addPs1_ps2, addVs_ps, addVs_ps, prop0_ps]; exact hm2
  cases hhp : r.hp
  · rw [hhp] at g0
    go_enter Try.func35, Try.ntmps35
    go_wp2_with fail
    rw [← hW]
    have hIA : IsS W Q g (a.prop0 g r) := by unfold StD.prop0; rw [hhp, if_neg (by decide)]; exact HH.out.2.1
    have hTA : Steps Q W W := Steps.refl _ _
    have hB1 := HH.out.2.2.2
    refine (addVotes_is g 1 (.inl rfl) r.pv us1 Q (a.prop0 g r) w0 _ HOK.out.pv hP0 (hB1) hIA hvs1).mono ?_
    rintro e w2 ⟨rfl, hI2, hS2⟩
    have hT2 := hTA.trans hS2
    have c42 := hcell (hbox hT2) g42
    go_wp2_with fail
    refine (addVotes_is g 2 (.inr rfl) r.pc us2 Q _ w0 _ HOK.out.pc hP0 (HH.out.2.2.2.trans (hT2.below hP0)) hI2 hvs2).mono ?_
    rintro e w3 ⟨rfl, hI3, hS3⟩
    have hT3 := hT2.trans hS3
    clear c42
    generalize hA3 : ((a.prop0 g r).addVs 1 us1).addVs 2 us2 = a3 at *
    go_wp2
    go_loopw [4] (fun i wr => ∃ k : Nat, k ≤ ps1.length ∧ i = .int .i64 k ∧ IsS wr Q g (a3.addPs 1 (ps1.take k)) ∧ Steps Q W wr) (fun i _ => ps1.length - (intOf i).toNat)
    case atStart => exact ⟨0, Nat.zero_le _, rfl, by rw [List.take_zero, addPs_nil]; exact hI3, hT3⟩
    case round =>
      obtain ⟨k, hk, rfl, hI, hS⟩ := hrel
      have c43 := hcell (hbox hS) g43
      by_cases hlt : k < ps1.length
      · have hpp := HOK.out.pp
        rw [f12] at hpp
        obtain ⟨b, o, x, hab, hx, hxid, hr⟩ := hpp.cellsAt k hlt
        obtain ⟨id, pw⟩ := x
        subst hab
        have hbl : Q b := hP0 b (World.block_lt_of_cell? w0 ⟨b, o + k * 33 + 32, none⟩ (hr 32 _ (PowD.cells_32 hxid)))
        have hr1 : wr.rangeAt b (o + k * 33) (PowD.mk id pw).cells := hS.range hbl (rangeAt_below hr HH.out.2.2.2)
        have c32 := hr1 32 _ (PowD.cells_32 hxid)
        have cid : wr.rangeAt b (o + k * 33) (id.map (Value.int .u8)) := fun j u hu => hr1 j u (by
          have hj := (List.getElem?_eq_some_iff.1 hu).1
          rw [PowD.cells, List.getElem?_append_left hj]; exact hu)
        have hu40 := Try.underlying40
        have hi40 : (Try.prog.info? 40).map (·.size) = some (id.map (Value.int .u8)).length := by rw [Try.size40]; simp; exact hxid.symm
        have hlt' : (k : Int) < (ps1.length : Int) := by omega
        have hk0 : (0 : Int) ≤ (k : Int) := by omega
        have HX : Hid (ps1[k]? = some ⟨id, pw⟩) := hx
        have HI : Hid (IsS wr Q g (a3.addPs 1 (ps1.take k))) := hI
        have hnk : ((a3.addPs 1 (ps1.take k)).ps 1).length ≤ 1000000 := by rw [addPs_ps]; simp; omega
        clear hx hI hr hr1 hpp
        go_wp2
        go_region_held3 (fun w' => w'.cell? ⟨w.heap.size, 43, none⟩ = some (.slice (some ⟨b, o, none⟩) ps1.length x12) ∧ w'.rangeAt b (o + k * 33) (id.map (Value.int .u8)) ∧ w'.cell? ⟨b, o + k * 33 + 32, none⟩ = some (.int .i64 pw))
          (first | exact ⟨c43, cid, c32⟩ | exact ⟨hS1.cell hQx c43, hS1.range hbl cid, hS1.cell hbl c32⟩ | fail)
          (first | (go_at_call 51; refine (addPower_is g 1 (.inl rfl) pw id hxid Q _ _ HI.out.drew hnk).mono ?_; rintro e wq ⟨rfl, hI1, hS1⟩))
        have hfin : IsS wq Q g (a3.addPs 1 (ps1.take (k + 1))) := by
          have hx' : ps1[k] = ⟨id, pw⟩ := by have := HX.out; rw [List.getElem?_eq_getElem hlt] at this; exact Option.some.inj this
          rw [addPs_snoc] at hI1
          rw [List.take_succ_eq_append_getElem hlt, hx']; exact hI1
        have hSq : Steps Q W wq := hS.drew.trans hS1
        clear hI1 hS1
        go_wp2
        go_roundw
        case rel => exact ⟨k + 1, by omega, by go_num, hfin, hSq⟩
        case measure => simp [intOf]; omega
      · have hke : k = ps1.length := by omega
        subst hke
        rw [List.take_of_length_le (Nat.le_refl _)] at hI
        generalize hA4 : a3.addPs 1 ps1 = a4 at *
        have hT4 := hS
        have hI4 := hI
        clear hlt hk
        go_wp2
        go_loopw [5] (fun i wr => ∃ k : Nat, k ≤ ps2.length ∧ i = .int .i64 k ∧ IsS wr Q g (a4.addPs 2 (ps2.take k)) ∧ Steps Q W wr) (fun i _ => ps2.length - (intOf i).toNat)
        case atStart => exact ⟨0, Nat.zero_le _, rfl, by rw [List.take_zero, addPs_nil]; exact hI4, hT4⟩
        case round =>
          obtain ⟨k, hk, rfl, hI, hS⟩ := hrel
          have c44 := hcell (hbox hS) g44
          by_cases hlt : k < ps2.length
          · have hpp := HOK.out.cp
            rw [f13] at hpp
            obtain ⟨b, o, x, hab, hx, hxid, hr⟩ := hpp.cellsAt k hlt
            obtain ⟨id, pw⟩ := x
            subst hab
            have hbl : Q b := hP0 b (World.block_lt_of_cell? w0 ⟨b, o + k * 33 + 32, none⟩ (hr 32 _ (PowD.cells_32 hxid)))
            have hr1 : wr.rangeAt b (o + k * 33) (PowD.mk id pw).cells := hS.range hbl (rangeAt_below hr HH.out.2.2.2)
            have c32 := hr1 32 _ (PowD.cells_32 hxid)
            have cid : wr.rangeAt b (o + k * 33) (id.map (Value.int .u8)) := fun j u hu => hr1 j u (by
              have hj := (List.getElem?_eq_some_iff.1 hu).1
              rw [PowD.cells, List.getElem?_append_left hj]; exact hu)
            have hu40 := Try.underlying40
            have hi40 : (Try.prog.info? 40).map (·.size) = some (id.map (Value.int .u8)).length := by rw [Try.size40]; simp; exact hxid.symm
            have hlt' : (k : Int) < (ps2.length : Int) := by omega
            have hk0 : (0 : Int) ≤ (k : Int) := by omega
            have HX : Hid (ps2[k]? = some ⟨id, pw⟩) := hx
            have HI : Hid (IsS wr Q g (a4.addPs 2 (ps2.take k))) := hI
            have hnk : ((a4.addPs 2 (ps2.take k)).ps 2).length ≤ 1000000 := by rw [addPs_ps]; simp; omega
            clear hx hI hr hr1 hpp
            go_wp2
            go_region_held3 (fun w' => w'.cell? ⟨w.heap.size, 44, none⟩ = some (.slice (some ⟨b, o, none⟩) ps2.length x13) ∧ w'.rangeAt b (o + k * 33) (id.map (Value.int .u8)) ∧ w'.cell? ⟨b, o + k * 33 + 32, none⟩ = some (.int .i64 pw))
              (first | exact ⟨c44, cid, c32⟩ | exact ⟨hS1.cell hQx c44, hS1.range hbl cid, hS1.cell hbl c32⟩ | fail)
              (first | (go_at_call 51; refine (addPower_is g 2 (.inr rfl) pw id hxid Q _ _ HI.out.drew hnk).mono ?_; rintro e wq ⟨rfl, hI1, hS1⟩))
            have hfin : IsS wq Q g (a4.addPs 2 (ps2.take (k + 1))) := by
              have hx' : ps2[k] = ⟨id, pw⟩ := by have := HX.out; rw [List.getElem?_eq_getElem hlt] at this; exact Option.some.inj this
              rw [addPs_snoc] at hI1
              rw [List.take_succ_eq_append_getElem hlt, hx']; exact hI1
            have hSq : Steps Q W wq := hS.drew.trans hS1
            clear hI1 hS1
            go_wp2
            go_roundw
            case rel => exact ⟨k + 1, by omega, by go_num, hfin, hSq⟩
            case measure => simp [intOf]; omega
          · have hke : k = ps2.length := by omega
            subst hke
            rw [List.take_of_length_le (Nat.le_refl _)] at hI
            have c45 := hcell (hbox hS) g45
            go_wp2_with fail
            refine (setTotal_is g 1 (.inl rfl) r.pt Q _ _ hI).mono ?_
            rintro e w5 ⟨rfl, hI5, hS5⟩
            have hT5 := hS.trans hS5
            have c46 := hcell (hbox hT5) g46
            go_wp2_with fail
            refine (setTotal_is g 2 (.inr rfl) r.ct Q _ _ hI5).mono ?_
            rintro e w6 ⟨rfl, hI6, hS6⟩
            go_wp2
            go_end0
            have hT6 := hT5.trans hS6
            refine ⟨rfl, ?_, HH.out.2.2.1.trans (hT6.mono hQP)⟩
            unfold StD.fill
            rw [hA3, hA4]
            exact hI6.mono hQP
  · rw [hhp] at g0
    have hrd := rd_of_range hrid (n := 32) (by simp [hid])
    have hcr := canRd_of_range hrid (n := 32) (by simp [hid])
    rw [hW] at hrd hcr
    go_enter Try.func35, Try.ntmps35
    go_wp2_with fail
    rw [← hW]
    refine (setProposal_is g d1 d4 l1 l4 x1 x4 r.id hid r.vr r.c1 r.c2 r.c3 r.c4 r.c5 Q a W HH.out.2.1).mono ?_
    rintro e wA ⟨rfl, hIA, hTA⟩
    have eA : a.setProp g (.slice d1 l1 x1) r.id r.vr (.slice d4 l4 x4) r.c1 r.c2 r.c3 r.c4 r.c5 = a.prop0 g r := by unfold StD.prop0; rw [hhp, if_pos rfl, f1, f4]
    rw [eA] at hIA
    have c41 := hcell (hbox hTA) g41
    have hB1 := HH.out.2.2.2.trans (hTA.below hP0)
    clear hrd hcr eA
    go_wp2_with fail
    refine (addVotes_is g 1 (.inl rfl) r.pv us1 Q (a.prop0 g r) w0 _ HOK.out.pv hP0 (hB1) hIA hvs1).mono ?_
    rintro e w2 ⟨rfl, hI2, hS2⟩
    have hT2 := hTA.trans hS2
    have c42 := hcell (hbox hT2) g42
    go_wp2_with fail
    refine (addVotes_is g 2 (.inr rfl) r.pc us2 Q _ w0 _ HOK.out.pc hP0 (HH.out.2.2.2.trans (hT2.below hP0)) hI2 hvs2).mono ?_
    rintro e w3 ⟨rfl, hI3, hS3⟩
    have hT3 := hT2.trans hS3
    clear c42
    generalize hA3 : ((a.prop0 g r).addVs 1 us1).addVs 2 us2 = a3 at *
    go_wp2
    go_loopw [4] (fun i wr => ∃ k : Nat, k ≤ ps1.length ∧ i = .int .i64 k ∧ IsS wr Q g (a3.addPs 1 (ps1.take k)) ∧ Steps Q W wr) (fun i _ => ps1.length - (intOf i).toNat)
    case atStart => exact ⟨0, Nat.zero_le _, rfl, by rw [List.take_zero, addPs_nil]; exact hI3, hT3⟩
    case round =>
      obtain ⟨k, hk, rfl, hI, hS⟩ := hrel
      have c43 := hcell (hbox hS) g43
      by_cases hlt : k < ps1.length
      · have hpp := HOK.out.pp
        rw [f12] at hpp
        obtain ⟨b, o, x, hab, hx, hxid, hr⟩ := hpp.cellsAt k hlt
        obtain ⟨id, pw⟩ := x
        subst hab
        have hbl : Q b := hP0 b (World.block_lt_of_cell? w0 ⟨b, o + k * 33 + 32, none⟩ (hr 32 _ (PowD.cells_32 hxid)))
        have hr1 : wr.rangeAt b (o + k * 33) (PowD.mk id pw).cells := hS.range hbl (rangeAt_below hr HH.out.2.2.2)
        have c32 := hr1 32 _ (PowD.cells_32 hxid)
        have cid : wr.rangeAt b (o + k * 33) (id.map (Value.int .u8)) := fun j u hu => hr1 j u (by
          have hj := (List.getElem?_eq_some_iff.1 hu).1
          rw [PowD.cells, List.getElem?_append_left hj]; exact hu)
        have hu40 := Try.underlying40
        have hi40 : (Try.prog.info? 40).map (·.size) = some (id.map (Value.int .u8)).length := by rw [Try.size40]; simp; exact hxid.symm
        have hlt' : (k : Int) < (ps1.length : Int) := by omega
        have hk0 : (0 : Int) ≤ (k : Int) := by omega
        have HX : Hid (ps1[k]? = some ⟨id, pw⟩) := hx
        have HI : Hid (IsS wr Q g (a3.addPs 1 (ps1.take k))) := hI
        have hnk : ((a3.addPs 1 (ps1.take k)).ps 1).length ≤ 1000000 := by rw [addPs_ps]; simp; omega
        clear hx hI hr hr1 hpp
        go_wp2
        go_region_held3 (fun w' => w'.cell? ⟨w.heap.size, 43, none⟩ = some (.slice (some ⟨b, o, none⟩) ps1.length x12) ∧ w'.rangeAt b (o + k * 33) (id.map (Value.int .u8)) ∧ w'.cell? ⟨b, o + k * 33 + 32, none⟩ = some (.int .i64 pw))
          (first | exact ⟨c43, cid, c32⟩ | exact ⟨hS1.cell hQx c43, hS1.range hbl cid, hS1.cell hbl c32⟩ | fail)
          (first | (go_at_call 51; refine (addPower_is g 1 (.inl rfl) pw id hxid Q _ _ HI.out.drew hnk).mono ?_; rintro e wq ⟨rfl, hI1, hS1⟩))
        have hfin : IsS wq Q g (a3.addPs 1 (ps1.take (k + 1))) := by
          have hx' : ps1[k] = ⟨id, pw⟩ := by have := HX.out; rw [List.getElem?_eq_getElem hlt] at this; exact Option.some.inj this
          rw [addPs_snoc] at hI1
          rw [List.take_succ_eq_append_getElem hlt, hx']; exact hI1
        have hSq : Steps Q W wq := hS.drew.trans hS1
        clear hI1 hS1
        go_wp2
        go_roundw
        case rel => exact ⟨k + 1, by omega, by go_num, hfin, hSq⟩
        case measure => simp [intOf]; omega
      · have hke : k = ps1.length := by omega
        subst hke
        rw [List.take_of_length_le (Nat.le_refl _)] at hI
        generalize hA4 : a3.addPs 1 ps1 = a4 at *
        have hT4 := hS
        have hI4 := hI
        clear hlt hk
        go_wp2
        go_loopw [5] (fun i wr => ∃ k : Nat, k ≤ ps2.length ∧ i = .int .i64 k ∧ IsS wr Q g (a4.addPs 2 (ps2.take k)) ∧ Steps Q W wr) (fun i _ => ps2.length - (intOf i).toNat)
        case atStart => exact ⟨0, Nat.zero_le _, rfl, by rw [List.take_zero, addPs_nil]; exact hI4, hT4⟩
        case round =>
          obtain ⟨k, hk, rfl, hI, hS⟩ := hrel
          have c44 := hcell (hbox hS) g44
          by_cases hlt : k < ps2.length
          · have hpp := HOK.out.cp
            rw [f13] at hpp
            obtain ⟨b, o, x, hab, hx, hxid, hr⟩ := hpp.cellsAt k hlt
            obtain ⟨id, pw⟩ := x
            subst hab
            have hbl : Q b := hP0 b (World.block_lt_of_cell? w0 ⟨b, o + k * 33 + 32, none⟩ (hr 32 _ (PowD.cells_32 hxid)))
            have hr1 : wr.rangeAt b (o + k * 33) (PowD.mk id pw).cells := hS.range hbl (rangeAt_below hr HH.out.2.2.2)
            have c32 := hr1 32 _ (PowD.cells_32 hxid)
            have cid : wr.rangeAt b (o + k * 33) (id.map (Value.int .u8)) := fun j u hu => hr1 j u (by
              have hj := (List.getElem?_eq_some_iff.1 hu).1
              rw [PowD.cells, List.getElem?_append_left hj]; exact hu)
            have hu40 := Try.underlying40
            have hi40 : (Try.prog.info? 40).map (·.size) = some (id.map (Value.int .u8)).length := by rw [Try.size40]; simp; exact hxid.symm
            have hlt' : (k : Int) < (ps2.length : Int) := by omega
            have hk0 : (0 : Int) ≤ (k : Int) := by omega
            have HX : Hid (ps2[k]? = some ⟨id, pw⟩) := hx
            have HI : Hid (IsS wr Q g (a4.addPs 2 (ps2.take k))) := hI
            have hnk : ((a4.addPs 2 (ps2.take k)).ps 2).length ≤ 1000000 := by rw [addPs_ps]; simp; omega
            clear hx hI hr hr1 hpp
            go_wp2
            go_region_held3 (fun w' => w'.cell? ⟨w.heap.size, 44, none⟩ = some (.slice (some ⟨b, o, none⟩) ps2.length x13) ∧ w'.rangeAt b (o + k * 33) (id.map (Value.int .u8)) ∧ w'.cell? ⟨b, o + k * 33 + 32, none⟩ = some (.int .i64 pw))
              (first | exact ⟨c44, cid, c32⟩ | exact ⟨hS1.cell hQx c44, hS1.range hbl cid, hS1.cell hbl c32⟩ | fail)
              (first | (go_at_call 51; refine (addPower_is g 2 (.inr rfl) pw id hxid Q _ _ HI.out.drew hnk).mono ?_; rintro e wq ⟨rfl, hI1, hS1⟩))
            have hfin : IsS wq Q g (a4.addPs 2 (ps2.take (k + 1))) := by
              have hx' : ps2[k] = ⟨id, pw⟩ := by have := HX.out; rw [List.getElem?_eq_getElem hlt] at this; exact Option.some.inj this
              rw [addPs_snoc] at hI1
              rw [List.take_succ_eq_append_getElem hlt, hx']; exact hI1
            have hSq : Steps Q W wq := hS.drew.trans hS1
            clear hI1 hS1
            go_wp2
            go_roundw
            case rel => exact ⟨k + 1, by omega, by go_num, hfin, hSq⟩
            case measure => simp [intOf]; omega
          · have hke : k = ps2.length := by omega
            subst hke
            rw [List.take_of_length_le (Nat.le_refl _)] at hI
            have c45 := hcell (hbox hS) g45
            go_wp2_with fail
            refine (setTotal_is g 1 (.inl rfl) r.pt Q _ _ hI).mono ?_
            rintro e w5 ⟨rfl, hI5, hS5⟩
            have hT5 := hS.trans hS5
            have c46 := hcell (hbox hT5) g46
            go_wp2_with fail
            refine (setTotal_is g 2 (.inr rfl) r.ct Q _ _ hI5).mono ?_
            rintro e w6 ⟨rfl, hI6, hS6⟩
            go_wp2
            go_end0
            have hT6 := hT5.trans hS6
            refine ⟨rfl, ?_, HH.out.2.2.1.trans (hT6.mono hQP)⟩
            unfold StD.fill
            rw [hA3, hA4]
            exact hI6.mono hQP

end Go.Proofs.Qxb6604712a
