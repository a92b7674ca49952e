/-
  Seat b6604712a: cloneHeld.
-/
import Derived.Test.Qxb6604712aBahead
namespace Go.Proofs.Qxb6604712a
open Go.RowKit
set_option linter.unusedSimpArgs false
set_option linter.unusedVariables false

theorem Try.size47 : (Try.prog.info? 47).map (·.size) = some 2 := by kernel_rfl
theorem exec_load47 (ρ : Operand → Value) (xp : Operand) (dst : Option Tmp) (ty : TypeId) (pos : String) (af : Array Edge) (gd : Option (Nat × Bool)) (w : World)
    (hp : isPtr (ρ xp) = true) (hc : canRd w (ptrB (ρ xp)) (ptrO (ρ xp)) 2) :
    Sem.run Try.prog (execOp ρ ⟨dst, .load 47 xp, ty, pos, af, gd⟩) w = .ok (.value (.agg (rd w (ptrB (ρ xp)) (ptrO (ρ xp)) 2))) w := exec_load_of Try.size47 Try.underlying47 rfl ρ xp dst ty pos af gd w hp hc
theorem exec_store47 (ρ : Operand → Value) (xp xv : Operand) (dst : Option Tmp) (ty : TypeId) (pos : String) (af : Array Edge) (gd : Option (Nat × Bool)) (w : World)
    (hp : isPtr (ρ xp) = true) (ht : w.there (ptrB (ρ xp)) (ptrO (ρ xp)) 2) (hs : (ρ xv).cells.size = 2) (h1 : oneAll (ρ xv) = true) :
    Sem.run Try.prog (execOp ρ ⟨dst, .store 47 xp xv, ty, pos, af, gd⟩) w = .ok .skip (w.setCells (ptrB (ρ xp)) (ptrO (ρ xp)) (ρ xv).cells.toList) := exec_store_of Try.size47 ρ xp xv dst ty pos af gd w hp ht hs h1
attribute [local go_sem ↓] exec_load43 exec_store43 exec_load47 exec_store47
attribute [local go_sem] ptrB ptrO isPtr

theorem q22 (w : World) (a : Option Addr) (n c n' c' : Nat) : (binOp .eql 22 (.slice a n c) (.slice none n' c')).run Try.prog w = .ok (.bool a.isNone) w := Lib.run_eql_slice_nil w _ _ a n c n' c' Try.underlying22
theorem Try.inf49 : (Try.prog.info? 49).map (fun i => (i.zero.isSome, i.size, i.bytes)) = some (true, 73, 192) := by kernel_rfl

/-- A vote of one's own: its slices lie from block m on. -/
def VoteD.mine (m : Nat) (w : World) (x : VoteD) : Prop := x.ok w ∧ fromB m x.ext ∧ fromB m x.sig
theorem VoteD.mine.below {m : Nat} {w w' : World} {x : VoteD} (h : x.mine m w) (hb : Below w.heap.size w w') : x.mine m w' := ⟨h.1.below hb, h.2.1, h.2.2⟩
theorem VoteD.mine.sets {m g : Nat} {w : World} {x : VoteD} (h : x.mine m w) (hg : g < m) (o : Nat) (cs : List Value) : x.mine m (w.setCells g o cs) := by
  obtain ⟨⟨h1, ⟨b1, h2⟩, ⟨b2, h3⟩⟩, h4, h5⟩ := h
  exact ⟨⟨h1, ⟨b1, h2.setCells h4 hg _ _⟩, ⟨b2, h3.setCells h5 hg _ _⟩⟩, h4, h5⟩
def HrD.mine (m : Nat) (w : World) (x : HrD) : Prop := x.v0.mine m w ∧ x.v1.mine m w

/-- The cells of a round by their parts. -/
def E4 (c : Value) (V0 V1 H : List Value) : List Value := c :: (V0 ++ (V1 ++ H))

/-- How far the copy has come: us are whole; the next stands as A; behind it D. -/
structure CH (w : World) (len : Nat) (hs : List HrD) (i : Nat) (A D : List Value) (us : List HrD) (wr : World) : Prop where
  ul : us.length = i
  al : A.length = 73
  dl : D.length = (len - i - 1) * 73
  il : i < len
  own : wr.ownsRow w.heap.size 49 73 (.slice (some ⟨w.heap.size, 0, none⟩) len len) len (us.flatMap HrD.cells ++ (A ++ D))
  ok : ∀ x ∈ us, x.mine (w.heap.size + 1) wr
  rn : us.map HrD.rnd = (hs.take i).map HrD.rnd
  bel : Below w.heap.size w wr
theorem CH.lf {w : World} {len : Nat} {hs : List HrD} {i : Nat} {A D : List Value} {us : List HrD} {wr : World} (h : CH w len hs i A D us wr) : (us.flatMap HrD.cells).length = i * 73 := by
  rw [flat_len HrD.cells 73 us (fun x hx => HrD.cells_len ⟨(h.ok x hx).1.1.1, (h.ok x hx).2.1.1⟩), h.ul]
theorem CH.there {w : World} {len : Nat} {hs : List HrD} {i : Nat} {A D : List Value} {us : List HrD} {wr : World} (h : CH w len hs i A D us wr) (o m : Nat) (hm : o + m ≤ 73) : wr.there w.heap.size (i * 73 + o) m :=
  owns_there h.own _ _ (by have := h.il; omega)
theorem CH.below {w : World} {len : Nat} {hs : List HrD} {i : Nat} {A D : List Value} {us : List HrD} {wr w' : World} (h : CH w len hs i A D us wr) (hb : Below wr.heap.size wr w') : CH w len hs i A D us w' :=
  ⟨h.ul, h.al, h.dl, h.il, owns_below h.own hb, fun x hx => ⟨(h.ok x hx).1.below hb, (h.ok x hx).2.below hb⟩, h.rn, below_then h.bel (Nat.le_refl _) hb⟩
theorem CH.put {w : World} {len : Nat} {hs : List HrD} {i : Nat} {A D : List Value} {us : List HrD} {wr : World} (h : CH w len hs i A D us wr) (o : Nat) (cs A' : List Value) (ho : o + cs.length ≤ 73) (hA : overlay A cs o = A') : CH w len hs i A' D us (wr.setCells w.heap.size (i * 73 + o) cs) := by
  have hil := h.il
  refine ⟨h.ul, ?_, h.dl, h.il, ?_, fun x hx => ⟨(h.ok x hx).1.sets (by omega) _ _, (h.ok x hx).2.sets (by omega) _ _⟩, h.rn, below_setCells' h.bel (Nat.le_refl _) _ _⟩
  · rw [← hA]; unfold overlay; simp [h.al]; omega
  · have := owns_setCells cs (i * 73 + o) h.own (by omega)
    rw [← h.lf, overlay_mid _ _ _ _ _ (by rw [h.al]; exact ho), hA, h.lf] at this
    exact this

theorem E4_len {c : Value} {V0 V1 H : List Value} (h0 : V0.length = 35) (h1 : V1.length = 35) (h2 : H.length = 2) : (E4 c V0 V1 H).length = 73 := by simp [E4, h0, h1, h2]
theorem E4_split {A : List Value} (h : A.length = 73) : ∃ c V0 V1 H, A = E4 c V0 V1 H ∧ V0.length = 35 ∧ V1.length = 35 ∧ H.length = 2 := by
  match A, h with
  | c :: r, h =>
    have hr : r.length = 72 := by simpa using h
    refine ⟨c, r.take 35, (r.drop 35).take 35, r.drop 70, ?_, by rw [List.length_take]; omega, by rw [List.length_take, List.length_drop]; omega, by rw [List.length_drop]; omega⟩
    unfold E4
    have e : r.drop 70 = (r.drop 35).drop 35 := by rw [List.drop_drop]
    rw [e, List.take_append_drop, List.take_append_drop]
theorem E4_c (c c' : Value) (V0 V1 H : List Value) : overlay (E4 c V0 V1 H) [c'] 0 = E4 c' V0 V1 H := by simp [overlay, E4]
theorem E4_0 (c : Value) (V0 V1 H cs : List Value) (h0 : V0.length = 35) (hc : cs.length = 35) : overlay (E4 c V0 V1 H) cs 1 = E4 c cs V1 H := by
  unfold overlay E4
  rw [hc, show 1 + 35 = 35 + 1 from rfl, List.drop_succ_cons, ← h0, List.drop_left]
  simp
theorem E4_1 (c : Value) (V0 V1 H cs : List Value) (h0 : V0.length = 35) (h1 : V1.length = 35) (hc : cs.length = 35) : overlay (E4 c V0 V1 H) cs 36 = E4 c V0 cs H := by
  unfold overlay E4
  rw [hc, show 36 + 35 = 70 + 1 from rfl, List.drop_succ_cons, show 36 = 35 + 1 from rfl, List.take_succ_cons, ← h0, List.take_left, List.drop_append, List.drop_eq_nil_of_le (by omega), h0, show 70 - 35 = 35 from rfl, ← h1, List.drop_left]
  simp
theorem E4_2 (c : Value) (V0 V1 H cs : List Value) (h0 : V0.length = 35) (h1 : V1.length = 35) (h2 : H.length = 2) (hc : cs.length = 2) : overlay (E4 c V0 V1 H) cs 71 = E4 c V0 V1 cs := by
  unfold overlay E4
  have d : List.drop (71 + cs.length) (c :: (V0 ++ (V1 ++ H))) = [] := List.drop_eq_nil_of_le (by simp; omega)
  rw [d, show 71 = 70 + 1 from rfl, List.take_succ_cons, List.take_append, List.take_of_length_le (by omega), h0, List.take_append, List.take_of_length_le (by omega), h1]
  simp

set_option maxHeartbeats 400000 in
theorem cloneHeld_nil (w : World) (n c : Nat) : Calls Try.prog 11 #[.slice none n c] w fun e w' => e = .returned (.slice none 0 0) ∧ w' = w := by
  have q := q22
  go_enter Try.func11, Try.ntmps11
  go_wp2
  go_ret
  exact ⟨rfl, rfl⟩

/-- Between the rounds. -/
def CHo (w : World) (len : Nat) (hs : List HrD) (i : Nat) (wr : World) : Prop :=
  (i < len ∧ ∃ A D us, CH w len hs i A D us wr) ∨ (i = len ∧ ∃ us : List HrD, us.length = len ∧ wr.ownsRow w.heap.size 49 73 (.slice (some ⟨w.heap.size, 0, none⟩) len len) len (us.flatMap HrD.cells) ∧ (∀ x ∈ us, x.mine (w.heap.size + 1) wr) ∧ us.map HrD.rnd = hs.map HrD.rnd ∧ Below w.heap.size w wr)

set_option maxRecDepth 100000 in
set_option maxHeartbeats 4000000 in
theorem cloneHeld_some (a : Addr) (len cap : Nat) (hs : List HrD) (w : World) (h : heldAt w (.slice (some a) len cap) hs) (hl : hs.length = len) (hm : len ≤ 900) (hsm : ∀ x ∈ hs, x.small) :
    Calls Try.prog 11 #[.slice (some a) len cap] w fun e w' => e = .returned (.slice (some ⟨w.heap.size, 0, none⟩) len len) ∧ CHo w len hs len w' := by
  have q := q22
  have HH : Hid (heldAt w (.slice (some a) len cap) hs) := h
  have HS : Hid (∀ x ∈ hs, x.small) := hsm
  have HLN : Hid (hs.length = len) := hl
  clear h hsm hl
  go_enter Try.func11, Try.ntmps11
  go_wp2_with (first | (at_make; refine make_any _ rfl _ _ 22 rfl w.heap.size 49 73 192 Try.underlying22 Try.inf49 len rfl rfl ?b2 ?b3 (Nat.le_refl _) ?_) | fail)
  case b2 => omega
  case b3 => unfold maxLen; omega
  intro w1 xs hown hgrow
  have hb1 : Below w.heap.size w w1 := (Below.refl _ _).grown hgrow (Nat.le_refl _) (by simp)
  have hxl := hown.1
  have HC0 : Hid (CHo w len hs 0 w1) := by
    by_cases h0 : 0 < len
    · exact .inl ⟨h0, xs.take 73, xs.drop 73, [], rfl, by rw [List.length_take, hxl]; omega, by rw [List.length_drop, hxl]; omega, h0, by rw [List.flatMap_nil, List.nil_append, List.take_append_drop]; exact hown, by simp, by simp, hb1⟩
    · have : len = 0 := by omega
      subst this
      have hx0 : xs = [] := List.eq_nil_of_length_eq_zero (by simpa using hxl)
      subst hx0
      exact .inr ⟨rfl, [], rfl, by simpa using hown, by simp, by have := HLN.out; simp [List.eq_nil_of_length_eq_zero this], hb1⟩
  clear hown hgrow q hb1 hxl
  go_wp2_with fail
  go_loopw [4] (fun iv wr => ∃ i : Nat, i ≤ len ∧ iv = .int .i64 i ∧ CHo w len hs i wr) (fun iv _ => len - (intOf iv).toNat)
  case atStart => exact ⟨0, Nat.zero_le _, rfl, HC0.out⟩
  case round =>
    obtain ⟨i, hi, rfl, hC⟩ := hrel
    have HCO : Hid (CHo w len hs i wr) := hC
    clear hC HC0
    by_cases hlt : i < len
    · obtain ⟨A, D, us, hC⟩ : ∃ A D us, CH w len hs i A D us wr := by
        rcases HCO.out with ⟨_, h⟩ | ⟨h, _⟩
        · exact h
        · omega
      obtain ⟨b, o, x, hab, hx, hok, hr⟩ := HH.out.cellsAt i hlt
      cases hab
      obtain ⟨c, V0, V1, H, rfl, hV0, hV1, hH⟩ := E4_split hC.al
      have HX : Hid (hs[i]? = some x) := hx
      have HR : Hid (w.rangeAt b (o + i * 73) x.cells) := hr
      have HO : Hid (x.ok w) := hok
      have HSM : Hid (x.small) := HS.out x (List.mem_of_getElem? hx)
      have hids := hok.fit.1
      have hlt' : (i : Int) < (len : Int) := by omega
      have hbl : b < w.heap.size := World.block_lt_of_cell? w ⟨b, o + i * 73 + 0, none⟩ (hr 0 _ (HrD.cells_0 x))
      have c0 : wr.cell? ⟨b, o + i * 73, none⟩ = some (.int .i64 x.rnd) := by have := rangeAt_below hr hC.bel 0 _ (HrD.cells_0 x); simpa using this
      have g0 : wr.cell? ⟨w.heap.size, i * 73, none⟩ = some c := by
        rw [hC.own.cellAt (i * 73) (by omega), List.getElem?_append_right (by rw [hC.lf]; omega), hC.lf, Nat.sub_self]; rfl
      have gf : wr.frozen? ⟨w.heap.size, i * 73, none⟩ = false := hC.own.frozenAt _
      have hC1 : CH w len hs i (E4 (.int .i64 x.rnd) V0 V1 H) D us (wr.setCell ⟨w.heap.size, i * 73, none⟩ (.int .i64 x.rnd)) := hC.put 0 [.int .i64 x.rnd] _ (by simp) (E4_c _ _ _ _ _)
      have hrh : (wr.setCell ⟨w.heap.size, i * 73, none⟩ (.int .i64 x.rnd)).rangeAt b (o + i * 73 + 71) [.bool x.h0, .bool x.h1] := fun k u hu => by
        have hr2 := rangeAt_below hr hC1.bel
        match k, hu with
        | 0, hu => simp at hu; subst hu; exact hr2 71 _ (HrD.cells_71 hids)
        | 1, hu => simp at hu; subst hu; exact hr2 72 _ (HrD.cells_72 hids)
      have hrd := rd_of_range hrh (n := 2) rfl
      have hcr := canRd_of_range hrh (n := 2) rfl
      have ht2 := hC1.there 71 2 (by omega)
      have hC2 : CH w len hs i (E4 (.int .i64 x.rnd) V0 V1 [.bool x.h0, .bool x.h1]) D us ((wr.setCell ⟨w.heap.size, i * 73, none⟩ (.int .i64 x.rnd)).setCells w.heap.size (i * 73 + 71) [.bool x.h0, .bool x.h1]) := hC1.put 71 _ _ (by simp) (E4_2 _ _ _ _ _ hV0 hV1 hH rfl)
      have HC2 : Hid (CH w len hs i (E4 (.int .i64 x.rnd) V0 V1 [.bool x.h0, .bool x.h1]) D us ((wr.setCell ⟨w.heap.size, i * 73, none⟩ (.int .i64 x.rnd)).setCells w.heap.size (i * 73 + 71) [.bool x.h0, .bool x.h1])) := hC2
      have hone2 : oneAll (.agg #[.bool x.h0, .bool x.h1]) = true := by simp [oneAll, Value.cells, Value.oneCell']
      clear hx hr hok hC hC1 hC2 hrh hids HCO
      go_wp2_with fail
      go_loopw [5] (fun jv wq => ∃ j : Nat, j ≤ 2 ∧ jv = .int .i64 j ∧ ∃ V0 V1, V0.length = 35 ∧ V1.length = 35 ∧ CH w len hs i (E4 (.int .i64 x.rnd) V0 V1 [.bool x.h0, .bool x.h1]) D us wq ∧ (1 ≤ j → ∃ y : VoteD, V0 = y.cells ∧ y.mine (w.heap.size + 1) wq) ∧ (2 ≤ j → ∃ y : VoteD, V1 = y.cells ∧ y.mine (w.heap.size + 1) wq)) (fun jv _ => 2 - (intOf jv).toNat)
      case atStart => exact ⟨0, by omega, rfl, V0, V1, hV0, hV1, HC2.out, by omega, by omega⟩
      case round =>
        obtain ⟨j, hj, rfl, U0, U1, hU0, hU1, hC, hy0, hy1⟩ := hrel
        have HC : Hid (CH w len hs i (E4 (.int .i64 x.rnd) U0 U1 [.bool x.h0, .bool x.h1]) D us wr) := hC
        have HY0 : Hid (1 ≤ j → ∃ y : VoteD, U0 = y.cells ∧ y.mine (w.heap.size + 1) wr) := hy0
        have HY1 : Hid (2 ≤ j → ∃ y : VoteD, U1 = y.cells ∧ y.mine (w.heap.size + 1) wr) := hy1
        clear hC hy0 hy1 HC2 c0 g0 gf hrd hcr ht2 hone2
        by_cases hj2 : j < 2
        · have hjj : j = 0 ∨ j = 1 := by omega
          rcases hjj with rfl | rfl
          · simp only [show ((0 : Nat) : Int) = 0 from rfl]
            obtain ⟨vv, hvv⟩ : ∃ vv, vv = x.v0 := ⟨_, rfl⟩
            have hvok : vv.ok w := by rw [hvv]; exact HO.out.1
            have hsm : vv.small := by rw [hvv]; exact HSM.out.1
            have HV : Hid (vv = x.v0) := hvv
            have hbq : Below w.heap.size w wr := HC.out.bel
            have hr0 : w.rangeAt b (o + i * 73 + 1) vv.cells := fun k u hu => by
              rw [hvv] at hu
              have := HR.out (1 + k) u (HrD.cells_v0 HO.out.fit.1 k u hu)
              rw [← Nat.add_assoc] at this; exact this
            have hcl := VoteD.cells_len hvok.1
            obtain ⟨bs1, hb1⟩ := hvok.2.1
            obtain ⟨bs2, hb2⟩ := hvok.2.2
            have hl1 : bs1.length ≤ 1048576 := by rw [← hb1.len]; exact hsm.1
            have hl2 : bs2.length ≤ 1048576 := by rw [← hb2.len]; exact hsm.2
            have hidv := hvok.1
            have HCL : Hid (Calls Try.prog 37 #[.agg vv.cells.toArray] wr.drew fun e w' => ∃ e' s', e = .returned (.agg (VoteD.mk vv.frm vv.id e' s').cells.toArray) ∧ bytesAt w' e' bs1 ∧ bytesAt w' s' bs2 ∧ fromB wr.drew.heap.size e' ∧ fromB wr.drew.heap.size s' ∧ Below wr.drew.heap.size wr.drew w') := cloneVote_any vv bs1 bs2 wr.drew hvok.1 (hb1.below (hbq.trans (below_drewN wr _ 1))) (hb2.below (hbq.trans (below_drewN wr _ 1))) hl1 hl2
            have HT : Hid (wr.there w.heap.size (i * 73 + 1) 35) := HC.out.there 1 35 (by omega)
            have hbl : b < w.heap.size := World.block_lt_of_cell? w _ (hr0 0 _ (VoteD.cells_0 vv))
            have SH : Hid (∀ W, Below w.heap.size w W → canRd W b (o + i * 73 + 1) 35 ∧ rd W b (o + i * 73 + 1) 35 = vv.cells.toArray) := fun W hW => ⟨canRd_of_range (rangeAt_below hr0 hW) hcl, rd_of_range (rangeAt_below hr0 hW) hcl⟩
            have hSd : canRd wr.drew b (o + i * 73 + 1) 35 ∧ rd wr.drew b (o + i * 73 + 1) 35 = vv.cells.toArray ∧ wr.drew.there w.heap.size (i * 73 + 1) 35 := ⟨(SH.out wr.drew (hbq.trans (below_drewN wr _ 1))).1, (SH.out wr.drew (hbq.trans (below_drewN wr _ 1))).2, HT.out⟩
            have hwin : (i : Int) < (len : Int) := by omega
            clear hr0 hvok hvv hb1 hb2
            go_wp2_with fail
            go_region_held3 (fun w' => canRd w' b (o + i * 73 + 1) 35 ∧ rd w' b (o + i * 73 + 1) 35 = vv.cells.toArray ∧ w'.there w.heap.size (i * 73 + 1) 35)
              (first | exact hSd | exact hS5 | exact hS6 _ | fail)
              (first | (go_at_call 37; refine HCL.out.mono ?_; rintro e w5 ⟨e', s', rfl, he', hs', hfe, hfs, hbel⟩; obtain ⟨ae, ne, ce, rfl⟩ := he'.form; obtain ⟨ag, ns, cq, rfl⟩ := hs'.form; have hb5 : Below w.heap.size w w5 := below_then hbq (Nat.le_refl _) ((below_drewN wr wr.heap.size 1).trans hbel); have ht5 : w5.there w.heap.size (i * 73 + 1) 35 := there_below (show wr.drew.there _ _ _ from HT.out) hbel; have hS5 : canRd w5 b (o + i * 73 + 1) 35 ∧ rd w5 b (o + i * 73 + 1) 35 = vv.cells.toArray ∧ w5.there w.heap.size (i * 73 + 1) 35 := ⟨(SH.out w5 hb5).1, (SH.out w5 hb5).2, ht5⟩; have hcs : (VoteD.mk vv.frm vv.id (.slice ae ne ce) (.slice ag ns cq)).cells.length = 35 := VoteD.cells_len (x := ⟨vv.frm, vv.id, .slice ae ne ce, .slice ag ns cq⟩) hidv; have hone := oneAll_vote ⟨vv.frm, vv.id, .slice ae ne ce, .slice ag ns cq⟩ rfl rfl; have hS6 : ∀ cs : List Value, canRd (w5.setCells w.heap.size (i * 73 + 1) cs) b (o + i * 73 + 1) 35 ∧ rd (w5.setCells w.heap.size (i * 73 + 1) cs) b (o + i * 73 + 1) 35 = vv.cells.toArray ∧ (w5.setCells w.heap.size (i * 73 + 1) cs).there w.heap.size (i * 73 + 1) 35 := fun cs => ⟨(SH.out _ (below_setCells' hb5 (Nat.le_refl _) _ _)).1, (SH.out _ (below_setCells' hb5 (Nat.le_refl _) _ _)).2, World.there_setCells ht5 _ _ _⟩))
            have hC5 := (HC.out.below ((below_drewN wr wr.heap.size 1).trans hbel)).put 1 (VoteD.mk vv.frm vv.id (.slice ae ne ce) (.slice ag ns cq)).cells (E4 (.int .i64 x.rnd) (VoteD.mk vv.frm vv.id (.slice ae ne ce) (.slice ag ns cq)).cells U1 [.bool x.h0, .bool x.h1]) (by omega) (E4_0 _ _ _ _ _ hU0 hcs)
            have hsz : w.heap.size + 1 ≤ wr.heap.size := by have := (owns_cap HC.out.own).2.2.2; omega
            have hmn : (VoteD.mk vv.frm vv.id (.slice ae ne ce) (.slice ag ns cq)).mine (w.heap.size + 1) (w5.setCells w.heap.size (i * 73 + 1) (VoteD.mk vv.frm vv.id (.slice ae ne ce) (.slice ag ns cq)).cells) := VoteD.mine.sets (w := w5) (x := ⟨vv.frm, vv.id, .slice ae ne ce, .slice ag ns cq⟩) ⟨⟨hidv, ⟨bs1, he'⟩, ⟨bs2, hs'⟩⟩, hfe.mono hsz, hfs.mono hsz⟩ (by omega) _ _
            have HC5 : Hid _ := hC5
            have HMN : Hid _ := hmn
            have HFB : Hid (Below wr.heap.size wr w5) := (below_drewN wr wr.heap.size 1).trans hbel
            clear hC5 hmn hS5 hS6 hSd ht5 hone
            go_wp2_with fail
            go_roundw
            case rel => exact ⟨1, by omega, by go_num, _, _, hcs, hU1, HC5.out, fun _ => ⟨_, rfl, HMN.out⟩, fun h => by omega⟩
            case measure => simp [intOf]
          · simp only [show ((1 : Nat) : Int) = 1 from rfl]
            obtain ⟨vv, hvv⟩ : ∃ vv, vv = x.v1 := ⟨_, rfl⟩
            have hvok : vv.ok w := by rw [hvv]; exact HO.out.2
            have hsm : vv.small := by rw [hvv]; exact HSM.out.2
            have HV : Hid (vv = x.v1) := hvv
            have hbq : Below w.heap.size w wr := HC.out.bel
            have hr0 : w.rangeAt b (o + i * 73 + 36) vv.cells := fun k u hu => by
              rw [hvv] at hu
              have := HR.out (36 + k) u (HrD.cells_v1 HO.out.fit.1 k u hu)
              rw [← Nat.add_assoc] at this; exact this
            have hcl := VoteD.cells_len hvok.1
            obtain ⟨bs1, hb1⟩ := hvok.2.1
            obtain ⟨bs2, hb2⟩ := hvok.2.2
            have hl1 : bs1.length ≤ 1048576 := by rw [← hb1.len]; exact hsm.1
            have hl2 : bs2.length ≤ 1048576 := by rw [← hb2.len]; exact hsm.2
            have hidv := hvok.1
            have HCL : Hid (Calls Try.prog 37 #[.agg vv.cells.toArray] wr.drew fun e w' => ∃ e' s', e = .returned (.agg (VoteD.mk vv.frm vv.id e' s').cells.toArray) ∧ bytesAt w' e' bs1 ∧ bytesAt w' s' bs2 ∧ fromB wr.drew.heap.size e' ∧ fromB wr.drew.heap.size s' ∧ Below wr.drew.heap.size wr.drew w') := cloneVote_any vv bs1 bs2 wr.drew hvok.1 (hb1.below (hbq.trans (below_drewN wr _ 1))) (hb2.below (hbq.trans (below_drewN wr _ 1))) hl1 hl2
            have HT : Hid (wr.there w.heap.size (i * 73 + 36) 35) := HC.out.there 36 35 (by omega)
            have hbl : b < w.heap.size := World.block_lt_of_cell? w _ (hr0 0 _ (VoteD.cells_0 vv))
            have SH : Hid (∀ W, Below w.heap.size w W → canRd W b (o + i * 73 + 36) 35 ∧ rd W b (o + i * 73 + 36) 35 = vv.cells.toArray) := fun W hW => ⟨canRd_of_range (rangeAt_below hr0 hW) hcl, rd_of_range (rangeAt_below hr0 hW) hcl⟩
            have hSd : canRd wr.drew b (o + i * 73 + 36) 35 ∧ rd wr.drew b (o + i * 73 + 36) 35 = vv.cells.toArray ∧ wr.drew.there w.heap.size (i * 73 + 36) 35 := ⟨(SH.out wr.drew (hbq.trans (below_drewN wr _ 1))).1, (SH.out wr.drew (hbq.trans (below_drewN wr _ 1))).2, HT.out⟩
            have hwin : (i : Int) < (len : Int) := by omega
            clear hr0 hvok hvv hb1 hb2
            go_wp2_with fail
            go_region_held3 (fun w' => canRd w' b (o + i * 73 + 36) 35 ∧ rd w' b (o + i * 73 + 36) 35 = vv.cells.toArray ∧ w'.there w.heap.size (i * 73 + 36) 35)
              (first | exact hSd | exact hS5 | exact hS6 _ | fail)
              (first | (go_at_call 37; refine HCL.out.mono ?_; rintro e w5 ⟨e', s', rfl, he', hs', hfe, hfs, hbel⟩; obtain ⟨ae, ne, ce, rfl⟩ := he'.form; obtain ⟨ag, ns, cq, rfl⟩ := hs'.form; have hb5 : Below w.heap.size w w5 := below_then hbq (Nat.le_refl _) ((below_drewN wr wr.heap.size 1).trans hbel); have ht5 : w5.there w.heap.size (i * 73 + 36) 35 := there_below (show wr.drew.there _ _ _ from HT.out) hbel; have hS5 : canRd w5 b (o + i * 73 + 36) 35 ∧ rd w5 b (o + i * 73 + 36) 35 = vv.cells.toArray ∧ w5.there w.heap.size (i * 73 + 36) 35 := ⟨(SH.out w5 hb5).1, (SH.out w5 hb5).2, ht5⟩; have hcs : (VoteD.mk vv.frm vv.id (.slice ae ne ce) (.slice ag ns cq)).cells.length = 35 := VoteD.cells_len (x := ⟨vv.frm, vv.id, .slice ae ne ce, .slice ag ns cq⟩) hidv; have hone := oneAll_vote ⟨vv.frm, vv.id, .slice ae ne ce, .slice ag ns cq⟩ rfl rfl; have hS6 : ∀ cs : List Value, canRd (w5.setCells w.heap.size (i * 73 + 36) cs) b (o + i * 73 + 36) 35 ∧ rd (w5.setCells w.heap.size (i * 73 + 36) cs) b (o + i * 73 + 36) 35 = vv.cells.toArray ∧ (w5.setCells w.heap.size (i * 73 + 36) cs).there w.heap.size (i * 73 + 36) 35 := fun cs => ⟨(SH.out _ (below_setCells' hb5 (Nat.le_refl _) _ _)).1, (SH.out _ (below_setCells' hb5 (Nat.le_refl _) _ _)).2, World.there_setCells ht5 _ _ _⟩))
            have hC5 := (HC.out.below ((below_drewN wr wr.heap.size 1).trans hbel)).put 36 (VoteD.mk vv.frm vv.id (.slice ae ne ce) (.slice ag ns cq)).cells (E4 (.int .i64 x.rnd) U0 (VoteD.mk vv.frm vv.id (.slice ae ne ce) (.slice ag ns cq)).cells [.bool x.h0, .bool x.h1]) (by omega) (E4_1 _ _ _ _ _ hU0 hU1 hcs)
            have hsz : w.heap.size + 1 ≤ wr.heap.size := by have := (owns_cap HC.out.own).2.2.2; omega
            have hmn : (VoteD.mk vv.frm vv.id (.slice ae ne ce) (.slice ag ns cq)).mine (w.heap.size + 1) (w5.setCells w.heap.size (i * 73 + 36) (VoteD.mk vv.frm vv.id (.slice ae ne ce) (.slice ag ns cq)).cells) := VoteD.mine.sets (w := w5) (x := ⟨vv.frm, vv.id, .slice ae ne ce, .slice ag ns cq⟩) ⟨⟨hidv, ⟨bs1, he'⟩, ⟨bs2, hs'⟩⟩, hfe.mono hsz, hfs.mono hsz⟩ (by omega) _ _
            have HC5 : Hid _ := hC5
            have HMN : Hid _ := hmn
            have HFB : Hid (Below wr.heap.size wr w5) := (below_drewN wr wr.heap.size 1).trans hbel
            clear hC5 hmn hS5 hS6 hSd ht5 hone
            go_wp2_with fail
            go_roundw
            case rel => exact ⟨2, by omega, by go_num, _, _, hU0, hcs, HC5.out, fun _ => (let ⟨y, e, hy⟩ := HY0.out (by omega); ⟨y, e, (hy.below HFB.out).sets (by omega) _ _⟩), fun _ => ⟨_, rfl, HMN.out⟩⟩
            case measure => simp [intOf]
        · have hj3 : j = 2 := by omega
          subst hj3
          simp only [show ((2 : Nat) : Int) = 2 from rfl]
          obtain ⟨y0, rfl, hy0⟩ := HY0.out (by omega)
          obtain ⟨y1, rfl, hy1⟩ := HY1.out (by omega)
          have hnext : CHo w len hs (i + 1) wr := by
            obtain ⟨k1, k2, k3, k4, k5, k6, k7, k8⟩ := HC.out
            have hxe : hs[i]? = some x := HX.out
            have hil : i < hs.length := (List.getElem?_eq_some_iff.1 hxe).1
            have hx2 : hs[i] = x := (List.getElem?_eq_some_iff.1 hxe).2
            have hfl : us.flatMap HrD.cells ++ (E4 (.int .i64 x.rnd) y0.cells y1.cells [.bool x.h0, .bool x.h1] ++ D) = (us ++ [(⟨x.rnd, y0, y1, x.h0, x.h1⟩ : HrD)]).flatMap HrD.cells ++ D := by
              rw [List.flatMap_append, List.append_assoc]
              simp [HrD.cells, E4]
            rw [hfl] at k5
            have hok' : ∀ z ∈ us ++ [(⟨x.rnd, y0, y1, x.h0, x.h1⟩ : HrD)], z.mine (w.heap.size + 1) wr := fun z hz => by
              rcases List.mem_append.1 hz with hz | hz
              · exact k6 z hz
              · simp at hz; subst hz; exact ⟨hy0, hy1⟩
            have hrn : (us ++ [(⟨x.rnd, y0, y1, x.h0, x.h1⟩ : HrD)]).map HrD.rnd = (hs.take (i + 1)).map HrD.rnd := by
              rw [List.take_succ_eq_append_getElem hil, hx2, List.map_append, List.map_append, k7]; rfl
            by_cases hi1 : i + 1 < len
            · refine .inl ⟨hi1, D.take 73, D.drop 73, _, by simp [k1], by rw [List.length_take, k3]; omega, by rw [List.length_drop, k3]; omega, hi1, ?_, hok', hrn, k8⟩
              rw [List.take_append_drop]; exact k5
            · have hie : i + 1 = len := by omega
              have hD : D = [] := List.eq_nil_of_length_eq_zero (by rw [k3, show len - i - 1 = 0 by omega, Nat.zero_mul])
              subst hD
              refine .inr ⟨hie, _, by simp [k1, hie], by rw [List.append_nil] at k5; exact k5, hok', ?_, k8⟩
              rw [hrn, List.take_of_length_le (by have := HLN.out; omega)]
          have HN : Hid (CHo w len hs (i + 1) wr) := hnext
          clear hnext hy0 hy1 HY0 HY1 HC
          go_wp2_with fail
          go_roundw
          case rel => exact ⟨i + 1, by omega, by go_num, HN.out⟩
          case measure => simp [intOf]; omega
    · have hie : i = len := by omega
      subst hie
      go_wp2_with fail
      go_ret
      exact ⟨rfl, HCO.out⟩

theorem cloneHeld_any (v : Value) (hs : List HrD) (w : World) (h : heldAt w v hs) (hm : hs.length ≤ 900) (hsm : ∀ x ∈ hs, x.small) :
    Calls Try.prog 11 #[v] w fun e w' => ∃ v' us, e = .returned v' ∧ heldAt w' v' us ∧ us.map HrD.rnd = hs.map HrD.rnd ∧ Below w.heap.size w w' := by
  obtain ⟨a, cap, rfl, h1, h2, h3⟩ := h.1
  cases a with
  | none =>
    refine (cloneHeld_nil w hs.length cap).mono ?_
    rintro e w' ⟨rfl, rfl⟩
    have h0 : hs = [] := by
      rcases h3 with h | ⟨_, _, h, _⟩
      · exact List.eq_nil_of_length_eq_zero h
      · cases h
    subst h0
    exact ⟨_, [], rfl, ⟨⟨none, 0, rfl, rfl, by simp, .inl rfl⟩, by simp⟩, rfl, Below.refl _ _⟩
  | some a =>
    refine (cloneHeld_some a hs.length cap hs w h rfl hm hsm).mono ?_
    rintro e w' ⟨rfl, hC⟩
    rcases hC with ⟨h, _⟩ | ⟨_, us, hul, hown, hok, hrn, hb⟩
    · omega
    · refine ⟨_, us, rfl, ⟨?_, fun x hx => ⟨(hok x hx).1.1, (hok x hx).2.1⟩⟩, hrn, hb⟩
      rw [hul]
      exact sliceAt_of_owns hown (by omega)
end Go.Proofs.Qxb6604712a
