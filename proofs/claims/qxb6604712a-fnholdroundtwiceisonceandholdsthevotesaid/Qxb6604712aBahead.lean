/-
  Seat b6604712a: buildAhead.
-/
import Derived.Test.Qxb6604712aHbytes
namespace Go.Proofs.Qxb6604712a
open Go.RowKit
set_option linter.unusedSimpArgs false
set_option linter.unusedVariables false
attribute [local go_sem ↓] exec_load43 exec_store43 exec_load40
attribute [local go_sem] ptrB ptrO isPtr

/-- A round that is being laid: j of its votes are in. -/
def part73 (x : HrD) : Nat → HrD
  | 0 => fresh x.rnd
  | 1 => (fresh x.rnd).put 0 x.h0 x.v0
  | _ => ((fresh x.rnd).put 0 x.h0 x.v0).put 1 x.h1 x.v1
theorem part73_2 (x : HrD) : part73 x 2 = x := by
  show ((fresh x.rnd).put 0 x.h0 x.v0).put 1 x.h1 x.v1 = x
  simp [HrD.put, fresh]

set_option maxRecDepth 100000 in
set_option maxHeartbeats 4000000 in
theorem buildAhead_any (v : Value) (hs : List HrD) (w0 w : World) (h : heldAt w0 v hs) (hb0 : Below w0.heap.size w0 w) (hn : hs.length ≤ 800) :
    Calls Try.prog 14 #[v] w fun e w' => ∃ va, e = .returned (.pointer (some ⟨w.heap.size, 0, none⟩)) ∧ AH w' w.heap.size w.heap.size va hs ∧ Below w.heap.size w w' := by
  have h0 := h
  obtain ⟨a, cap, rfl, _, _, _⟩ := h.1
  have HH : Hid (heldAt w0 (.slice a hs.length cap) hs) := h0
  have HB0 : Hid (Below w0.heap.size w0 w) := hb0
  clear h h0 hb0
  generalize hlen : hs.length = n at *
  have HLEN : Hid (hs.length = n) := hlen
  clear hlen
  go_enter Try.func14, Try.ntmps14
  go_wp2_with fail
  refine (newAhead_any w).mono ?_
  rintro e w1 ⟨rfl, hA1, hb1⟩
  have HA1 : Hid (AH w1 w.heap.size w.heap.size (.slice none 0 0) []) := hA1
  clear hA1
  go_wp2_with fail
  go_loopw [4] (fun iv wr => ∃ i : Nat, i ≤ n ∧ iv = .int .i64 i ∧ ∃ va, AH wr w.heap.size w.heap.size va (hs.take i) ∧ Below w.heap.size w wr) (fun iv _ => n - (intOf iv).toNat)
  case atStart => exact ⟨0, Nat.zero_le _, rfl, _, by rw [List.take_zero]; exact HA1.out, hb1⟩
  case round =>
    obtain ⟨i, hi, rfl, va0, hA, hb⟩ := hrel
    have HA0 : Hid (AH wr w.heap.size w.heap.size va0 (hs.take i)) := hA
    clear hA hb1 HA1
    by_cases hlt : i < n
    · obtain ⟨b, o, x, hab, hx, hok, hr⟩ := HH.out.cellsAt i hlt
      cases hab
      have HX : Hid (hs[i]? = some x) := hx
      have HR : Hid (w0.rangeAt b (o + i * 73) x.cells) := hr
      have HO : Hid (x.ok w0) := hok
      have hlt' : (i : Int) < (n : Int) := by omega
      have hlt2 : i < hs.length := by rw [HLEN.out]; exact hlt
      have c0 : wr.cell? ⟨b, o + i * 73, none⟩ = some (.int .i64 x.rnd) := by have := rangeAt_below hr (HB0.out.trans (hb.mono HB0.out.size)) 0 _ (HrD.cells_0 x); simpa using this
      have hadd := addHeld_any w.heap.size w.heap.size va0 (hs.take i) x.rnd wr HA0.out (by simp; omega)
      clear hx hr hok
      go_wp2_with fail
      refine hadd.mono ?_
      rintro e w2 ⟨rfl, va1, hA2, hM2⟩
      have HA2 : Hid (AH w2 w.heap.size w.heap.size va1 (hs.take i ++ [part73 x 0])) := hA2
      have hb2 : Below w.heap.size w w2 := hb.trans (hM2.belowB HA0.out)
      clear hA2 hM2 hadd c0 HA0 hb
      go_wp2_with fail
      go_loopw [5] (fun jv wq => ∃ j : Nat, j ≤ 2 ∧ jv = .int .i64 j ∧ ∃ va, AH wq w.heap.size w.heap.size va (hs.take i ++ [part73 x j]) ∧ Below w.heap.size w wq) (fun jv _ => 2 - (intOf jv).toNat)
      case atStart => exact ⟨0, by omega, rfl, va1, HA2.out, hb2⟩
      case round =>
        obtain ⟨j, hj, rfl, va, hA, hbq⟩ := hrel
        have HA : Hid (AH wr w.heap.size w.heap.size va (hs.take i ++ [part73 x j])) := hA
        clear hA hb2 HA2
        by_cases hj2 : j < 2
        · have hjj : j = 0 ∨ j = 1 := by omega
          rcases hjj with rfl | rfl
          · simp only [show ((0 : Nat) : Int) = 0 from rfl]
            obtain ⟨vv, hvv⟩ : ∃ vv, vv = x.v0 := ⟨_, rfl⟩
            have hvok : vv.ok w0 := by rw [hvv]; exact HO.out.1
            have hb0q : Below w0.heap.size w0 wr := HB0.out.trans (hbq.mono HB0.out.size)
            have hr0 : wr.rangeAt b (o + i * 73 + 1) vv.cells := fun k u hu => by
              rw [hvv] at hu
              have := rangeAt_below HR.out hb0q (1 + k) u (HrD.cells_v0 HO.out.fit.1 k u hu)
              rw [← Nat.add_assoc] at this; exact this
            have HV : Hid (vv = x.v0) := hvv
            have hcl := VoteD.cells_len hvok.1
            have hrd := rd_of_range hr0 hcl
            have hcr := canRd_of_range hr0 hcl
            have hone := oneAll_vote vv hvok.sl.1 hvok.sl.2
            have hid := hvok.1
            obtain ⟨bs1, hb1⟩ := hvok.2.1
            obtain ⟨bs2, hb2⟩ := hvok.2.2
            obtain ⟨a1, cp1, he1, _, hm1, _⟩ := hb1
            obtain ⟨a2, cp2, he2, _, hm2, _⟩ := hb2
            generalize bs1.length = l1 at *
            generalize bs2.length = l2 at *
            have hth : ∀ z : Array Value, z.size = 35 → (wr.alloc (.cells z 43)).there wr.heap.size 0 35 := fun z hz => (vote_box wr vv hvok.1 z hz).2.2
            have hhas : w0.cell? ⟨b, o + i * 73 + 71, none⟩ = some (.bool x.h0) := HR.out 71 _ (HrD.cells_71 HO.out.fit.1)
            have HHas : Hid (w0.cell? ⟨b, o + i * 73 + 71, none⟩ = some (.bool x.h0)) := hhas
            have HBX : Hid (∀ z : Array Value, z.size = 35 → ((wr.alloc (.cells z 43)).setCells wr.heap.size 0 vv.cells).rangeAt wr.heap.size 0 vv.cells ∧ Below wr.heap.size wr ((wr.alloc (.cells z 43)).setCells wr.heap.size 0 vv.cells)) := fun z hz => ⟨(vote_box wr vv hvok.1 z hz).1, (vote_box wr vv hvok.1 z hz).2.1⟩
            have HE1 : Hid (vv.ext = .slice a1 l1 cp1) := he1
            have HE2 : Hid (vv.sig = .slice a2 l2 cp2) := he2
            have HSL : Hid (vv.sl) := hvok.sl
            clear hr0 hvv hvok he1 he2 hhas
            go_wp2_with fail
            generalize hW : World.setCells _ wr.heap.size 0 _ = W
            obtain ⟨hbx, hbb⟩ : W.rangeAt wr.heap.size 0 vv.cells ∧ Below wr.heap.size wr W := by rw [← hW]; exact HBX.out _ (by simp)
            clear hW HBX hth hrd hcr hone
            have hwW : Below w.heap.size w W := below_then hbq (Nat.le_refl _) hbb
            have HAW : Hid (AH W.drew w.heap.size w.heap.size va (hs.take i ++ [part73 x 0])) := HA.out.below (hbb.trans (below_drewN W _ 1))
            have hWsz : Hid (wr.heap.size < W.heap.size) := World.block_lt_of_cell? W ⟨wr.heap.size, 0 + 0, none⟩ (hbx 0 _ (VoteD.cells_0 vv))
            have hgw := HA.out.lt
            have SH : Hid (∀ W' : World, (∀ k, k < w0.heap.size → W'.heap[k]? = w0.heap[k]?) → W'.heap[wr.heap.size]? = W.heap[wr.heap.size]? → W'.cell? ⟨b, o + i * 73 + 71, none⟩ = some (.bool x.h0) ∧ W'.cell? ⟨wr.heap.size, 0, none⟩ = some (.int .i64 vv.frm) ∧ W'.rangeAt wr.heap.size 1 (vv.id.map (Value.int .u8)) ∧ W'.cell? ⟨wr.heap.size, 33, none⟩ = some (.slice a1 l1 cp1) ∧ W'.cell? ⟨wr.heap.size, 34, none⟩ = some (.slice a2 l2 cp2)) := fun W' h1 h2 => by
              have hc : ∀ k u, W.cell? ⟨wr.heap.size, k, none⟩ = some u → W'.cell? ⟨wr.heap.size, k, none⟩ = some u := fun k u hu => (World.cell?_of_block (w := W) h2).trans hu
              have hrw : W'.rangeAt wr.heap.size 0 vv.cells := fun k u hu => hc _ _ (hbx k u hu)
              have hri : W'.rangeAt wr.heap.size 1 (vv.id.map (Value.int .u8)) := fun k u hu => by
                have := hrw (1 + k) u (ids_of_vote vv k u hu)
                rw [Nat.zero_add] at this; exact this
              refine ⟨?_, hrw 0 _ (VoteD.cells_0 vv), hri, ?_, ?_⟩
              · exact (World.cell?_of_block (w := w0) (h1 b (World.block_lt_of_cell? _ _ HHas.out))).trans HHas.out
              · have := hrw 33 _ (VoteD.cells_33 hid)
                rw [Nat.zero_add, HE1.out] at this; exact this
              · have := hrw 34 _ (VoteD.cells_34 hid)
                rw [Nat.zero_add, HE2.out] at this; exact this
            have hSd := SH.out W.drew (fun k hk => (HB0.out.trans (hwW.mono HB0.out.size)).block k hk) rfl
            have hset := setHeld0 w.heap.size w.heap.size i va (hs.take i ++ [part73 x 0]) (part73 x 0) x.h0 vv.frm vv.id a1 a2 l1 l2 cp1 cp2 W.drew HAW.out (by simp; omega) (by rw [List.getElem?_append_right (by simp; omega)]; simp [Nat.min_eq_left (Nat.le_of_lt hlt2)]) hid
            have HST : Hid (Calls Try.prog 41 #[.pointer (some ⟨w.heap.size, 0, none⟩), .int .i64 i, .int .i64 0, .bool x.h0, .int .i64 vv.frm, .agg (vv.id.map (Value.int .u8)).toArray, .slice a1 l1 cp1, .slice a2 l2 cp2] W.drew fun e w' => e = .returned (.tuple #[]) ∧ ∃ v', AH w' w.heap.size w.heap.size v' ((hs.take i ++ [part73 x 0]).set i ((part73 x 0).put 0 x.h0 ⟨vv.frm, vv.id, .slice a1 l1 cp1, .slice a2 l2 cp2⟩)) ∧ Moved W.drew w' w.heap.size va v') := hset
            have HN : Hid (∀ k, va.ownBlock = some k → k < wr.heap.size) := fun k hk => (owns_block HA.out.own k hk).2
            have HWW : Hid (Below w.heap.size w W.drew) := hwW.trans (below_drewN W _ 1)
            have hu40 := Try.underlying40
            have hi40 : (Try.prog.info? 40).map (·.size) = some (vv.id.map (Value.int .u8)).length := by rw [Try.size40]; simp [hid]
            clear hset hbx hbb
            go_region_held3 (fun w' => w'.cell? ⟨b, o + i * 73 + 71, none⟩ = some (.bool x.h0) ∧ w'.cell? ⟨wr.heap.size, 0, none⟩ = some (.int .i64 vv.frm) ∧ w'.rangeAt wr.heap.size 1 (vv.id.map (Value.int .u8)) ∧ w'.cell? ⟨wr.heap.size, 33, none⟩ = some (.slice a1 l1 cp1) ∧ w'.cell? ⟨wr.heap.size, 34, none⟩ = some (.slice a2 l2 cp2))
              (first | exact hSd | exact hS5 | fail)
              (first | (go_at_call 41; refine HST.out.mono ?_; rintro e w5 ⟨rfl, v5, hA5, hM5⟩; have hS5 := SH.out w5 (fun k hk => ((HB0.out.trans (HWW.out.mono HB0.out.size)).trans ((hM5.belowB HAW.out).mono HB0.out.size)).block k hk) (hM5.keep wr.heap.size hWsz.out (by omega) (fun e => by have := HN.out _ e; omega))))
            have hpj : (hs.take i ++ [part73 x 0]).set i ((part73 x 0).put 0 x.h0 ⟨vv.frm, vv.id, .slice a1 l1 cp1, .slice a2 l2 cp2⟩) = hs.take i ++ [part73 x 1] := by
              have e1 : (⟨vv.frm, vv.id, .slice a1 l1 cp1, .slice a2 l2 cp2⟩ : VoteD) = x.v0 := by rw [← HE1.out, ← HE2.out, ← HV.out]
              rw [e1, List.set_append_right _ _ (by simp; omega)]
              have e2 : i - (List.take i hs).length = 0 := by simp; omega
              rw [e2]
              rfl
            rw [hpj] at hA5
            have HA5 : Hid (AH w5 w.heap.size w.heap.size v5 (hs.take i ++ [part73 x 1])) := hA5
            have HB5 : Hid (Below w.heap.size w w5) := HWW.out.trans (hM5.belowB HAW.out)
            clear hA5 hM5 hpj hSd
            go_wp2_with fail
            go_roundw
            case rel => exact ⟨1, by omega, by go_num, v5, HA5.out, HB5.out⟩
            case measure => simp [intOf]
          · simp only [show ((1 : Nat) : Int) = 1 from rfl]
            obtain ⟨vv, hvv⟩ : ∃ vv, vv = x.v1 := ⟨_, rfl⟩
            have hvok : vv.ok w0 := by rw [hvv]; exact HO.out.2
            have hb0q : Below w0.heap.size w0 wr := HB0.out.trans (hbq.mono HB0.out.size)
            have hr0 : wr.rangeAt b (o + i * 73 + 36) vv.cells := fun k u hu => by
              rw [hvv] at hu
              have := rangeAt_below HR.out hb0q (36 + k) u (HrD.cells_v1 HO.out.fit.1 k u hu)
              rw [← Nat.add_assoc] at this; exact this
            have HV : Hid (vv = x.v1) := hvv
            have hcl := VoteD.cells_len hvok.1
            have hrd := rd_of_range hr0 hcl
            have hcr := canRd_of_range hr0 hcl
            have hone := oneAll_vote vv hvok.sl.1 hvok.sl.2
            have hid := hvok.1
            obtain ⟨bs1, hb1⟩ := hvok.2.1
            obtain ⟨bs2, hb2⟩ := hvok.2.2
            obtain ⟨a1, cp1, he1, _, hm1, _⟩ := hb1
            obtain ⟨a2, cp2, he2, _, hm2, _⟩ := hb2
            generalize bs1.length = l1 at *
            generalize bs2.length = l2 at *
            have hth : ∀ z : Array Value, z.size = 35 → (wr.alloc (.cells z 43)).there wr.heap.size 0 35 := fun z hz => (vote_box wr vv hvok.1 z hz).2.2
            have hhas : w0.cell? ⟨b, o + i * 73 + 72, none⟩ = some (.bool x.h1) := HR.out 72 _ (HrD.cells_72 HO.out.fit.1)
            have HHas : Hid (w0.cell? ⟨b, o + i * 73 + 72, none⟩ = some (.bool x.h1)) := hhas
            have HBX : Hid (∀ z : Array Value, z.size = 35 → ((wr.alloc (.cells z 43)).setCells wr.heap.size 0 vv.cells).rangeAt wr.heap.size 0 vv.cells ∧ Below wr.heap.size wr ((wr.alloc (.cells z 43)).setCells wr.heap.size 0 vv.cells)) := fun z hz => ⟨(vote_box wr vv hvok.1 z hz).1, (vote_box wr vv hvok.1 z hz).2.1⟩
            have HE1 : Hid (vv.ext = .slice a1 l1 cp1) := he1
            have HE2 : Hid (vv.sig = .slice a2 l2 cp2) := he2
            have HSL : Hid (vv.sl) := hvok.sl
            clear hr0 hvv hvok he1 he2 hhas
            go_wp2_with fail
            generalize hW : World.setCells _ wr.heap.size 0 _ = W
            obtain ⟨hbx, hbb⟩ : W.rangeAt wr.heap.size 0 vv.cells ∧ Below wr.heap.size wr W := by rw [← hW]; exact HBX.out _ (by simp)
            clear hW HBX hth hrd hcr hone
            have hwW : Below w.heap.size w W := below_then hbq (Nat.le_refl _) hbb
            have HAW : Hid (AH W.drew w.heap.size w.heap.size va (hs.take i ++ [part73 x 1])) := HA.out.below (hbb.trans (below_drewN W _ 1))
            have hWsz : Hid (wr.heap.size < W.heap.size) := World.block_lt_of_cell? W ⟨wr.heap.size, 0 + 0, none⟩ (hbx 0 _ (VoteD.cells_0 vv))
            have hgw := HA.out.lt
            have SH : Hid (∀ W' : World, (∀ k, k < w0.heap.size → W'.heap[k]? = w0.heap[k]?) → W'.heap[wr.heap.size]? = W.heap[wr.heap.size]? → W'.cell? ⟨b, o + i * 73 + 72, none⟩ = some (.bool x.h1) ∧ W'.cell? ⟨wr.heap.size, 0, none⟩ = some (.int .i64 vv.frm) ∧ W'.rangeAt wr.heap.size 1 (vv.id.map (Value.int .u8)) ∧ W'.cell? ⟨wr.heap.size, 33, none⟩ = some (.slice a1 l1 cp1) ∧ W'.cell? ⟨wr.heap.size, 34, none⟩ = some (.slice a2 l2 cp2)) := fun W' h1 h2 => by
              have hc : ∀ k u, W.cell? ⟨wr.heap.size, k, none⟩ = some u → W'.cell? ⟨wr.heap.size, k, none⟩ = some u := fun k u hu => (World.cell?_of_block (w := W) h2).trans hu
              have hrw : W'.rangeAt wr.heap.size 0 vv.cells := fun k u hu => hc _ _ (hbx k u hu)
              have hri : W'.rangeAt wr.heap.size 1 (vv.id.map (Value.int .u8)) := fun k u hu => by
                have := hrw (1 + k) u (ids_of_vote vv k u hu)
                rw [Nat.zero_add] at this; exact this
              refine ⟨?_, hrw 0 _ (VoteD.cells_0 vv), hri, ?_, ?_⟩
              · exact (World.cell?_of_block (w := w0) (h1 b (World.block_lt_of_cell? _ _ HHas.out))).trans HHas.out
              · have := hrw 33 _ (VoteD.cells_33 hid)
                rw [Nat.zero_add, HE1.out] at this; exact this
              · have := hrw 34 _ (VoteD.cells_34 hid)
                rw [Nat.zero_add, HE2.out] at this; exact this
            have hSd := SH.out W.drew (fun k hk => (HB0.out.trans (hwW.mono HB0.out.size)).block k hk) rfl
            have hset := setHeld1 w.heap.size w.heap.size i va (hs.take i ++ [part73 x 1]) (part73 x 1) x.h1 vv.frm vv.id a1 a2 l1 l2 cp1 cp2 W.drew HAW.out (by simp; omega) (by rw [List.getElem?_append_right (by simp; omega)]; simp [Nat.min_eq_left (Nat.le_of_lt hlt2)]) hid
            have HST : Hid (Calls Try.prog 41 #[.pointer (some ⟨w.heap.size, 0, none⟩), .int .i64 i, .int .i64 1, .bool x.h1, .int .i64 vv.frm, .agg (vv.id.map (Value.int .u8)).toArray, .slice a1 l1 cp1, .slice a2 l2 cp2] W.drew fun e w' => e = .returned (.tuple #[]) ∧ ∃ v', AH w' w.heap.size w.heap.size v' ((hs.take i ++ [part73 x 1]).set i ((part73 x 1).put 1 x.h1 ⟨vv.frm, vv.id, .slice a1 l1 cp1, .slice a2 l2 cp2⟩)) ∧ Moved W.drew w' w.heap.size va v') := hset
            have HN : Hid (∀ k, va.ownBlock = some k → k < wr.heap.size) := fun k hk => (owns_block HA.out.own k hk).2
            have HWW : Hid (Below w.heap.size w W.drew) := hwW.trans (below_drewN W _ 1)
            have hu40 := Try.underlying40
            have hi40 : (Try.prog.info? 40).map (·.size) = some (vv.id.map (Value.int .u8)).length := by rw [Try.size40]; simp [hid]
            clear hset hbx hbb
            go_region_held3 (fun w' => w'.cell? ⟨b, o + i * 73 + 72, none⟩ = some (.bool x.h1) ∧ w'.cell? ⟨wr.heap.size, 0, none⟩ = some (.int .i64 vv.frm) ∧ w'.rangeAt wr.heap.size 1 (vv.id.map (Value.int .u8)) ∧ w'.cell? ⟨wr.heap.size, 33, none⟩ = some (.slice a1 l1 cp1) ∧ w'.cell? ⟨wr.heap.size, 34, none⟩ = some (.slice a2 l2 cp2))
              (first | exact hSd | exact hS5 | fail)
              (first | (go_at_call 41; refine HST.out.mono ?_; rintro e w5 ⟨rfl, v5, hA5, hM5⟩; have hS5 := SH.out w5 (fun k hk => ((HB0.out.trans (HWW.out.mono HB0.out.size)).trans ((hM5.belowB HAW.out).mono HB0.out.size)).block k hk) (hM5.keep wr.heap.size hWsz.out (by omega) (fun e => by have := HN.out _ e; omega))))
            have hpj : (hs.take i ++ [part73 x 1]).set i ((part73 x 1).put 1 x.h1 ⟨vv.frm, vv.id, .slice a1 l1 cp1, .slice a2 l2 cp2⟩) = hs.take i ++ [part73 x 2] := by
              have e1 : (⟨vv.frm, vv.id, .slice a1 l1 cp1, .slice a2 l2 cp2⟩ : VoteD) = x.v1 := by rw [← HE1.out, ← HE2.out, ← HV.out]
              rw [e1, List.set_append_right _ _ (by simp; omega)]
              have e2 : i - (List.take i hs).length = 0 := by simp; omega
              rw [e2]
              rfl
            rw [hpj] at hA5
            have HA5 : Hid (AH w5 w.heap.size w.heap.size v5 (hs.take i ++ [part73 x 2])) := hA5
            have HB5 : Hid (Below w.heap.size w w5) := HWW.out.trans (hM5.belowB HAW.out)
            clear hA5 hM5 hpj hSd
            go_wp2_with fail
            go_roundw
            case rel => exact ⟨2, by omega, by go_num, v5, HA5.out, HB5.out⟩
            case measure => simp [intOf]
        · have hj3 : j = 2 := by omega
          subst hj3
          simp only [show ((2 : Nat) : Int) = 2 from rfl]
          have hfin : hs.take i ++ [part73 x 2] = hs.take (i + 1) := by
            have hxe : hs[i] = x := (List.getElem?_eq_some_iff.1 HX.out).2
            rw [part73_2, List.take_succ_eq_append_getElem hlt2, hxe]
          have HF : Hid (hs.take i ++ [part73 x 2] = hs.take (i + 1)) := hfin
          clear hfin
          go_wp2_with fail
          go_roundw
          case rel => exact ⟨i + 1, by omega, by go_num, va, by rw [← HF.out]; exact HA.out, hbq⟩
          case measure => simp [intOf]; omega
    · have hin : i = n := by omega
      subst hin
      go_wp2_with fail
      go_ret
      exact ⟨va0, rfl, by have := HA0.out; rw [List.take_of_length_le (by rw [HLEN.out]; omega)] at this; exact this, hb⟩
end Go.Proofs.Qxb6604712a
