/-
  Seat b6604712a: heldBytes.
-/
import Derived.Test.Qxb6604712aHeldAt
namespace Go.Proofs.Qxb6604712a
open Go.RowKit
set_option linter.unusedSimpArgs false
set_option linter.unusedVariables false
attribute [local go_sem ↓] exec_load43 exec_store43
attribute [local go_sem] ptrB ptrO isPtr

/-- Short extension and signature. -/
def VoteD.small (x : VoteD) : Prop := lenV x.ext ≤ 1048576 ∧ lenV x.sig ≤ 1048576
def HrD.small (x : HrD) : Prop := x.v0.small ∧ x.v1.small

/-- A vote copied into a new block. -/
theorem vote_box (w : World) (x : VoteD) (hid : x.id.length = 32) (z : Array Value) (hz : z.size = 35) :
    ((w.alloc (.cells z 43)).setCells w.heap.size 0 x.cells).rangeAt w.heap.size 0 x.cells ∧ Below w.heap.size w ((w.alloc (.cells z 43)).setCells w.heap.size 0 x.cells) ∧ (w.alloc (.cells z 43)).there w.heap.size 0 35 := by
  have hl := VoteD.cells_len hid
  have hh : (w.alloc (.cells z 43)).heap[w.heap.size]? = some (.cells z.toList.toArray 43 (0, 0)) := by rw [Array.toArray_toList]; exact heap_alloc_new _ _
  have ht : (w.alloc (.cells z 43)).there w.heap.size 0 35 := there_of_block hh 0 35 (by simp [hz])
  exact ⟨World.rangeAt_setCells_same _ _ _ _ (by rw [hl]; exact ht), below_setCells' ((Below.refl _ _).alloc (Nat.le_refl _) _) (Nat.le_refl _) _ _, ht⟩

set_option maxRecDepth 100000 in
set_option maxHeartbeats 2000000 in
theorem heldBytes_any (v : Value) (hs : List HrD) (w : World) (h : heldAt w v hs) (hn : hs.length ≤ 1000000) :
    Calls Try.prog 8 #[v, .int .i64 0] w fun e w' => (∃ r : Int, e = .returned (.int .i64 r) ∧ 0 ≤ r ∧ r ≤ 4000000 ∧ (r ≤ 1048576 → ∀ x ∈ hs, x.small)) ∧ Below w.heap.size w w' := by
  have h0 := h
  obtain ⟨a, cap, rfl, _, _, _⟩ := h.1
  have HH : Hid (heldAt w (.slice a hs.length cap) hs) := h0
  clear h h0
  generalize hlen : hs.length = n at *
  go_enter Try.func8, Try.ntmps8
  go_wp2_with fail
  go_loopw [1, 5] (fun nv iv wr => ∃ (i : Nat) (z : Int), i ≤ n ∧ iv = .int .i64 i ∧ nv = .int .i64 z ∧ 0 ≤ z ∧ z ≤ 4000000 ∧ (∀ k x, k < i → hs[k]? = some x → x.small) ∧ Below w.heap.size w wr) (fun _ iv _ => n - (intOf iv).toNat)
  case atStart => exact ⟨0, 0, by omega, rfl, rfl, by omega, by omega, fun k x hk => by omega, Below.refl _ _⟩
  case round =>
    obtain ⟨i, z, hi, rfl, rfl, hz0, hz1, hlo, hb⟩ := hrel
    have HL : Hid (∀ k x, k < i → hs[k]? = some x → x.small) := hlo
    clear hlo
    by_cases hlt : i < n
    · obtain ⟨b, o, x, hab, hx, hok, hr⟩ := HH.out.cellsAt i hlt
      cases hab
      have HX : Hid (hs[i]? = some x) := hx
      have HR : Hid (w.rangeAt b (o + i * 73) x.cells) := hr
      have HO : Hid (x.ok w) := hok
      have hlt' : (i : Int) < (n : Int) := by omega
      clear hx hr hok
      go_wp2_with fail
      go_loopw [1, 6] (fun nv jv wq => ∃ (j : Nat) (z : Int), j ≤ 2 ∧ jv = .int .i64 j ∧ nv = .int .i64 z ∧ 0 ≤ z ∧ z ≤ 4000000 ∧ (1 ≤ j → x.v0.small) ∧ (2 ≤ j → x.v1.small) ∧ Below w.heap.size w wq) (fun _ jv _ => 2 - (intOf jv).toNat)
      case atStart => exact ⟨0, z, by omega, rfl, rfl, hz0, hz1, by omega, by omega, hb⟩
      case round =>
        obtain ⟨j, y, hj, rfl, rfl, hy0, hy1, s0, s1, hbq⟩ := hrel
        have S0 : Hid (1 ≤ j → x.v0.small) := s0
        have S1 : Hid (2 ≤ j → x.v1.small) := s1
        clear s0 s1 hb hz0 hz1
        by_cases hj2 : j < 2
        · have hjj : j = 0 ∨ j = 1 := by omega
          rcases hjj with rfl | rfl
          · simp only [show ((0 : Nat) : Int) = 0 from rfl]
            obtain ⟨vv, hvv⟩ : ∃ vv, vv = x.v0 := ⟨_, rfl⟩
            have hvok : vv.ok w := by rw [hvv]; exact HO.out.1
            have hr0 : wr.rangeAt b (o + i * 73 + 1) vv.cells := fun k u hu => by
              rw [hvv] at hu
              have := rangeAt_below HR.out hbq (1 + k) u (HrD.cells_v0 HO.out.fit.1 k u hu)
              rw [← Nat.add_assoc] at this; exact this
            have HV : Hid (vv = x.v0) := hvv
            have hcl := VoteD.cells_len hvok.1
            have hrd := rd_of_range hr0 hcl
            have hcr := canRd_of_range hr0 hcl
            have hone := oneAll_vote vv hvok.sl.1 hvok.sl.2
            obtain ⟨bs1, hb1⟩ := hvok.2.1
            obtain ⟨bs2, hb2⟩ := hvok.2.2
            obtain ⟨a1, cp1, he1, _, hm1, _⟩ := hb1
            obtain ⟨a2, cp2, he2, _, hm2, _⟩ := hb2
            generalize bs1.length = l1 at *
            generalize bs2.length = l2 at *
            have hth : ∀ z : Array Value, z.size = 35 → (wr.alloc (.cells z 43)).there wr.heap.size 0 35 := fun z hz => (vote_box wr vv hvok.1 z hz).2.2
            have hk33 : ∀ z : Array Value, z.size = 35 → ((wr.alloc (.cells z 43)).setCells wr.heap.size 0 vv.cells).cell? ⟨wr.heap.size, 33, none⟩ = some (.slice a1 l1 cp1) := fun z hz => by
              have := (vote_box wr vv hvok.1 z hz).1 33 _ (VoteD.cells_33 hvok.1)
              rw [Nat.zero_add, he1] at this; exact this
            have hk34 : ∀ z : Array Value, z.size = 35 → ((wr.alloc (.cells z 43)).setCells wr.heap.size 0 vv.cells).cell? ⟨wr.heap.size, 34, none⟩ = some (.slice a2 l2 cp2) := fun z hz => by
              have := (vote_box wr vv hvok.1 z hz).1 34 _ (VoteD.cells_34 hvok.1)
              rw [Nat.zero_add, he2] at this; exact this
            have HB : Hid (∀ z : Array Value, z.size = 35 → Below w.heap.size w ((wr.alloc (.cells z 43)).setCells wr.heap.size 0 vv.cells)) := fun z hz => below_then hbq (Nat.le_refl _) (vote_box wr vv hvok.1 z hz).2.1
            have HE1 : Hid (vv.ext = .slice a1 l1 cp1) := he1
            have HE2 : Hid (vv.sig = .slice a2 l2 cp2) := he2
            clear hr0 hvv hvok he1 he2
            by_cases hgood : y ≤ 1048576 ∧ (l1 : Int) ≤ 1048576 ∧ (l2 : Int) ≤ 1048576
            · obtain ⟨g0, g1, g2⟩ := hgood
              go_wp2_with fail
              go_roundw
              case rel =>
                refine ⟨1, y + (64 + l1 + l2), by omega, by go_num, rfl, by omega, by omega, ?_, ?_, HB.out _ (by simp)⟩
                · intro _; rw [← HV.out]; exact ⟨by rw [HE1.out]; show l1 ≤ _; omega, by rw [HE2.out]; show l2 ≤ _; omega⟩
                · intro h; omega
              case measure => simp [intOf]
            · go_wp2_with fail
              all_goals first
                | (go_ret; exact ⟨⟨1048577, rfl, by omega, by omega, fun h => absurd h (by omega)⟩, HB.out _ (by simp)⟩)
                | (exfalso; omega)
          · simp only [show ((1 : Nat) : Int) = 1 from rfl]
            obtain ⟨vv, hvv⟩ : ∃ vv, vv = x.v1 := ⟨_, rfl⟩
            have hvok : vv.ok w := by rw [hvv]; exact HO.out.2
            have hr0 : wr.rangeAt b (o + i * 73 + 36) vv.cells := fun k u hu => by
              rw [hvv] at hu
              have := rangeAt_below HR.out hbq (36 + k) u (HrD.cells_v1 HO.out.fit.1 k u hu)
              rw [← Nat.add_assoc] at this; exact this
            have HV : Hid (vv = x.v1) := hvv
            have hcl := VoteD.cells_len hvok.1
            have hrd := rd_of_range hr0 hcl
            have hcr := canRd_of_range hr0 hcl
            have hone := oneAll_vote vv hvok.sl.1 hvok.sl.2
            obtain ⟨bs1, hb1⟩ := hvok.2.1
            obtain ⟨bs2, hb2⟩ := hvok.2.2
            obtain ⟨a1, cp1, he1, _, hm1, _⟩ := hb1
            obtain ⟨a2, cp2, he2, _, hm2, _⟩ := hb2
            generalize bs1.length = l1 at *
            generalize bs2.length = l2 at *
            have hth : ∀ z : Array Value, z.size = 35 → (wr.alloc (.cells z 43)).there wr.heap.size 0 35 := fun z hz => (vote_box wr vv hvok.1 z hz).2.2
            have hk33 : ∀ z : Array Value, z.size = 35 → ((wr.alloc (.cells z 43)).setCells wr.heap.size 0 vv.cells).cell? ⟨wr.heap.size, 33, none⟩ = some (.slice a1 l1 cp1) := fun z hz => by
              have := (vote_box wr vv hvok.1 z hz).1 33 _ (VoteD.cells_33 hvok.1)
              rw [Nat.zero_add, he1] at this; exact this
            have hk34 : ∀ z : Array Value, z.size = 35 → ((wr.alloc (.cells z 43)).setCells wr.heap.size 0 vv.cells).cell? ⟨wr.heap.size, 34, none⟩ = some (.slice a2 l2 cp2) := fun z hz => by
              have := (vote_box wr vv hvok.1 z hz).1 34 _ (VoteD.cells_34 hvok.1)
              rw [Nat.zero_add, he2] at this; exact this
            have HB : Hid (∀ z : Array Value, z.size = 35 → Below w.heap.size w ((wr.alloc (.cells z 43)).setCells wr.heap.size 0 vv.cells)) := fun z hz => below_then hbq (Nat.le_refl _) (vote_box wr vv hvok.1 z hz).2.1
            have HE1 : Hid (vv.ext = .slice a1 l1 cp1) := he1
            have HE2 : Hid (vv.sig = .slice a2 l2 cp2) := he2
            clear hr0 hvv hvok he1 he2
            by_cases hgood : y ≤ 1048576 ∧ (l1 : Int) ≤ 1048576 ∧ (l2 : Int) ≤ 1048576
            · obtain ⟨g0, g1, g2⟩ := hgood
              go_wp2_with fail
              go_roundw
              case rel =>
                refine ⟨2, y + (64 + l1 + l2), by omega, by go_num, rfl, by omega, by omega, ?_, ?_, HB.out _ (by simp)⟩
                · intro _; exact S0.out (by omega)
                · intro _; rw [← HV.out]; exact ⟨by rw [HE1.out]; show l1 ≤ _; omega, by rw [HE2.out]; show l2 ≤ _; omega⟩
              case measure => simp [intOf]
            · go_wp2_with fail
              all_goals first
                | (go_ret; exact ⟨⟨1048577, rfl, by omega, by omega, fun h => absurd h (by omega)⟩, HB.out _ (by simp)⟩)
                | (exfalso; omega)
        · have hj3 : j = 2 := by omega
          subst hj3
          simp only [show ((2 : Nat) : Int) = 2 from rfl]
          go_wp2_with fail
          go_roundw
          case rel =>
            refine ⟨i + 1, y, by omega, by go_num, rfl, hy0, hy1, fun k x' hk hx' => ?_, hbq⟩
            by_cases hke : k = i
            · subst hke
              rw [HX.out] at hx'; cases hx'
              exact ⟨S0.out (by omega), S1.out (by omega)⟩
            · exact HL.out k x' (by omega) hx'
          case measure => simp [intOf]; omega
    · go_wp2_with fail
      go_ret
      refine ⟨⟨z, rfl, hz0, hz1, fun _ x hx => ?_⟩, hb⟩
      obtain ⟨j, hj, rfl⟩ := List.mem_iff_getElem.1 hx
      exact HL.out j _ (by omega) (List.getElem?_eq_getElem hj)
end Go.Proofs.Qxb6604712a
