/-
  Seat b6604712a: droppedShapeOK, sameAhead.
-/
import Derived.Test.Qxb6604712aAis
namespace Go.Proofs.Qxb6604712a
open Go.RowKit
set_option linter.unusedSimpArgs false
set_option linter.unusedVariables false

set_option maxHeartbeats 2000000 in
theorem shape_any (B g : Nat) (v : Value) (hs : List HrD) (w : World) (h : AH w B g v hs) (hn : hs.length ≤ 3) (hg : Grows hs) :
    Calls Try.prog 20 #[.pointer (some ⟨g, 0, none⟩)] w fun e w' => e = .returned (.bool true) ∧ w' = w := by
  have hdl := dlen_any B g v hs w h
  have HA : Hid (AH w B g v hs) := h
  have HG : Hid (Grows hs) := hg
  clear h hg
  obtain ⟨n, hlen⟩ : ∃ n, n = hs.length := ⟨_, rfl⟩
  rw [← hlen] at hdl hn
  have HLN : Hid (n = hs.length) := hlen
  clear hlen
  go_enter Try.func20, Try.ntmps20
  go_wp2_with fail
  refine hdl.mono ?_
  rintro e w ⟨rfl, rfl⟩
  clear hdl
  have hn' : ¬ ((3 : Int) < (n : Int)) := by omega
  go_wp2_with fail
  go_loopw [4] (fun iv wr => ∃ i : Nat, 1 ≤ i ∧ i ≤ n + 1 ∧ iv = .int .i64 i ∧ w = wr) (fun iv _ => n + 1 - (intOf iv).toNat)
  case atStart => exact ⟨1, Nat.le_refl _, by omega, rfl, rfl⟩
  case round =>
    obtain ⟨i, hi1, hi2, rfl, rfl⟩ := hrel
    by_cases hlt : i < n
    · obtain ⟨m, hm⟩ : ∃ m, i = m + 1 := ⟨i - 1, by omega⟩
      subst hm
      obtain ⟨x, hx⟩ : ∃ x, hs[m]? = some x := ⟨_, List.getElem?_eq_getElem (by rw [← HLN.out]; omega)⟩
      obtain ⟨y, hy⟩ : ∃ y, hs[m + 1]? = some y := ⟨_, List.getElem?_eq_getElem (by rw [← HLN.out]; omega)⟩
      have hxy := HG.out m x y hx hy
      have c1 := dround_any B g m v hs x w HA.out hx
      have c2 := dround_any B g (m + 1) v hs y w HA.out hy
      have hlt' : ((m : Int) + 1) < (n : Int) := by omega
      have hc2 : ((m + 1 : Nat) : Int) = (m : Int) + 1 := by omega
      rw [hc2] at c2 ⊢
      clear hx hy hc2
      go_wp2_with fail
      refine c1.mono ?_
      rintro e w ⟨rfl, rfl⟩
      clear c1
      go_wp2_with fail
      refine c2.mono ?_
      rintro e w ⟨rfl, rfl⟩
      clear c2
      go_wp2_with fail
      go_roundw
      case rel => exact ⟨m + 2, by omega, by omega, by go_num, trivial⟩
      case measure => simp [intOf]; omega
    · have hin : (n : Int) ≤ (i : Int) := by omega
      go_wp2_with fail
      go_ret
      exact ⟨rfl, rfl⟩

attribute [local go_sem ↓] exec_load53 exec_store53
attribute [local go_sem] ptrB ptrO isPtr

set_option maxRecDepth 100000 in
set_option maxHeartbeats 8000000 in
theorem sameAhead_any (B1 B2 g1 g2 : Nat) (v1 v2 : Value) (hs : List HrD) (w : World) (h1 : AH w B1 g1 v1 hs) (h2 : AH w B2 g2 v2 hs) (hok : ∀ x ∈ hs, x.ok w) (hn : hs.length ≤ 900) :
    Calls Try.prog 19 #[.pointer (some ⟨g1, 0, none⟩), .pointer (some ⟨g2, 0, none⟩)] w fun e w' => e = .returned (.bool true) ∧ Below w.heap.size w w' := by
  have d1 := dlen_any B1 g1 v1 hs w h1
  have d2 := dlen_any B2 g2 v2 hs w h2
  have HA1 : Hid (AH w B1 g1 v1 hs) := h1
  have HA2 : Hid (AH w B2 g2 v2 hs) := h2
  have HOK : Hid (∀ x ∈ hs, x.ok w) := hok
  clear h1 h2 hok
  obtain ⟨n, hlen⟩ : ∃ n, n = hs.length := ⟨_, rfl⟩
  rw [← hlen] at d1 d2 hn
  have HLN : Hid (n = hs.length) := hlen
  clear hlen
  go_enter Try.func19, Try.ntmps19
  go_wp2_with fail
  refine d1.mono ?_
  rintro e w ⟨rfl, rfl⟩
  clear d1
  go_wp2_with fail
  refine d2.mono ?_
  rintro e w ⟨rfl, rfl⟩
  clear d2
  go_wp2_with fail
  go_loopw [6] (fun iv wr => ∃ i : Nat, i ≤ n ∧ iv = .int .i64 i ∧ Below w.heap.size w wr) (fun iv _ => n - (intOf iv).toNat)
  case atStart => exact ⟨0, Nat.zero_le _, rfl, Below.refl _ _⟩
  case round =>
    obtain ⟨i, hi, rfl, hb⟩ := hrel
    by_cases hlt : i < n
    · obtain ⟨x, hx⟩ : ∃ x, hs[i]? = some x := ⟨_, List.getElem?_eq_getElem (by rw [← HLN.out]; omega)⟩
      have HX : Hid (hs[i]? = some x) := hx
      have HO : Hid (x.ok w) := HOK.out x (List.mem_of_getElem? hx)
      have hlt' : (i : Int) < (n : Int) := by omega
      clear hx
      go_wp2_with fail
      refine (dround_any B1 g1 i v1 hs x wr (HA1.out.below hb) HX.out).mono ?_
      rintro e wr ⟨rfl, rfl⟩
      go_wp2_with fail
      refine (dround_any B2 g2 i v2 hs x wr (HA2.out.below hb) HX.out).mono ?_
      rintro e wr ⟨rfl, rfl⟩
      go_wp2_with fail
      go_loopw [7] (fun jv wq => ∃ j : Nat, j ≤ 2 ∧ jv = .int .i64 j ∧ Below w.heap.size w wq) (fun jv _ => 2 - (intOf jv).toNat)
      case atStart => exact ⟨0, by omega, rfl, hb⟩
      case round =>
        obtain ⟨j, hj, rfl, hbq⟩ := hrel
        clear hb
        by_cases hj2 : j < 2
        · have hvok : (x.vk j).ok w := by unfold HrD.vk; split; exact HO.out.2; exact HO.out.1
          obtain ⟨f, id, e1, n1, q1, e2, n2, q2, bs1, bs2, hvx, hid, hy1, hy2⟩ := VoteD.shape hvok
          have HVX : Hid (x.vk j = ⟨f, id, .slice e1 n1 q1, .slice e2 n2 q2⟩) := hvx
          have hei := eqIds53 id hid
          have hgu := guard53
          have hone := oneAll_ids id
          have hth := there_new53
          have hj2' : (j : Int) < 2 := by omega
          clear hvok hvx
          go_wp2_with fail
          refine (dhas_any B1 g1 i j hj2 v1 hs x wr (HA1.out.below hbq) HX.out).mono ?_
          rintro e wr ⟨rfl, rfl⟩
          go_wp2_with fail
          refine (dhas_any B2 g2 i j hj2 v2 hs x wr (HA2.out.below hbq) HX.out).mono ?_
          rintro e wr ⟨rfl, rfl⟩
          generalize x.hk j = hkb at *
          go_wp2_with fail
          refine (dvote_any B1 g1 i j hj2 v1 hs x f id e1 e2 n1 n2 q1 q2 wr (HA1.out.below hbq) HX.out HVX.out).mono ?_
          rintro e w1 ⟨rfl, hb1⟩
          go_wp2_with fail
          generalize hW2 : World.setCells _ w1.heap.size 0 _ = W2
          obtain ⟨r1, b1⟩ : W2.rangeAt w1.heap.size 0 (id.map (Value.int .u8)) ∧ Below w1.heap.size w1 W2 := by rw [← hW2]; exact id_new w1 _ (by simp) id hid
          have hbW2 : Below w.heap.size w W2 := below_then (below_then hbq (Nat.le_refl _) hb1) (Nat.le_refl _) b1
          clear hW2
          refine (dvote_any B2 g2 i j hj2 v2 hs x f id e1 e2 n1 n2 q1 q2 W2 (HA2.out.below hbW2) HX.out HVX.out).mono ?_
          rintro e w2 ⟨rfl, hb2⟩
          have hcr1 : ∀ (z : Array Value), canRd ((w2.alloc (.cells z 53)).setCells w2.heap.size 0 (id.map (Value.int .u8))) w1.heap.size 0 32 := fun z => by
            refine canRd_of_range (World.rangeAt_setCells_apart (World.rangeAt_alloc (rangeAt_below r1 hb2) _) _ _ _ (.inl ?_)) (by simp [hid])
            have q1 := World.block_lt_of_cell? _ _ (r1 0 (.int .u8 (id.getD 0 0)) (by simp [List.getD, hid]))
            have q2 := hb2.size
            simp at q1
            omega
          have hrd1 : ∀ (z : Array Value), rd ((w2.alloc (.cells z 53)).setCells w2.heap.size 0 (id.map (Value.int .u8))) w1.heap.size 0 32 = (id.map (Value.int .u8)).toArray := fun z => by
            refine rd_of_range (World.rangeAt_setCells_apart (World.rangeAt_alloc (rangeAt_below r1 hb2) _) _ _ _ (.inl ?_)) (by simp [hid])
            have q1 := World.block_lt_of_cell? _ _ (r1 0 (.int .u8 (id.getD 0 0)) (by simp [List.getD, hid]))
            have q2 := hb2.size
            simp at q1
            omega
          have hcr2 : ∀ (z : Array Value), z.size = 32 → canRd ((w2.alloc (.cells z 53)).setCells w2.heap.size 0 (id.map (Value.int .u8))) w2.heap.size 0 32 := fun z hz => canRd_of_range (id_new w2 z hz id hid).1 (by simp [hid])
          have hrd2 : ∀ (z : Array Value), z.size = 32 → rd ((w2.alloc (.cells z 53)).setCells w2.heap.size 0 (id.map (Value.int .u8))) w2.heap.size 0 32 = (id.map (Value.int .u8)).toArray := fun z hz => rd_of_range (id_new w2 z hz id hid).1 (by simp [hid])
          have hbw2 : Below w.heap.size w w2 := below_then hbW2 (Nat.le_refl _) hb2
          go_wp2_with fail
          generalize hW3 : World.setCells _ w2.heap.size 0 _ = W3
          have b3 : Below w2.heap.size w2 W3 := by rw [← hW3]; exact (id_new w2 _ (by simp) id hid).2
          have hbW3 : Below w.heap.size w W3 := below_then hbw2 (Nat.le_refl _) b3
          clear hW3 hcr1 hcr2 hrd1 hrd2
          refine (bytesSame_same _ bs1 _ (hy1.below hbW3)).mono ?_
          rintro e w4 ⟨rfl, m4, rfl⟩
          go_wp2_with fail
          refine (bytesSame_same _ bs2 _ (hy2.below (hbW3.trans (below_drewN _ _ _)))).mono ?_
          rintro e w4 ⟨rfl, m5, rfl⟩
          go_wp2
          go_roundw
          case rel => exact ⟨j + 1, by omega, by go_num, hbW3.trans (below_drewN _ _ _)⟩
          case measure => simp [intOf]; omega
        · have hj3 : j = 2 := by omega
          subst hj3
          simp only [show ((2 : Nat) : Int) = 2 from rfl]
          go_wp2_with fail
          go_roundw
          case rel => exact ⟨i + 1, by omega, by go_num, hbq⟩
          case measure => simp [intOf]; omega
    · go_wp2_with fail
      go_ret
      exact ⟨rfl, hb⟩
end Go.Proofs.Qxb6604712a
