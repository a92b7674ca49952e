/-
  Seat b6604712a: tallySame.
-/
import Derived.Test.Qxb6604712aSame
namespace Go.Proofs.Qxb6604712a
open Go.RowKit
set_option linter.unusedSimpArgs false
set_option linter.unusedVariables false
attribute [local go_sem ↓] exec_load53 exec_store53
attribute [local go_sem] ptrB ptrO isPtr

theorem there_new53 (w : World) (z : Array Value) (hz : z.size = 32) : (w.alloc (.cells z 53)).there w.heap.size 0 32 := there_of_block (cur := z.toList) (heap_alloc_new _ _) 0 32 (by simp [hz])
/-- A new variable that holds an id. -/
theorem id_new (w : World) (z : Array Value) (hz : z.size = 32) (id : List Int) (hid : id.length = 32) :
    ((w.alloc (.cells z 53)).setCells w.heap.size 0 (id.map (Value.int .u8))).rangeAt w.heap.size 0 (id.map (Value.int .u8)) ∧ Below w.heap.size w ((w.alloc (.cells z 53)).setCells w.heap.size 0 (id.map (Value.int .u8))) :=
  ⟨World.rangeAt_setCells_same _ _ _ _ (by simpa [hid] using there_new53 w z hz), below_setCells' ((Below.refl _ _).alloc (Nat.le_refl _) _) (Nat.le_refl _) _ _⟩

theorem VoteD.shape {w : World} {x : VoteD} (h : x.ok w) : ∃ f id e1 n1 q1 e2 n2 q2 bs1 bs2, x = ⟨f, id, .slice e1 n1 q1, .slice e2 n2 q2⟩ ∧ id.length = 32 ∧ bytesAt w (.slice e1 n1 q1) bs1 ∧ bytesAt w (.slice e2 n2 q2) bs2 := by
  obtain ⟨f, id, e, s⟩ := x
  obtain ⟨hid, ⟨bs1, hb1⟩, ⟨bs2, hb2⟩⟩ := h
  obtain ⟨e1, n1, q1, rfl⟩ := hb1.form
  obtain ⟨e2, n2, q2, rfl⟩ := hb2.form
  exact ⟨f, id, e1, n1, q1, e2, n2, q2, bs1, bs2, rfl, hid, hb1, hb2⟩

set_option maxRecDepth 100000 in
set_option maxHeartbeats 4000000 in
theorem tallySame_any (g1 g2 : Nat) (st : Int) (hst : st = 1 ∨ st = 2) (P1 P2 : Nat → Prop) (a1 a2 : StD) (w : World) (h1 : IsS w P1 g1 a1) (h2 : IsS w P2 g2 a2) (hv : a2.vs st = a1.vs st) (hp : a2.ps st = a1.ps st) (ht : a2.tot st = a1.tot st)
    (hok : ∀ x ∈ a1.vs st, x.ok w) (hl1 : (a1.vs st).length ≤ 1048576) (hl2 : (a1.ps st).length ≤ 1048576) (hid2 : ∀ x ∈ a1.ps st, x.id.length = 32) :
    Calls Try.prog 56 #[.pointer (some ⟨g1, 0, none⟩), .pointer (some ⟨g2, 0, none⟩), .int .i8 st] w fun e w' => e = .returned (.bool true) ∧ Below w.heap.size w w' := by
  obtain ⟨vs, hvs⟩ : ∃ vs, a1.vs st = vs := ⟨_, rfl⟩
  obtain ⟨ps, hps⟩ : ∃ ps, a1.ps st = ps := ⟨_, rfl⟩
  obtain ⟨tt, htt⟩ : ∃ tt, a1.tot st = tt := ⟨_, rfl⟩
  rw [hvs] at hv hok hl1
  rw [hps] at hp hl2 hid2
  rw [htt] at ht
  have HV1 : Hid (a1.vs st = vs) := hvs
  have HV2 : Hid (a2.vs st = vs) := hv
  have HP1 : Hid (a1.ps st = ps) := hps
  have HP2 : Hid (a2.ps st = ps) := hp
  have HT1 : Hid (a1.tot st = tt) := htt
  have HT2 : Hid (a2.tot st = tt) := ht
  clear hvs hv hps hp htt ht
  have hth := there_new53
  have hgu := guard53
  go_enter Try.func56, Try.ntmps56
  go_wp2_with fail
  refine (tallyLen_any g1 st hst P1 a1 w h1).mono ?_
  rintro e w ⟨rfl, rfl⟩
  rw [HV1.out]
  go_wp2_with fail
  refine (tallyLen_any g2 st hst P2 a2 _ h2).mono ?_
  rintro e w ⟨rfl, rfl⟩
  rw [HV2.out]
  generalize hlen : vs.length = len at hl1
  go_wp2_with fail
  go_loopw [8] (fun i wr => ∃ k : Nat, k ≤ len ∧ i = .int .i64 k ∧ Below w.heap.size w wr) (fun i _ => len - (intOf i).toNat)
  case atStart => exact ⟨0, Nat.zero_le _, rfl, Below.refl _ _⟩
  case round =>
    obtain ⟨k, hk, rfl, hb⟩ := hrel
    by_cases hlt : k < len
    · obtain ⟨f, id, e1, n1, q1, e2, n2, q2, bs1, bs2, hx, hid, hy1, hy2⟩ := VoteD.shape (hok (vs[k]'(by omega)) (List.getElem_mem _))
      have hx' : vs[k]? = some ⟨f, id, .slice e1 n1 q1, .slice e2 n2 q2⟩ := by rw [List.getElem?_eq_getElem (by omega), hx]
      have hei := eqIds53 id hid
      have hone := oneAll_ids id
      have HX1 : Hid ((a1.vs st)[k]? = some ⟨f, id, .slice e1 n1 q1, .slice e2 n2 q2⟩) := by rw [HV1.out]; exact hx'
      have HX2 : Hid ((a2.vs st)[k]? = some ⟨f, id, .slice e1 n1 q1, .slice e2 n2 q2⟩) := by rw [HV2.out]; exact hx'
      have HLEN : Hid (vs.length = len) := hlen
      clear hx hx' hlen
      go_wp2_with fail
      refine (tallyVote_any g1 st hst P1 a1 k f id e1 e2 n1 n2 q1 q2 _ (h1.below hb) HX1.out).mono ?_
      rintro e w1 ⟨rfl, hb1⟩
      go_wp2_with fail
      generalize hW2 : World.setCells _ w1.heap.size 0 _ = W2
      obtain ⟨r1, b1⟩ : W2.rangeAt w1.heap.size 0 (id.map (Value.int .u8)) ∧ Below w1.heap.size w1 W2 := by rw [← hW2]; exact id_new w1 _ (by simp) id hid
      have hbW2 : Below w.heap.size w W2 := below_then (below_then hb (Nat.le_refl _) hb1) (Nat.le_refl _) b1
      clear hW2
      refine (tallyVote_any g2 st hst P2 a2 k f id e1 e2 n1 n2 q1 q2 _ (h2.below hbW2) HX2.out).mono ?_
      rintro e w2 ⟨rfl, hb2⟩
      have hcr1 : ∀ (z : Array Value), canRd ((w2.alloc (.cells z 53)).setCells w2.heap.size 0 (id.map (Value.int .u8))) w1.heap.size 0 32 := fun z => by
        refine canRd_of_range (World.rangeAt_setCells_apart (World.rangeAt_alloc (rangeAt_below r1 hb2) _) _ _ _ (.inl ?_)) (by simp [hid])
        have q1 := World.block_lt_of_cell? _ _ (r1 0 (.int .u8 (id.getD 0 0)) (by simp [List.getD, hid]))
        have q2 := hb2.size
        simp at q1
        omega
      have hrd1 : ∀ (z : Array Value), rd ((w2.alloc (.cells z 53)).setCells w2.heap.size 0 (id.map (Value.int .u8))) w1.heap.size 0 32 = (id.map (Value.int .u8)).toArray := fun z => by
        refine rd_of_range (World.rangeAt_setCells_apart (World.rangeAt_alloc (rangeAt_below r1 hb2) _) _ _ _ (.inl ?_)) (by simp [hid])
        have q1 := World.block_lt_of_cell? _ _ (r1 0 (.int .u8 (id.getD 0 0)) (by simp [List.getD, hid]))
        have q2 := hb2.size
        simp at q1
        omega
      have hcr2 : ∀ (z : Array Value), z.size = 32 → canRd ((w2.alloc (.cells z 53)).setCells w2.heap.size 0 (id.map (Value.int .u8))) w2.heap.size 0 32 := fun z hz => canRd_of_range (id_new w2 z hz id hid).1 (by simp [hid])
      have hrd2 : ∀ (z : Array Value), z.size = 32 → rd ((w2.alloc (.cells z 53)).setCells w2.heap.size 0 (id.map (Value.int .u8))) w2.heap.size 0 32 = (id.map (Value.int .u8)).toArray := fun z hz => rd_of_range (id_new w2 z hz id hid).1 (by simp [hid])
      have hbw2 : Below w.heap.size w w2 := below_then hbW2 (Nat.le_refl _) hb2
      go_wp2_with fail
      generalize hW3 : World.setCells _ w2.heap.size 0 _ = W3
      have b3 : Below w2.heap.size w2 W3 := by rw [← hW3]; exact (id_new w2 _ (by simp) id hid).2
      have hbW3 : Below w.heap.size w W3 := below_then hbw2 (Nat.le_refl _) b3
      clear hW3 hcr1 hcr2 hrd1 hrd2
      refine (bytesSame_same _ bs1 _ (hy1.below hbW3)).mono ?_
      rintro e w4 ⟨rfl, m4, rfl⟩
      go_wp2_with fail
      refine (bytesSame_same _ bs2 _ (hy2.below (hbW3.trans (below_drewN _ _ _)))).mono ?_
      rintro e w4 ⟨rfl, m5, rfl⟩
      go_wp2
      go_roundw
      case rel => exact ⟨k + 1, by omega, by go_num, hbW3.trans (below_drewN _ _ _)⟩
      case measure => simp [intOf]; omega
    · go_wp2_with fail
      refine (powerLen_any g1 st hst P1 a1 _ (h1.below hb)).mono ?_
      rintro e wr ⟨rfl, rfl⟩
      rw [HP1.out]
      go_wp2_with fail
      refine (powerLen_any g2 st hst P2 a2 _ (h2.below hb)).mono ?_
      rintro e wr ⟨rfl, rfl⟩
      rw [HP2.out]
      generalize hlen2 : ps.length = len2 at hl2
      go_wp2_with fail
      go_loopw [18] (fun i wr => ∃ k : Nat, k ≤ len2 ∧ i = .int .i64 k ∧ Below w.heap.size w wr) (fun i _ => len2 - (intOf i).toNat)
      case atStart => exact ⟨0, Nat.zero_le _, rfl, hb⟩
      case round =>
        clear hb hk hlt
        obtain ⟨k, hk, rfl, hb⟩ := hrel
        by_cases hlt : k < len2
        · have hid : (ps[k]'(by omega)).id.length = 32 := hid2 _ (List.getElem_mem _)
          obtain ⟨id, f, hx⟩ : ∃ id f, ps[k]'(by omega) = ⟨id, f⟩ := ⟨_, _, rfl⟩
          rw [hx] at hid
          have hx' : ps[k]? = some ⟨id, f⟩ := by rw [List.getElem?_eq_getElem (by omega), hx]
          have hei := eqIds53 id hid
          have hone := oneAll_ids id
          have HX1 : Hid ((a1.ps st)[k]? = some ⟨id, f⟩) := by rw [HP1.out]; exact hx'
          have HX2 : Hid ((a2.ps st)[k]? = some ⟨id, f⟩) := by rw [HP2.out]; exact hx'
          clear hx hx' hlen2
          go_wp2_with fail
          refine (power_any g1 st hst P1 a1 k f id _ (h1.below hb) HX1.out).mono ?_
          rintro e w1 ⟨rfl, hb1⟩
          go_wp2_with fail
          generalize hW2 : World.setCells _ w1.heap.size 0 _ = W2
          obtain ⟨r1, b1⟩ : W2.rangeAt w1.heap.size 0 (id.map (Value.int .u8)) ∧ Below w1.heap.size w1 W2 := by rw [← hW2]; exact id_new w1 _ (by simp) id hid
          have hbW2 : Below w.heap.size w W2 := below_then (below_then hb (Nat.le_refl _) hb1) (Nat.le_refl _) b1
          clear hW2
          refine (power_any g2 st hst P2 a2 k f id _ (h2.below hbW2) HX2.out).mono ?_
          rintro e w2 ⟨rfl, hb2⟩
          have hcr1 : ∀ (z : Array Value), canRd ((w2.alloc (.cells z 53)).setCells w2.heap.size 0 (id.map (Value.int .u8))) w1.heap.size 0 32 := fun z => by
            refine canRd_of_range (World.rangeAt_setCells_apart (World.rangeAt_alloc (rangeAt_below r1 hb2) _) _ _ _ (.inl ?_)) (by simp [hid])
            have q1 := World.block_lt_of_cell? _ _ (r1 0 (.int .u8 (id.getD 0 0)) (by simp [List.getD, hid]))
            have q2 := hb2.size
            simp at q1
            omega
          have hrd1 : ∀ (z : Array Value), rd ((w2.alloc (.cells z 53)).setCells w2.heap.size 0 (id.map (Value.int .u8))) w1.heap.size 0 32 = (id.map (Value.int .u8)).toArray := fun z => by
            refine rd_of_range (World.rangeAt_setCells_apart (World.rangeAt_alloc (rangeAt_below r1 hb2) _) _ _ _ (.inl ?_)) (by simp [hid])
            have q1 := World.block_lt_of_cell? _ _ (r1 0 (.int .u8 (id.getD 0 0)) (by simp [List.getD, hid]))
            have q2 := hb2.size
            simp at q1
            omega
          have hcr2 : ∀ (z : Array Value), z.size = 32 → canRd ((w2.alloc (.cells z 53)).setCells w2.heap.size 0 (id.map (Value.int .u8))) w2.heap.size 0 32 := fun z hz => canRd_of_range (id_new w2 z hz id hid).1 (by simp [hid])
          have hrd2 : ∀ (z : Array Value), z.size = 32 → rd ((w2.alloc (.cells z 53)).setCells w2.heap.size 0 (id.map (Value.int .u8))) w2.heap.size 0 32 = (id.map (Value.int .u8)).toArray := fun z hz => rd_of_range (id_new w2 z hz id hid).1 (by simp [hid])
          have hbw2 : Below w.heap.size w w2 := below_then hbW2 (Nat.le_refl _) hb2
          go_wp2
          go_roundw
          case rel => exact ⟨k + 1, by omega, by go_num, below_then hbw2 (Nat.le_refl _) (id_new w2 _ (by simp) id hid).2⟩
          case measure => simp [intOf]; omega
        · go_wp2_with fail
          refine (total_any g1 st hst P1 a1 _ (h1.below hb)).mono ?_
          rintro e wr ⟨rfl, rfl⟩
          rw [HT1.out]
          go_wp2_with fail
          refine (total_any g2 st hst P2 a2 _ (h2.below hb)).mono ?_
          rintro e wr ⟨rfl, rfl⟩
          rw [HT2.out]
          go_wp2
          go_ret
          exact ⟨by simp, hb⟩

end Go.Proofs.Qxb6604712a
