/-
  Seat b6604712a: the bound on the lengths of function 18.
-/
import Derived.Test.Qxb6604712aHeldAt
namespace Go.Proofs.Qxb6604712a
open Go.RowKit
set_option linter.unusedSimpArgs false
set_option linter.unusedVariables false

set_option maxRecDepth 10000 in
set_option maxHeartbeats 8000000 in
theorem zz18 (vh v1 v2 : Value) (hs : List HrD) (vs us : List VoteD) (r f : Int) (w : World) (h : heldAt w vh hs) (h1 : votesAt w v1 vs) (h2 : votesAt w v2 us) :
    Calls Try.prog 18 #[vh, .int .i64 r, v1, v2, .int .i64 f] w fun e w' => RetBool True e ∧ w' = w := by
  obtain ⟨ah, ch, rfl, _, hmh, _⟩ := h.1
  obtain ⟨a1, c1, rfl, _, hm1, _⟩ := h1.1
  obtain ⟨a2, c2, rfl, _, hm2, _⟩ := h2.1
  have ZH : Hid (heldAt w (.slice ah hs.length ch) hs) := h
  have Z1 : Hid (votesAt w (.slice a1 vs.length c1) vs) := h1
  have Z2 : Hid (votesAt w (.slice a2 us.length c2) us) := h2
  clear h h1 h2
  generalize hs.length = l0 at *
  generalize vs.length = l1 at *
  generalize us.length = l2 at *
  go_enter Try.func18, Try.ntmps18
  go_wp2_with fail
  all_goals (try (go_ret; exact ⟨RetBool.no, rfl⟩))
  go_loop [11, 12] (fun n i => ∃ (k : Nat) (z : Int), k ≤ l0 ∧ i = .int .i64 k ∧ n = .int .i64 z ∧ 0 ≤ z ∧ z ≤ 1048576) (fun _ i => l0 - (intOf i).toNat)
  case atStart => exact ⟨0, _, Nat.zero_le _, rfl, rfl, by omega, by omega⟩
  case round =>
    obtain ⟨k, z, hk, rfl, rfl, hz0, hz1⟩ := hrel
    by_cases hlt : k < l0
    · obtain ⟨b, o, x, hab, hx, hok, hr⟩ := ZH.out.cellsAt k hlt
      cases hab
      have hlt' : (k : Int) < (l0 : Int) := by omega
      have hfi := hok.fit.1
      clear hx
      go_wp2_with fail
      go_loop [11, 13] (fun n i => ∃ (j : Nat) (y : Int), j ≤ 2 ∧ i = .int .i64 j ∧ n = .int .i64 y ∧ 0 ≤ y ∧ y ≤ 1048576) (fun _ i => 2 - (intOf i).toNat)
      case atStart => exact ⟨0, _, Nat.zero_le _, rfl, rfl, by omega, by omega⟩
      case round =>
        obtain ⟨j, y, hj, rfl, rfl, hy0, hy1⟩ := hrel
        clear hz0 hz1
        by_cases hj2 : j < 2
        · have hjj : j = 0 ∨ j = 1 := by omega
          rcases hjj with rfl | rfl
          · simp only [show ((0 : Nat) : Int) = 0 from rfl]
            have c33 := hr (1 + 33) _ (HrD.cells_v0 hfi 33 _ (VoteD.cells_33 hfi.1))
            have c34 := hr (1 + 34) _ (HrD.cells_v0 hfi 34 _ (VoteD.cells_34 hfi.1))
            obtain ⟨bs1, e1, cp1, he1, _, hm1, _⟩ := hok.1.2.1
            obtain ⟨bs2, e2, cp2, he2, _, hm2, _⟩ := hok.1.2.2
            generalize bs1.length = n1 at *
            generalize bs2.length = n2 at *
            rw [he1] at c33
            rw [he2] at c34
            have d33 : w.cell? ⟨b, o + k * 73 + 34, none⟩ = some (.slice e1 n1 cp1) := c33
            have d34 : w.cell? ⟨b, o + k * 73 + 35, none⟩ = some (.slice e2 n2 cp2) := c34
            clear he1 he2 c33 c34 hok hr hfi
            go_wp2_with fail
            all_goals first
              | (go_ret; exact ⟨RetBool.no, rfl⟩)
              | (go_round
                 case rel => exact ⟨1, _, by omega, by go_num, rfl, by omega, by omega⟩
                 case measure => simp [intOf])
          · simp only [show ((1 : Nat) : Int) = 1 from rfl]
            have c33 := hr (36 + 33) _ (HrD.cells_v1 hfi 33 _ (VoteD.cells_33 hfi.2))
            have c34 := hr (36 + 34) _ (HrD.cells_v1 hfi 34 _ (VoteD.cells_34 hfi.2))
            obtain ⟨bs1, e1, cp1, he1, _, hm1, _⟩ := hok.2.2.1
            obtain ⟨bs2, e2, cp2, he2, _, hm2, _⟩ := hok.2.2.2
            generalize bs1.length = n1 at *
            generalize bs2.length = n2 at *
            rw [he1] at c33
            rw [he2] at c34
            have d33 : w.cell? ⟨b, o + k * 73 + 69, none⟩ = some (.slice e1 n1 cp1) := c33
            have d34 : w.cell? ⟨b, o + k * 73 + 70, none⟩ = some (.slice e2 n2 cp2) := c34
            clear he1 he2 c33 c34 hok hr hfi
            go_wp2_with fail
            all_goals first
              | (go_ret; exact ⟨RetBool.no, rfl⟩)
              | (go_round
                 case rel => exact ⟨2, _, by omega, by go_num, rfl, by omega, by omega⟩
                 case measure => simp [intOf])
        · have hj3 : j = 2 := by omega
          subst hj3
          simp only [show ((2 : Nat) : Int) = 2 from rfl]
          clear hok hr hfi
          go_wp2_with fail
          all_goals first
            | (go_ret; exact ⟨RetBool.no, rfl⟩)
            | (go_round
               case rel => exact ⟨k + 1, _, by omega, by go_num, rfl, by omega, by omega⟩
               case measure => simp [intOf]; omega)
    · go_wp2_with fail
      all_goals clear hlt hk
      all_goals (try (go_ret; exact ⟨RetBool.no, rfl⟩))
      go_loop [11, 14] (fun n i => ∃ (k : Nat) (z : Int), k ≤ l1 ∧ i = .int .i64 k ∧ n = .int .i64 z ∧ 0 ≤ z ∧ z ≤ 1048576) (fun _ i => l1 - (intOf i).toNat)
      case atStart => exact ⟨0, _, Nat.zero_le _, rfl, rfl, by omega, by omega⟩
      case round =>
        obtain ⟨k, z, hk, rfl, rfl, hz0, hz1⟩ := hrel
        by_cases hlt : k < l1
        · obtain ⟨b, o, x, hab, hx, hok, hr⟩ := Z1.out.cellsAt k hlt
          cases hab
          have c33 := hr 33 _ (VoteD.cells_33 hok.1)
          have c34 := hr 34 _ (VoteD.cells_34 hok.1)
          obtain ⟨bs1, e1, cp1, he1, _, hm1, _⟩ := hok.2.1
          obtain ⟨bs2, e2, cp2, he2, _, hm2, _⟩ := hok.2.2
          generalize bs1.length = n1 at *
          generalize bs2.length = n2 at *
          rw [he1] at c33
          rw [he2] at c34
          have hlt' : (k : Int) < (l1 : Int) := by omega
          clear hx hok hr he1 he2
          go_wp2_with fail
          all_goals first
            | (go_ret; exact ⟨RetBool.no, rfl⟩)
            | (go_round
               case rel => exact ⟨k + 1, _, by omega, by go_num, rfl, by omega, by omega⟩
               case measure => simp [intOf]; omega)
        · go_wp2_with fail
          all_goals clear hlt hk
          all_goals (try (go_ret; exact ⟨RetBool.no, rfl⟩))
          go_loop [11, 15] (fun n i => ∃ (k : Nat) (z : Int), k ≤ l2 ∧ i = .int .i64 k ∧ n = .int .i64 z ∧ 0 ≤ z ∧ z ≤ 1048576) (fun _ i => l2 - (intOf i).toNat)
          case atStart => exact ⟨0, _, Nat.zero_le _, rfl, rfl, by omega, by omega⟩
          case round =>
            obtain ⟨k, z, hk, rfl, rfl, hz0, hz1⟩ := hrel
            by_cases hlt : k < l2
            · obtain ⟨b, o, x, hab, hx, hok, hr⟩ := Z2.out.cellsAt k hlt
              cases hab
              have c33 := hr 33 _ (VoteD.cells_33 hok.1)
              have c34 := hr 34 _ (VoteD.cells_34 hok.1)
              obtain ⟨bs1, e1, cp1, he1, _, hm1, _⟩ := hok.2.1
              obtain ⟨bs2, e2, cp2, he2, _, hm2, _⟩ := hok.2.2
              generalize bs1.length = n1 at *
              generalize bs2.length = n2 at *
              rw [he1] at c33
              rw [he2] at c34
              have hlt' : (k : Int) < (l2 : Int) := by omega
              clear hx hok hr he1 he2
              go_wp2_with fail
              all_goals first
                | (go_ret; exact ⟨RetBool.no, rfl⟩)
                | (go_round
                   case rel => exact ⟨k + 1, _, by omega, by go_num, rfl, by omega, by omega⟩
                   case measure => simp [intOf]; omega)
            · go_wp2_with fail
              all_goals clear hlt hk
              all_goals (try (go_ret; exact ⟨RetBool.no, rfl⟩))
              go_ret
              exact ⟨RetBool.yes trivial, rfl⟩

end Go.Proofs.Qxb6604712a
