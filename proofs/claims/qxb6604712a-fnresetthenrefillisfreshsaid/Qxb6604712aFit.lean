/-
  Seat b6604712a: refillListsFit, zzBytes_FnResetThenRefillIsFresh.
-/
import Derived.Test.Qxb6604712aLeaf
namespace Go.Proofs.Qxb6604712a
open Go.RowKit
set_option linter.unusedSimpArgs false
set_option linter.unusedVariables false

set_option maxRecDepth 10000 in
set_option maxHeartbeats 400000 in
theorem fit_any (cs : Array Value) (a1 a4 a10 a11 a12 a13 : Option Addr) (l1 l4 l10 l11 l12 l13 c1 c4 c10 c11 c12 c13 : Nat) (w : World)
    (h1 : cs[1]? = some (.slice a1 l1 c1)) (h4 : cs[35]? = some (.slice a4 l4 c4)) (h10 : cs[41]? = some (.slice a10 l10 c10)) (h11 : cs[42]? = some (.slice a11 l11 c11))
    (h12 : cs[43]? = some (.slice a12 l12 c12)) (h13 : cs[44]? = some (.slice a13 l13 c13)) :
    Calls Try.prog 28 #[.agg cs] w fun e w' => RetBool (l1 ≤ 65536 ∧ l4 ≤ 65536 ∧ l10 ≤ 65536 ∧ l11 ≤ 65536 ∧ l12 ≤ 65536 ∧ l13 ≤ 65536) e ∧ w' = w.alloc (.cells cs 59) := by
  go_enter Try.func28, Try.ntmps28
  go_wp2
  all_goals
    go_ret
    refine ⟨RetBool.of _ fun h => ?_, rfl⟩
    simp at h
    try omega

set_option maxRecDepth 10000 in
set_option maxHeartbeats 4000000 in
theorem zzBytesReset (r : Int) (cs ds : Array Value) (a1 a4 a10 a11 a12 a13 a15 : Option Addr) (l1 l4 l10 l11 l12 l13 l15 c1 c4 c10 c11 c12 c13 c15 : Nat)
    (b1 b4 b10 b11 b12 b13 : Option Addr) (m1 m4 m10 m11 m12 m13 d1 d4 d10 d11 d12 d13 : Nat) (vs1 vs2 us1 us2 : List VoteD) (w : World)
    (h1 : cs[1]? = some (.slice a1 l1 c1)) (h4 : cs[35]? = some (.slice a4 l4 c4)) (h10 : cs[41]? = some (.slice a10 l10 c10)) (h11 : cs[42]? = some (.slice a11 l11 c11))
    (h12 : cs[43]? = some (.slice a12 l12 c12)) (h13 : cs[44]? = some (.slice a13 l13 c13)) (h15 : cs[47]? = some (.slice a15 l15 c15))
    (k1 : ds[1]? = some (.slice b1 m1 d1)) (k4 : ds[35]? = some (.slice b4 m4 d4)) (k10 : ds[41]? = some (.slice b10 m10 d10)) (k11 : ds[42]? = some (.slice b11 m11 d11))
    (k12 : ds[43]? = some (.slice b12 m12 d12)) (k13 : ds[44]? = some (.slice b13 m13 d13))
    (z10 : votesAt w (.slice a10 l10 c10) vs1) (z11 : votesAt w (.slice a11 l11 c11) vs2) (y10 : votesAt w (.slice b10 m10 d10) us1) (y11 : votesAt w (.slice b11 m11 d11) us2) :
    Calls Try.prog 27 #[.int .i64 r, .agg cs, .agg ds] w fun e w' => RetBool True e ∧ w' = (w.alloc (.cells cs 62)).alloc (.cells ds 59) := by
  go_enter Try.func27, Try.ntmps27
  go_wp2
  all_goals (try (go_ret; exact ⟨RetBool.no, rfl⟩))
  go_loop [7, 8] (fun n i => ∃ (k : Nat) (z : Int), k ≤ l10 ∧ i = .int .i64 k ∧ n = .int .i64 z ∧ 0 ≤ z ∧ z ≤ 1048576) (fun _ i => l10 - (intOf i).toNat)
  case atStart => exact ⟨0, _, Nat.zero_le _, rfl, rfl, by omega, by omega⟩
  case round =>
    obtain ⟨k, z, hk, rfl, rfl, hz0, hz1⟩ := hrel
    by_cases hlt : k < l10
    · obtain ⟨b, o, x, rfl, hx, hok, hr⟩ := z10.cellsAt k hlt
      have c33 := hr 33 _ (VoteD.cells_33 hok.1)
      have c34 := hr 34 _ (VoteD.cells_34 hok.1)
      obtain ⟨bs1, e1, cp1, he1, _, hm1, _⟩ := hok.2.1
      obtain ⟨bs2, e2, cp2, he2, _, hm2, _⟩ := hok.2.2
      generalize bs1.length = n1 at *
      generalize bs2.length = n2 at *
      rw [he1] at c33
      rw [he2] at c34
      have c33' := cell_alloc2 c33 (.cells cs 62) (.cells ds 59)
      have c34' := cell_alloc2 c34 (.cells cs 62) (.cells ds 59)
      have hlt' : (k : Int) < (l10 : Int) := by omega
      clear hx hok hr he1 he2
      go_wp2
      all_goals first
        | (go_ret; exact ⟨RetBool.no, rfl⟩)
        | (go_round
           case rel => exact ⟨k + 1, _, by omega, by go_num, rfl, by omega, by omega⟩
           case measure => simp [intOf]; omega)
    · go_wp2
      all_goals clear hlt hk
      all_goals (try (go_ret; exact ⟨RetBool.no, rfl⟩))
      go_loop [7, 9] (fun n i => ∃ (k : Nat) (z : Int), k ≤ l11 ∧ i = .int .i64 k ∧ n = .int .i64 z ∧ 0 ≤ z ∧ z ≤ 1048576) (fun _ i => l11 - (intOf i).toNat)
      case atStart => exact ⟨0, _, Nat.zero_le _, rfl, rfl, by omega, by omega⟩
      case round =>
        obtain ⟨k, z, hk, rfl, rfl, hz0, hz1⟩ := hrel
        by_cases hlt : k < l11
        · obtain ⟨b, o, x, rfl, hx, hok, hr⟩ := z11.cellsAt k hlt
          have c33 := hr 33 _ (VoteD.cells_33 hok.1)
          have c34 := hr 34 _ (VoteD.cells_34 hok.1)
          obtain ⟨bs1, e1, cp1, he1, _, hm1, _⟩ := hok.2.1
          obtain ⟨bs2, e2, cp2, he2, _, hm2, _⟩ := hok.2.2
          generalize bs1.length = n1 at *
          generalize bs2.length = n2 at *
          rw [he1] at c33
          rw [he2] at c34
          have c33' := cell_alloc2 c33 (.cells cs 62) (.cells ds 59)
          have c34' := cell_alloc2 c34 (.cells cs 62) (.cells ds 59)
          have hlt' : (k : Int) < (l11 : Int) := by omega
          clear hx hok hr he1 he2
          go_wp2
          all_goals first
            | (go_ret; exact ⟨RetBool.no, rfl⟩)
            | (go_round
               case rel => exact ⟨k + 1, _, by omega, by go_num, rfl, by omega, by omega⟩
               case measure => simp [intOf]; omega)
        · go_wp2
          all_goals clear hlt hk
          all_goals (try (go_ret; exact ⟨RetBool.no, rfl⟩))
          go_loop [7, 10] (fun n i => ∃ (k : Nat) (z : Int), k ≤ l12 ∧ i = .int .i64 k ∧ n = .int .i64 z ∧ 0 ≤ z ∧ z ≤ 1048576) (fun _ i => l12 - (intOf i).toNat)
          case atStart => exact ⟨0, _, Nat.zero_le _, rfl, rfl, by omega, by omega⟩
          case round =>
            obtain ⟨k, z, hk, rfl, rfl, hz0, hz1⟩ := hrel
            by_cases hlt : k < l12
            · go_wp2
              all_goals first
                | (go_ret; exact ⟨RetBool.no, rfl⟩)
                | (go_round
                   case rel => exact ⟨k + 1, _, by omega, by go_num, rfl, by omega, by omega⟩
                   case measure => simp [intOf]; omega)
            · go_wp2
              all_goals clear hlt hk
              all_goals (try (go_ret; exact ⟨RetBool.no, rfl⟩))
              go_loop [7, 11] (fun n i => ∃ (k : Nat) (z : Int), k ≤ l13 ∧ i = .int .i64 k ∧ n = .int .i64 z ∧ 0 ≤ z ∧ z ≤ 1048576) (fun _ i => l13 - (intOf i).toNat)
              case atStart => exact ⟨0, _, Nat.zero_le _, rfl, rfl, by omega, by omega⟩
              case round =>
                obtain ⟨k, z, hk, rfl, rfl, hz0, hz1⟩ := hrel
                by_cases hlt : k < l13
                · go_wp2
                  all_goals first
                    | (go_ret; exact ⟨RetBool.no, rfl⟩)
                    | (go_round
                       case rel => exact ⟨k + 1, _, by omega, by go_num, rfl, by omega, by omega⟩
                       case measure => simp [intOf]; omega)
                · go_wp2
                  all_goals clear hlt hk
                  all_goals (try (go_ret; exact ⟨RetBool.no, rfl⟩))
                  go_loop [7, 12] (fun n i => ∃ (k : Nat) (z : Int), k ≤ m10 ∧ i = .int .i64 k ∧ n = .int .i64 z ∧ 0 ≤ z ∧ z ≤ 1048576) (fun _ i => m10 - (intOf i).toNat)
                  case atStart => exact ⟨0, _, Nat.zero_le _, rfl, rfl, by omega, by omega⟩
                  case round =>
                    obtain ⟨k, z, hk, rfl, rfl, hz0, hz1⟩ := hrel
                    by_cases hlt : k < m10
                    · obtain ⟨b, o, x, rfl, hx, hok, hr⟩ := y10.cellsAt k hlt
                      have c33 := hr 33 _ (VoteD.cells_33 hok.1)
                      have c34 := hr 34 _ (VoteD.cells_34 hok.1)
                      obtain ⟨bs1, e1, cp1, he1, _, hm1, _⟩ := hok.2.1
                      obtain ⟨bs2, e2, cp2, he2, _, hm2, _⟩ := hok.2.2
                      generalize bs1.length = n1 at *
                      generalize bs2.length = n2 at *
                      rw [he1] at c33
                      rw [he2] at c34
                      have c33' := cell_alloc2 c33 (.cells cs 62) (.cells ds 59)
                      have c34' := cell_alloc2 c34 (.cells cs 62) (.cells ds 59)
                      have hlt' : (k : Int) < (m10 : Int) := by omega
                      clear hx hok hr he1 he2
                      go_wp2
                      all_goals first
                        | (go_ret; exact ⟨RetBool.no, rfl⟩)
                        | (go_round
                           case rel => exact ⟨k + 1, _, by omega, by go_num, rfl, by omega, by omega⟩
                           case measure => simp [intOf]; omega)
                    · go_wp2
                      all_goals clear hlt hk
                      all_goals (try (go_ret; exact ⟨RetBool.no, rfl⟩))
                      go_loop [7, 13] (fun n i => ∃ (k : Nat) (z : Int), k ≤ m11 ∧ i = .int .i64 k ∧ n = .int .i64 z ∧ 0 ≤ z ∧ z ≤ 1048576) (fun _ i => m11 - (intOf i).toNat)
                      case atStart => exact ⟨0, _, Nat.zero_le _, rfl, rfl, by omega, by omega⟩
                      case round =>
                        obtain ⟨k, z, hk, rfl, rfl, hz0, hz1⟩ := hrel
                        by_cases hlt : k < m11
                        · obtain ⟨b, o, x, rfl, hx, hok, hr⟩ := y11.cellsAt k hlt
                          have c33 := hr 33 _ (VoteD.cells_33 hok.1)
                          have c34 := hr 34 _ (VoteD.cells_34 hok.1)
                          obtain ⟨bs1, e1, cp1, he1, _, hm1, _⟩ := hok.2.1
                          obtain ⟨bs2, e2, cp2, he2, _, hm2, _⟩ := hok.2.2
                          generalize bs1.length = n1 at *
                          generalize bs2.length = n2 at *
                          rw [he1] at c33
                          rw [he2] at c34
                          have c33' := cell_alloc2 c33 (.cells cs 62) (.cells ds 59)
                          have c34' := cell_alloc2 c34 (.cells cs 62) (.cells ds 59)
                          have hlt' : (k : Int) < (m11 : Int) := by omega
                          clear hx hok hr he1 he2
                          go_wp2
                          all_goals first
                            | (go_ret; exact ⟨RetBool.no, rfl⟩)
                            | (go_round
                               case rel => exact ⟨k + 1, _, by omega, by go_num, rfl, by omega, by omega⟩
                               case measure => simp [intOf]; omega)
                        · go_wp2
                          all_goals clear hlt hk
                          all_goals (try (go_ret; exact ⟨RetBool.no, rfl⟩))
                          go_loop [7, 14] (fun n i => ∃ (k : Nat) (z : Int), k ≤ m12 ∧ i = .int .i64 k ∧ n = .int .i64 z ∧ 0 ≤ z ∧ z ≤ 1048576) (fun _ i => m12 - (intOf i).toNat)
                          case atStart => exact ⟨0, _, Nat.zero_le _, rfl, rfl, by omega, by omega⟩
                          case round =>
                            obtain ⟨k, z, hk, rfl, rfl, hz0, hz1⟩ := hrel
                            by_cases hlt : k < m12
                            · go_wp2
                              all_goals first
                                | (go_ret; exact ⟨RetBool.no, rfl⟩)
                                | (go_round
                                   case rel => exact ⟨k + 1, _, by omega, by go_num, rfl, by omega, by omega⟩
                                   case measure => simp [intOf]; omega)
                            · go_wp2
                              all_goals clear hlt hk
                              all_goals (try (go_ret; exact ⟨RetBool.no, rfl⟩))
                              go_loop [7, 15] (fun n i => ∃ (k : Nat) (z : Int), k ≤ m13 ∧ i = .int .i64 k ∧ n = .int .i64 z ∧ 0 ≤ z ∧ z ≤ 1048576) (fun _ i => m13 - (intOf i).toNat)
                              case atStart => exact ⟨0, _, Nat.zero_le _, rfl, rfl, by omega, by omega⟩
                              case round =>
                                obtain ⟨k, z, hk, rfl, rfl, hz0, hz1⟩ := hrel
                                by_cases hlt : k < m13
                                · go_wp2
                                  all_goals first
                                    | (go_ret; exact ⟨RetBool.no, rfl⟩)
                                    | (go_round
                                       case rel => exact ⟨k + 1, _, by omega, by go_num, rfl, by omega, by omega⟩
                                       case measure => simp [intOf]; omega)
                                · go_wp2
                                  all_goals clear hlt hk
                                  all_goals (go_ret; first | exact ⟨RetBool.no, rfl⟩ | exact ⟨RetBool.yes trivial, rfl⟩)

end Go.Proofs.Qxb6604712a
