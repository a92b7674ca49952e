/-
  Seat b6604712a: sendersSame, tallySame.
-/
import Derived.Test.Qxb6604712aRead3
namespace Go.Proofs.Qxb6604712a
open Go.RowKit
set_option linter.unusedSimpArgs false
set_option linter.unusedVariables false

/-- Two ids that are one: the model's own comparison says so. -/
theorem equalIn_ids {P : Program} (w : World) (d : Nat) (t e : TypeId) (n : Nat) (ht : P.underlying t = some (.array n e)) (he : P.underlying e = some (.int .u8)) (hsz : ∀ w, (sizeOf e).run P w = .ok 1 w) (xs : List Int) (hx : xs.length = n) :
    (Op.equalIn (d + 2) t (.agg (xs.map (Value.int .u8)).toArray) (.agg (xs.map (Value.int .u8)).toArray)).run P w = .ok true w := by
  rw [Op.equalIn]
  simp only [Sem.run_bind, run_underlying ht, Result.andThen_ok, hsz, Std.Legacy.Range.forIn_eq_forIn_range', Std.Legacy.Range.size, Nat.sub_zero, Nat.add_sub_cancel, Nat.div_one]
  have hl : ∀ i ∈ List.range' 0 n 1, i < n := fun i hi => by simpa using (List.mem_range'_1.1 hi).2
  generalize List.range' 0 n 1 = l at hl ⊢
  induction l with
  | nil => simp
  | cons i l ih =>
    have hi : i < n := hl i (by simp)
    have px : (Go.part e (xs.map (Value.int .u8)).toArray (i * 1)).run P w = .ok (.int .u8 (xs.getD i 0)) w := by
      simp [Go.part, isAgg, run_underlying he, List.getD, List.getElem?_eq_getElem (show i < xs.length by omega)]
    have pe : (Op.equalIn (d + 1) e (.int .u8 (xs.getD i 0)) (.int .u8 (xs.getD i 0))).run P w = .ok true w := by
      rw [run_equalIn_int w d e .u8 .u8 _ _ he]; simp
    simp only [List.forIn_cons, Sem.run_bind, px, pe, Result.andThen_ok]
    simp only [Bool.not_true, Bool.false_eq_true, if_false, Sem.run_pure, Result.andThen_ok]
    exact ih fun j hj => hl j (by simp [hj])
theorem eqIds53 (xs : List Int) (hx : xs.length = 32) (w : World) : (Op.equalIn 10000 53 (.agg (xs.map (Value.int .u8)).toArray) (.agg (xs.map (Value.int .u8)).toArray)).run Try.prog w = .ok true w :=
  equalIn_ids w 9998 53 5 32 Try.underlying53 Try.underlying5 (fun w => by kernel_rfl) xs hx
theorem eqIds40 (xs : List Int) (hx : xs.length = 32) (w : World) : (Op.equalIn 10000 40 (.agg (xs.map (Value.int .u8)).toArray) (.agg (xs.map (Value.int .u8)).toArray)).run Try.prog w = .ok true w :=
  equalIn_ids w 9998 40 5 32 Try.underlying40 Try.underlying5 (fun w => by kernel_rfl) xs hx
theorem guard53 : Try.prog.eqGuardType Try.prog.depth 53 = false := by kernel_rfl
theorem guard40 : Try.prog.eqGuardType Try.prog.depth 40 = false := by kernel_rfl

set_option maxHeartbeats 1000000 in
theorem sendersSame_any (g1 g2 : Nat) (P1 P2 : Nat → Prop) (a1 a2 : StD) (w : World) (h1 : IsS w P1 g1 a1) (h2 : IsS w P2 g2 a2) (hz1 : ∀ k (hk : k < a1.ws.length), a1.ws[k] = 0) (hz2 : a2.ws = []) (hl1 : a1.ws.length ≤ 1048576) :
    Calls Try.prog 58 #[.pointer (some ⟨g1, 0, none⟩), .pointer (some ⟨g2, 0, none⟩)] w fun e w' => e = .returned (.bool true) ∧ w' = w := by
  have H2 : Hid (a2.ws.length = 0) := by rw [hz2]; exact rfl
  have HZ : Hid (∀ k (hk : k < a1.ws.length), a1.ws[k] = 0) := hz1
  obtain ⟨n1, hn1⟩ : ∃ n, a1.ws.length = n := ⟨_, rfl⟩
  rw [hn1] at hl1
  have N1 : Hid (a1.ws.length = n1) := hn1
  clear hn1 hz1 hz2
  go_enter Try.func58, Try.ntmps58
  go_wp2_with fail
  refine (sendersLen_any g1 P1 a1 w h1).mono ?_
  rintro e w' ⟨rfl, rfl⟩
  rw [N1.out]
  go_wp2_with fail
  refine (sendersLen_any g2 P2 a2 w' h2).mono ?_
  rintro e w' ⟨rfl, rfl⟩
  rw [H2.out]
  go_wp2_with fail
  go_loop [8, 9, 10] (fun i _ _ => ∃ k : Nat, k ≤ n1 ∧ i = .int .i64 k) (fun i _ _ => n1 - (intOf i).toNat)
  case atStart => exact ⟨0, Nat.zero_le _, rfl⟩
  case round =>
    obtain ⟨k, hk, rfl⟩ := hrel
    by_cases hlt : k < n1
    · have hz := HZ.out k (by rw [N1.out]; exact hlt)
      go_wp2_with fail
      refine (sendersWord_any g1 P1 a1 k (by rw [N1.out]; exact hlt) _ h1).mono ?_
      rintro e w' ⟨rfl, rfl⟩
      rw [hz]
      clear hz
      go_wp2
      go_round
      case rel => exact ⟨k + 1, by omega, by go_num⟩
      case measure => simp [intOf]; omega
    · go_wp2
      go_ret
      exact ⟨rfl, rfl⟩

end Go.Proofs.Qxb6604712a
