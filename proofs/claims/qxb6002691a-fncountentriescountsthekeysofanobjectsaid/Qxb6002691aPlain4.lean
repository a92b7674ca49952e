/-
  Seat b6002691a: what the scan finds in an escaped text. No Go here.
-/
import Derived.Test.Qxb6002691aEsc
namespace Go.Proofs.Qxb6002691a
open Go.RowKit
set_option linter.unusedSimpArgs false
set_option linter.unusedVariables false

def need (c : Int) : Bool := c == 34 || c == 92 || decide (c < 32)

theorem hexB_ok (n : Nat) (h : n < 16) : hexB n ≠ 34 ∧ hexB n ≠ 92 ∧ ¬ hexB n < 32 := by
  match n, h with
  | 0, _ | 1, _ | 2, _ | 3, _ | 4, _ | 5, _ | 6, _ | 7, _ | 8, _ | 9, _ | 10, _ | 11, _ | 12, _ | 13, _ | 14, _ | 15, _ => decide
  | k + 16, h => omega

theorem skp_esc (t : List Int) : ∀ (bs : List Int) (e : Bool) (p : Nat), (∀ c ∈ bs, 0 ≤ c ∧ c ≤ 255) → skp (bs.flatMap esc1 ++ 34 :: t) e p = (e || bs.any need, true, p + (bs.flatMap esc1).length + 1)
  | [], e, p, _ => by simp [skp_quote]
  | c :: bs, e, p, h => by
    have hc := h c (by simp)
    have ih := fun e p => skp_esc t bs e p (fun x hx => h x (by simp [hx]))
    rw [List.flatMap_cons, List.append_assoc]
    by_cases h1 : c = 34 ∨ c = 92
    · have he : esc1 c = [92, c] := by unfold esc1; rw [if_pos h1]
      have hn : need c = true := by unfold need; rcases h1 with rfl | rfl <;> decide
      rw [he]
      show skp (92 :: c :: (bs.flatMap esc1 ++ 34 :: t)) e p = _
      rw [skp_back, ih]
      simp [hn]; omega
    · by_cases h2 : c < 32
      · have he : esc1 c = [92, 117, 48, 48, hexB (c / 16).toNat, hexB (c % 16).toNat] := by unfold esc1; rw [if_neg h1, if_pos h2]
        have hn : need c = true := by simp [need, h2]
        have q1 := hexB_ok (c / 16).toNat (by omega)
        have q2 := hexB_ok (c % 16).toNat (by omega)
        rw [he]
        show skp (92 :: 117 :: 48 :: 48 :: hexB (c / 16).toNat :: hexB (c % 16).toNat :: (bs.flatMap esc1 ++ 34 :: t)) e p = _
        rw [skp_back, skp_plain 48 _ _ _ (by decide) (by decide) (by decide), skp_plain 48 _ _ _ (by decide) (by decide) (by decide), skp_plain _ _ _ _ q1.1 q1.2.1 q1.2.2, skp_plain _ _ _ _ q2.1 q2.2.1 q2.2.2, ih]
        simp [hn]; omega
      · have he : esc1 c = [c] := by unfold esc1; rw [if_neg h1, if_neg h2]
        have hn : need c = false := by
          unfold need
          have a1 : c ≠ 34 := fun h => h1 (.inl h)
          have a2 : c ≠ 92 := fun h => h1 (.inr h)
          simp [a1, a2]; omega
        rw [he]
        show skp (c :: (bs.flatMap esc1 ++ 34 :: t)) e p = _
        rw [skp_plain c _ _ _ (fun h => h1 (.inl h)) (fun h => h1 (.inr h)) h2, ih]
        simp [hn]; omega

theorem at_esc (t bs : List Int) (h : ∀ c ∈ bs, 0 ≤ c ∧ c ≤ 255) : at' (([34] ++ bs.flatMap esc1) ++ [34] ++ t) 1 false = (bs.any need, true, ([34] ++ bs.flatMap esc1).length + 1) := by
  unfold at'
  have e : List.drop 1 (([34] ++ bs.flatMap esc1) ++ [34] ++ t) = bs.flatMap esc1 ++ 34 :: t := by simp
  rw [e, Nat.min_eq_left (by simp), skp_esc t bs false 1 h]
  simp; omega

end Go.Proofs.Qxb6002691a
