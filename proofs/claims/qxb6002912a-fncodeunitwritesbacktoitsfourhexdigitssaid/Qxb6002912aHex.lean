/-
  Seat b6002912a: isHexDigit, lowerHexDigit, zzBytes of the code unit's law.
-/
import Derived.Test.Qxb6002912aBase
namespace Go.Proofs.Qxb6002912a
open Go.RowKit
set_option linter.unusedSimpArgs false
set_option linter.unusedVariables false

def isHex (c : Int) : Prop := (48 ≤ c ∧ c ≤ 57) ∨ (97 ≤ c ∧ c ≤ 102) ∨ (65 ≤ c ∧ c ≤ 70)
/-- A hex digit's worth. -/
def hexV (c : Int) : Nat := if c ≤ 57 then (c - 48).toNat else if c ≤ 70 then (c - 55).toNat else (c - 87).toNat
theorem hexV_lt {c : Int} (h : isHex c) : hexV c < 16 := by
  unfold hexV
  rcases h with h | h | h
  · rw [if_pos h.2]; omega
  · rw [if_neg (by omega), if_neg (by omega)]; omega
  · rw [if_neg (by omega), if_pos h.2]; omega

set_option maxHeartbeats 400000 in
theorem isHex_any (c : Int) (w : World) (h0 : 0 ≤ c) (h1 : c ≤ 255) : Calls Try.prog 7 #[.int .u8 c] w fun e w' => RetBool (isHex c) e ∧ w' = w := by
  go_enter Try.func7, Try.ntmps7
  go_wp2
  all_goals
    go_ret
    refine ⟨RetBool.of _ fun h => ?_, rfl⟩
    unfold isHex
    simp at h <;> omega

set_option maxHeartbeats 400000 in
theorem bytes6 (a : Option Addr) (l c : Nat) (w : World) : Calls Try.prog 6 #[.slice a l c] w fun e w' => RetBool True e ∧ w' = w := by
  go_enter Try.func6, Try.ntmps6
  go_wp2
  all_goals
    go_ret
    exact ⟨⟨_, rfl, fun _ => trivial⟩, rfl⟩

def low (c : Int) : Int := if 65 ≤ c ∧ c ≤ 70 then c + 32 else c
set_option maxHeartbeats 400000 in
theorem lower_any (c : Int) (w : World) (h0 : 0 ≤ c) (h1 : c ≤ 255) : Calls Try.prog 9 #[.int .u8 c] w fun e w' => e = .returned (.int .u8 (low c)) ∧ w' = w := by
  by_cases h : 65 ≤ c ∧ c ≤ 70
  · have hl : low c = c + 32 := by unfold low; rw [if_pos h]
    rw [hl]
    obtain ⟨q1, q2⟩ := h
    clear hl
    go_enter Try.func9, Try.ntmps9
    go_wp2
    go_ret
    exact ⟨rfl, rfl⟩
  · have hl : low c = c := by unfold low; rw [if_neg h]
    rw [hl]
    clear hl
    by_cases q1 : 65 ≤ c
    · have q2 : ¬ c ≤ 70 := fun e => h ⟨q1, e⟩
      clear h
      go_enter Try.func9, Try.ntmps9
      go_wp2
      go_ret
      exact ⟨rfl, rfl⟩
    · clear h
      go_enter Try.func9, Try.ntmps9
      go_wp2
      go_ret
      exact ⟨rfl, rfl⟩

end Go.Proofs.Qxb6002912a
