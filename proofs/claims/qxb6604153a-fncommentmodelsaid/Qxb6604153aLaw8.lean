/-
  Seat b6604153a: the walk of the law.
-/
import Derived.Test.Qxb6604153aWalk
namespace Go.Proofs.Qxb6604153a
open Go.RowKit
set_option linter.unusedSimpArgs false
set_option linter.unusedVariables false

set_option maxHeartbeats 2000000 in
theorem law8_any (s : ByteArray) (b : Bool) (w : World) (hs : s.size ≤ maxLen) :
    Calls Try.prog 5 #[.string s, .bool b] w fun e w' => e = .returned (.bool true) ∧ Below w.heap.size w w' := by
  have hm : s.size ≤ 9223372036854775807 := by unfold maxLen at hs; omega
  clear hs
  go_enter Try.func5, Try.ntmps5
  go_wp2_with fail
  refine (zzBytes_any s b w hm).mono ?_
  rintro e w ⟨rfl, rfl⟩
  rcases Nat.lt_or_ge 1048576 s.size with h1 | h1
  · rw [decide_eq_false (show ¬ s.size ≤ 1048576 by omega)]
    go_wp2_with fail
    go_ret
    exact ⟨rfl, Below.refl _ _⟩
  rw [decide_eq_true h1]
  rcases Nat.lt_or_ge 65536 s.size with h2 | h2
  · go_wp2_with fail
    go_ret
    exact ⟨rfl, Below.refl _ _⟩
  go_wp2_with fail
  refine (zz_any s b w h2).mono ?_
  rintro e w1 ⟨rfl, hb⟩
  by_cases hf : (b || !opens s) = true
  · have hF : found s b = none := by unfold found; rw [if_pos hf]
    rw [hF]
    simp only [rest, Option.isSome]
    have HF : Hid ((b || !opens s) = true) := hid hf
    clear hf hF
    cases b with
    | true =>
      go_wp2_with fail
      go_ret
      exact ⟨by simp, hb⟩
    | false =>
      have ho : opens s = false := by simpa using HF.out
      by_cases h0 : 0 < s.size
      · have hc : s[0].toNat ≠ 40 := by
          intro h
          rw [opens, decide_eq_true ⟨h0, h⟩] at ho
          cases ho
        have h0' : (0 : Int) < (s.size : Int) := by omega
        have hcc : ((s[0].toNat : Int) == 40) = false := by
          apply beq_false_of_ne; omega
        clear hc ho HF
        go_wp2_with fail
        go_ret
        exact ⟨by simp, hb⟩
      · clear ho HF
        go_wp2_with fail
        go_ret
        exact ⟨by simp, hb⟩
  · have hF : found s b = sc s 1 1 := by unfold found; rw [if_neg hf]
    rw [hF]
    have hbf : b = false := by revert hf; cases b <;> simp
    have ho : opens s = true := by revert hf; cases opens s <;> simp
    subst hbf
    obtain ⟨h0, hc⟩ : ∃ h : 0 < s.size, s[0].toNat = 40 := by simpa [opens] using ho
    have h0' : (0 : Int) < (s.size : Int) := by omega
    have hcc : ((s[0].toNat : Int) == 40) = true := by rw [hc]; rfl
    have hcl := fun W => close_any s h2 s.size 0 W (by omega) h0
    have hbound := fun k => sc_bound s s.size 1 1 k (by omega)
    simp only [Nat.zero_add, Int.natCast_zero] at hcl
    obtain ⟨R, hR⟩ : ∃ R, sc s 1 1 = R := ⟨_, rfl⟩
    rw [hR] at hcl hbound ⊢
    clear hR hc ho hF hf
    have HB : Hid (∀ k, R = some k → 1 < k ∧ k ≤ s.size) := hid hbound
    clear hbound
    go_wp2_with fail
    refine (hcl _).mono ?_
    rintro e w1 ⟨rfl, rfl⟩
    clear hcl
    cases R with
    | none =>
      simp only [rest, Option.isSome, ans]
      go_wp2_with fail
      go_ret
      exact ⟨by simp, hb⟩
    | some k =>
      obtain ⟨k1, k2⟩ := HB.out k rfl
      clear HB
      simp only [rest, Option.isSome, ans]
      have k2' : (k : Int) ≤ (s.size : Int) := by omega
      go_wp2_with fail
      go_ret
      exact ⟨by simp, hb⟩
end Go.Proofs.Qxb6604153a
