/-
  Seat b6002912a: the digits of a code unit. No Go here (but for ZZcodeUnit).
-/
import Derived.Test.Qxb6002912aUnit
namespace Go.Proofs.Qxb6002912a
open Go.RowKit
set_option linter.unusedSimpArgs false
set_option linter.unusedVariables false

theorem val4 {bs : List Int} (hl : 4 ≤ bs.length) : val bs 4 = ((hexV bs[0] * 16 + hexV bs[1]) * 16 + hexV bs[2]) * 16 + hexV bs[3] := by
  simp only [val]
  rw [List.getElem?_eq_getElem (by omega), List.getElem?_eq_getElem (by omega), List.getElem?_eq_getElem (by omega), List.getElem?_eq_getElem (by omega)]
  simp
theorem val_digit {bs : List Int} (hl : 4 ≤ bs.length) (hx : ∀ i (hi : i < bs.length), i < 4 → isHex bs[i]) {k : Nat} (hk : k < 4) : val bs 4 / 2 ^ (12 - 4 * k) % 16 = hexV (bs[k]'(by omega)) := by
  have a0 := hexV_lt (hx 0 (by omega) (by omega))
  have a1 := hexV_lt (hx 1 (by omega) (by omega))
  have a2 := hexV_lt (hx 2 (by omega) (by omega))
  have a3 := hexV_lt (hx 3 (by omega) (by omega))
  rw [val4 hl]
  match k, hk with
  | 0, _ => simp only [Nat.mul_zero, Nat.sub_zero]; omega
  | 1, _ => simp only [Nat.mul_one]; omega
  | 2, _ => show _ / 2 ^ 4 % 16 = _; omega
  | 3, _ => show _ / 2 ^ 0 % 16 = _; omega

def hexB (n : Nat) : Int := (([48, 49, 50, 51, 52, 53, 54, 55, 56, 57, 97, 98, 99, 100, 101, 102] : List Int)[n]?).getD 0
theorem hexB_lo (n : Nat) (h : n < 10) : hexB n = 48 + n := by
  match n, h with
  | 0, _ | 1, _ | 2, _ | 3, _ | 4, _ | 5, _ | 6, _ | 7, _ | 8, _ | 9, _ => rfl
  | k + 10, h => omega
theorem hexB_hi (n : Nat) (h0 : 10 ≤ n) (h : n < 16) : hexB n = 87 + n := by
  match n, h0, h with
  | 10, _, _ | 11, _, _ | 12, _, _ | 13, _, _ | 14, _, _ | 15, _, _ => rfl
  | k + 16, _, h => omega
theorem low_hex {c : Int} (h : isHex c) : low c = hexB (hexV c) := by
  have hv := hexV_lt h
  unfold low
  rcases h with h | h | h
  · have e : (hexV c : Int) = c - 48 := by unfold hexV; rw [if_pos h.2]; omega
    rw [if_neg (by omega), hexB_lo _ (by omega)]; omega
  · have e : (hexV c : Int) = c - 87 := by unfold hexV; rw [if_neg (by omega), if_neg (by omega)]; omega
    rw [if_neg (by omega), hexB_hi _ (by omega) hv]; omega
  · have e : (hexV c : Int) = c - 55 := by unfold hexV; rw [if_neg (by omega), if_pos h.2]; omega
    rw [if_pos h, hexB_hi _ (by omega) hv]; omega

end Go.Proofs.Qxb6002912a
