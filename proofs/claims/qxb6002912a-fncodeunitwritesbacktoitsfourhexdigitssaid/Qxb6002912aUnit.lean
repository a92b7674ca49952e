/-
  Seat b6002912a: codeUnit.
-/
import Derived.Test.Qxb6002912aHex
namespace Go.Proofs.Qxb6002912a
open Go.RowKit
set_option linter.unusedSimpArgs false
set_option linter.unusedVariables false

def bytesAt' (w : World) (v : Value) (bs : List Int) : Prop := sliceAt w 1 v bs.length (bs.map (Value.int .u8))

theorem or16 (r d : Nat) (hr : r < 4096) (hd : d < 16) : bits BinOp.or IntKind.i32 ((r * 16 : Nat) : Int) (d : Int) = ((r * 16 + d : Nat) : Int) := by
  have e : (r * 16) ||| d = r * 16 + d := by
    have := Nat.shiftLeft_add_eq_or_of_lt (show d < 2 ^ 4 by omega) r
    rw [Nat.shiftLeft_eq] at this
    exact this.symm
  rw [← e]
  have h1 : r * 16 < 4294967296 := by omega
  have h2 : d < 4294967296 := by omega
  have a1 : (BitVec.ofInt 32 ((r * 16 : Nat) : Int)) = BitVec.ofNat 32 (r * 16) := BitVec.ofInt_natCast _ _
  have a2 : (BitVec.ofInt 32 ((d : Nat) : Int)) = BitVec.ofNat 32 d := BitVec.ofInt_natCast _ _
  show IntKind.i32.wrap (((BitVec.ofInt 32 ((r * 16 : Nat) : Int)) ||| (BitVec.ofInt 32 ((d : Nat) : Int))).toNat : Int) = _
  rw [a1, a2, BitVec.toNat_or, BitVec.toNat_ofNat, BitVec.toNat_ofNat, Nat.mod_eq_of_lt h1, Nat.mod_eq_of_lt h2, e, IntKind.wrap_i32]
  omega

def val (bs : List Int) : Nat → Nat
  | 0 => 0
  | k + 1 => val bs k * 16 + hexV ((bs[k]?).getD 48)
theorem val_lt {bs : List Int} (hx : ∀ i (hi : i < bs.length), i < 4 → isHex bs[i]) (hl : 4 ≤ bs.length) : ∀ k, k ≤ 4 → val bs k < 16 ^ k
  | 0, _ => by simp [val]
  | k + 1, hk => by
    have ih := val_lt hx hl k (by omega)
    have hd := hexV_lt (hx k (by omega) (by omega))
    unfold val
    rw [List.getElem?_eq_getElem (by omega), Option.getD_some, Nat.pow_succ]
    omega
def URel (bs : List Int) (w : World) (r i : Value) (wr : World) : Prop := ∃ k : Nat, k ≤ 4 ∧ i = .int .i64 k ∧ r = .int .i32 (val bs k) ∧ w = wr

set_option maxHeartbeats 1000000 in
theorem unit_any (g o cap : Nat) (bs : List Int) (w : World) (h : w.rangeAt g o (bs.map (Value.int .u8))) (hl : 4 ≤ bs.length) (hlc : bs.length ≤ cap) (hm : cap ≤ 9223372036854775807) (hx : ∀ i (hi : i < bs.length), i < 4 → isHex bs[i]) :
    Calls Try.prog 16 #[.slice (some ⟨g, o, none⟩) bs.length cap] w fun e w' => e = .returned (.int .i32 (val bs 4)) ∧ w' = w := by
  have hc4 : (4 : Int) ≤ (cap : Int) := by omega
  obtain ⟨V, hV⟩ : ∃ V, val bs 4 = V := ⟨_, rfl⟩
  rw [hV]
  have HX : Hid (∀ i (hi : i < bs.length), i < 4 → isHex bs[i]) := hx
  clear hx
  go_enter Try.func16, Try.ntmps16
  go_wp2
  go_loopw [3, 9] (fun r i wr => URel bs w r i wr) (fun _ i _ => 4 - (intOf i).toNat)
  case atStart => exact ⟨0, by omega, rfl, rfl, rfl⟩
  case round =>
    obtain ⟨k, hk, rfl, rfl, rfl⟩ := hrel
    by_cases hlt : k < 4
    · have hck : w.cell? ⟨g, o + k, none⟩ = some (.int .u8 (bs[k]'(by omega))) := h k _ (by simp)
      have hvl := val_lt HX.out hl k hk
      have hxk := HX.out k (by omega) hlt
      have hd := hexV_lt hxk
      have hnext : val bs (k + 1) = val bs k * 16 + hexV (bs[k]'(by omega)) := by
        show val bs k * 16 + hexV ((bs[k]?).getD 48) = _
        rw [List.getElem?_eq_getElem (by omega), Option.getD_some]
      have hp : (16 : Nat) ^ k ≤ 16 ^ 3 := Nat.pow_le_pow_right (by omega) (by omega)
      have hor := or16 (val bs k) (hexV (bs[k]'(by omega))) (by omega) hd
      obtain ⟨c, hc⟩ : ∃ c, bs[k]'(by omega) = c := ⟨_, rfl⟩
      obtain ⟨r, hr⟩ : ∃ r, val bs k = r := ⟨_, rfl⟩
      rw [hc] at hck hxk hd hnext hor
      rw [hr] at hnext hor hvl ⊢
      have HN : Hid (val bs (k + 1) = r * 16 + hexV c) := hnext
      have HOR : Hid (bits BinOp.or IntKind.i32 ((r * 16 : Nat) : Int) (hexV c : Int) = ((r * 16 + hexV c : Nat) : Int)) := hor
      have hr4 : r < 4096 := by omega
      clear hnext hor hc hr hvl hp
      have hlt' : (k : Int) < 4 := by omega
      rcases hxk with q | q | q
      · obtain ⟨q1, q2⟩ := q
        go_wp2
        have e1 : c - 48 = (hexV c : Int) := by unfold hexV; rw [if_pos q2]; omega
        go_roundw
        case rel => exact ⟨k + 1, by omega, by go_num, by rw [e1, HN.out]; exact congrArg (Value.int .i32) HOR.out, rfl⟩
        case measure => simp [intOf]; omega
      · obtain ⟨q1, q2⟩ := q
        have q3 : ¬ c ≤ 57 := by omega
        have q4 : ¬ c ≤ 70 := by omega
        go_wp2
        have e1 : c - 97 + 10 = (hexV c : Int) := by unfold hexV; rw [if_neg q3, if_neg q4]; omega
        go_roundw
        case rel => exact ⟨k + 1, by omega, by go_num, by rw [e1, HN.out]; exact congrArg (Value.int .i32) HOR.out, rfl⟩
        case measure => simp [intOf]; omega
      · obtain ⟨q1, q2⟩ := q
        have q3 : ¬ c ≤ 57 := by omega
        go_wp2
        have e1 : c - 65 + 10 = (hexV c : Int) := by unfold hexV; rw [if_neg q3, if_pos q2]; omega
        go_roundw
        case rel => exact ⟨k + 1, by omega, by go_num, by rw [e1, HN.out]; exact congrArg (Value.int .i32) HOR.out, rfl⟩
        case measure => simp [intOf]; omega
    · have hke : k = 4 := by omega
      subst hke
      rw [hV]
      go_wp2
      go_ret
      exact ⟨rfl, rfl⟩

end Go.Proofs.Qxb6002912a
