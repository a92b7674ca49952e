/-
  Seat b6002912a: FnCodeUnitWritesBackToItsFourHexDigits answers true: the walk.
-/
import Derived.Test.Qxb6002912aLaw7
import Derived.Deep.RegionHeld3
namespace Go.Proofs.Qxb6002912a
open Go.RowKit
set_option linter.unusedSimpArgs false
set_option linter.unusedVariables false

def HRel (bs : List Int) (w : World) (i : Value) (wr : World) : Prop := ∃ k : Nat, k ≤ 4 ∧ i = .int .i64 k ∧ (∀ j (hj : j < bs.length), j < k → isHex bs[j]) ∧ w = wr
def DRel (w : World) (i : Value) (wr : World) : Prop := ∃ k : Nat, k ≤ 4 ∧ i = .int .i64 k ∧ ∃ n, w.drewN n = wr

theorem hex_eq (n : Nat) (h : n < 16) : ((((⟨#[48, 49, 50, 51, 52, 53, 54, 55, 56, 57, 97, 98, 99, 100, 101, 102]⟩ : ByteArray)[n]'h).toNat : Nat) : Int) = hexB n := by
  match n, h with
  | 0, _ | 1, _ | 2, _ | 3, _ | 4, _ | 5, _ | 6, _ | 7, _ | 8, _ | 9, _ | 10, _ | 11, _ | 12, _ | 13, _ | 14, _ | 15, _ => rfl
  | k + 16, h => omega
theorem and15 (x : Int) (h0 : 0 ≤ x) (h1 : x < 2147483648) : bits BinOp.and IntKind.i32 x 15 = x % 16 :=
  bits_mask .i32 31 (by decide) (fun n h0 h1 => by rw [IntKind.wrap_i32]; omega) 4 (by decide) x h0 (by omega)

set_option maxRecDepth 10000 in
set_option maxHeartbeats 2000000 in
theorem law7_any (a : Option Addr) (cap : Nat) (bs : List Int) (w : World) (h : bytesAt w (.slice a bs.length cap) bs) (hr : ∀ c ∈ bs, 0 ≤ c ∧ c ≤ 255) :
    Calls Try.prog 3 #[.slice a bs.length cap] w fun e w' => e = .returned (.bool true) ∧ Below w.heap.size w w' := by
  obtain ⟨i5, hi, hz0, hz1, hz2⟩ := info_parts Try.info5
  have hq := q22
  have HR : Hid (∀ c ∈ bs, 0 ≤ c ∧ c ≤ 255) := hr
  clear hr
  go_enter Try.func3, Try.ntmps3
  go_wp2_with fail
  refine (bytes6 a _ cap w).mono ?_
  rintro e w ⟨⟨b1, rfl, -⟩, rfl⟩
  cases b1
  · go_wp2
    go_ret
    exact ⟨rfl, Below.refl _ _⟩
  go_wp2
  all_goals (try (go_ret; exact ⟨rfl, Below.refl _ _⟩))
  have hl4 : 4 ≤ bs.length := by omega
  have hl1 : bs.length ≤ 1048576 := by omega
  obtain ⟨b, o, rfl, hra⟩ : ∃ b o, a = some ⟨b, o, none⟩ ∧ w.rangeAt b o (bs.map (Value.int .u8)) := by
    obtain ⟨a', cap', hv, h1, h2, h3⟩ := h
    cases hv
    rcases h3 with h | ⟨b, o, rfl, h⟩
    · omega
    · exact ⟨b, o, rfl, h⟩
  clear h
  go_loopw [3] (fun i wr => HRel bs w i wr) (fun i _ => 4 - (intOf i).toNat)
  case atStart => exact ⟨0, by omega, rfl, by intro j hj h; omega, rfl⟩
  case round =>
    obtain ⟨k, hk, rfl, hall, rfl⟩ := hrel
    have HALL : Hid (∀ j (hj : j < bs.length), j < k → isHex bs[j]) := hall
    clear hall
    by_cases hlt : k < 4
    · have hck : w.cell? ⟨b, o + k, none⟩ = some (.int .u8 (bs[k]'(by omega))) := hra k _ (by simp)
      have hrg := HR.out (bs[k]'(by omega)) (List.getElem_mem _)
      obtain ⟨c, hc⟩ : ∃ c, bs[k]'(by omega) = c := ⟨_, rfl⟩
      rw [hc] at hck hrg
      have HC : Hid (bs[k]'(by omega) = c) := hc
      clear hc
      have hlt' : (k : Int) < 4 := by omega
      have hkl : (k : Int) < (bs.length : Int) := by omega
      go_wp2_with fail
      refine (isHex_any c w hrg.1 hrg.2).mono ?_
      rintro e w ⟨⟨b2, rfl, hh⟩, rfl⟩
      cases b2
      · go_wp2
        go_ret
        exact ⟨rfl, Below.refl _ _⟩
      · have HH : Hid (isHex c) := hh rfl
        clear hh
        go_wp2
        go_roundw
        case rel =>
          refine ⟨k + 1, by omega, by go_num, ?_, rfl⟩
          intro j hj hjk
          by_cases e : j = k
          · subst e; rw [HC.out]; exact HH.out
          · exact HALL.out j hj (by omega)
        case measure => simp [intOf]; omega
    · have hlt' : ¬ (k : Int) < 4 := by omega
      have HX : Hid (∀ i (hi : i < bs.length), i < 4 → isHex bs[i]) := fun i hi h4 => HALL.out i hi (by omega)
      go_wp2_with (at_make; refine wpList_make_full _ rfl _ _ 22 rfl w.heap.size 5 i5 (.int .u8 0) 1 Try.underlying22 hi hz0 hz1 _ _ _ _ bs.length rfl rfl rfl rfl (by rw [hz2]; omega) (by unfold maxLen; omega) (Nat.le_refl _) ?_; intro w1 hown hgrow; have hb1 : Below w.heap.size w w1 := (Below.refl _ _).grown hgrow (Nat.le_refl _) (by simp); obtain ⟨cur, hcur, hcl⟩ := own_cur hown; obtain ⟨w2, hrun, hs2, hb2⟩ := copyB_run (cap := cap) (b := b) (o := o) (fun j v hv => (hb1.cell (World.block_lt_of_cell? _ _ (hra j v hv))).trans (hra j v hv)) hcur hcl hb1; clear hown hgrow hcur hcl hb1)
      refine (zzunit_any w.heap.size 0 bs.length bs w2 hs2 hl4 (Nat.le_refl _) (by omega) HX.out).mono ?_
      rintro e w2 ⟨rfl, rfl⟩
      have hV : val bs 4 < 65536 := val_lt HX.out hl4 4 (Nat.le_refl _)
      have HVD : Hid (∀ k (hk : k < 4), val bs 4 / 2 ^ (12 - 4 * k) % 16 = hexV (bs[k]'(by omega))) := fun k hk => val_digit hl4 HX.out hk
      obtain ⟨V, hVe⟩ : ∃ V, val bs 4 = V := ⟨_, rfl⟩
      rw [hVe] at hV ⊢
      have HVD2 : Hid (∀ k (hk : k < 4), V / 2 ^ (12 - 4 * k) % 16 = hexV (bs[k]'(by omega))) := by
        intro k hk
        rw [← hVe]; exact HVD.out k hk
      clear HVD hVe hrun hq
      go_wp2
      go_loopw [6] (fun i wr => DRel w2 i wr) (fun i _ => 4 - (intOf i).toNat)
      case atStart => exact ⟨0, by omega, rfl, 0, rfl⟩
      case round =>
        obtain ⟨j, hj, rfl, n, rfl⟩ := hrel
        by_cases hjl : j < 4
        · have hck : w2.cell? ⟨w.heap.size, j, none⟩ = some (.int .u8 (bs[j]'(by omega))) := by
            have := hs2 j _ (List.getElem?_eq_getElem (by simp; omega))
            rw [Nat.zero_add] at this
            simpa using this
          have hdg := HVD2.out j hjl
          have hlow := low_hex (HX.out j (by omega) hjl)
          have hrg := HR.out (bs[j]'(by omega)) (List.getElem_mem _)
          obtain ⟨c, hc⟩ : ∃ c, bs[j]'(by omega) = c := ⟨_, rfl⟩
          have hd16 := hexV_lt (HX.out j (by omega) hjl)
          rw [hc] at hck hdg hlow hrg hd16
          clear hc
          have hjl' : (j : Int) < 4 := by omega
          have hjb : (j : Int) < (bs.length : Int) := by omega
          have hjc : j = 0 ∨ j = 1 ∨ j = 2 ∨ j = 3 := by omega
          rcases hjc with rfl | rfl | rfl | rfl
          · have hbt : bits BinOp.and IntKind.i32 ((V : Int) / 4096) 15 = (hexV c : Int) := by
              rw [and15 _ (by omega) (by omega)]
              have := hdg
              have e4 : (2 : Nat) ^ (12 - 4 * 0) = 4096 := rfl
              have e5 : (2 : Nat) ^ (12 - 4 * 1) = 256 := rfl
              have e6 : (2 : Nat) ^ (12 - 4 * 2) = 16 := rfl
              have e7 : (2 : Nat) ^ (12 - 4 * 3) = 1 := rfl
              simp only [e4, e5, e6, e7] at this
              omega
            have hbk : 0 < bs.length := by omega
            have hv0 : (0 : Int) ≤ (hexV c : Int) := by omega
            have hv1 : (hexV c : Int) < 16 := by omega
            go_wp2_with fail
            go_region_held3 (fun w' => w'.cell? ⟨w.heap.size, 0, none⟩ = some (.int .u8 c)) (first | exact hck | fail) (first | (go_at_call 9; refine (lower_any c _ hrg.1 hrg.2).mono ?_; rintro e w5 ⟨rfl, rfl⟩))
            all_goals (try go_wp2)
            all_goals first
              | exact ⟨⟨1, by omega, rfl, n + 1, rfl⟩, by simp [intOf]⟩
              | (exfalso
                 have hh : (hexB (hexV c) != (((⟨#[48, 49, 50, 51, 52, 53, 54, 55, 56, 57, 97, 98, 99, 100, 101, 102]⟩ : ByteArray)[hexV c]'(by exact hd16)).toNat : Int)) = true := by assumption
                 rw [hex_eq] at hh
                 simp at hh)
          · have hbt : bits BinOp.and IntKind.i32 ((V : Int) / 256) 15 = (hexV c : Int) := by
              rw [and15 _ (by omega) (by omega)]
              have := hdg
              have e4 : (2 : Nat) ^ (12 - 4 * 0) = 4096 := rfl
              have e5 : (2 : Nat) ^ (12 - 4 * 1) = 256 := rfl
              have e6 : (2 : Nat) ^ (12 - 4 * 2) = 16 := rfl
              have e7 : (2 : Nat) ^ (12 - 4 * 3) = 1 := rfl
              simp only [e4, e5, e6, e7] at this
              omega
            have hbk : (1 : Int) < (bs.length : Int) := by omega
            have hv0 : (0 : Int) ≤ (hexV c : Int) := by omega
            have hv1 : (hexV c : Int) < 16 := by omega
            go_wp2_with fail
            go_region_held3 (fun w' => w'.cell? ⟨w.heap.size, 1, none⟩ = some (.int .u8 c)) (first | exact hck | fail) (first | (go_at_call 9; refine (lower_any c _ hrg.1 hrg.2).mono ?_; rintro e w5 ⟨rfl, rfl⟩))
            all_goals (try go_wp2)
            all_goals first
              | exact ⟨⟨2, by omega, rfl, n + 1, rfl⟩, by simp [intOf]⟩
              | (exfalso
                 have hh : (hexB (hexV c) != (((⟨#[48, 49, 50, 51, 52, 53, 54, 55, 56, 57, 97, 98, 99, 100, 101, 102]⟩ : ByteArray)[hexV c]'(by exact hd16)).toNat : Int)) = true := by assumption
                 rw [hex_eq] at hh
                 simp at hh)
          · have hbt : bits BinOp.and IntKind.i32 ((V : Int) / 16) 15 = (hexV c : Int) := by
              rw [and15 _ (by omega) (by omega)]
              have := hdg
              have e4 : (2 : Nat) ^ (12 - 4 * 0) = 4096 := rfl
              have e5 : (2 : Nat) ^ (12 - 4 * 1) = 256 := rfl
              have e6 : (2 : Nat) ^ (12 - 4 * 2) = 16 := rfl
              have e7 : (2 : Nat) ^ (12 - 4 * 3) = 1 := rfl
              simp only [e4, e5, e6, e7] at this
              omega
            have hbk : (2 : Int) < (bs.length : Int) := by omega
            have hv0 : (0 : Int) ≤ (hexV c : Int) := by omega
            have hv1 : (hexV c : Int) < 16 := by omega
            go_wp2_with fail
            go_region_held3 (fun w' => w'.cell? ⟨w.heap.size, 2, none⟩ = some (.int .u8 c)) (first | exact hck | fail) (first | (go_at_call 9; refine (lower_any c _ hrg.1 hrg.2).mono ?_; rintro e w5 ⟨rfl, rfl⟩))
            all_goals (try go_wp2)
            all_goals first
              | exact ⟨⟨3, by omega, rfl, n + 1, rfl⟩, by simp [intOf]⟩
              | (exfalso
                 have hh : (hexB (hexV c) != (((⟨#[48, 49, 50, 51, 52, 53, 54, 55, 56, 57, 97, 98, 99, 100, 101, 102]⟩ : ByteArray)[hexV c]'(by exact hd16)).toNat : Int)) = true := by assumption
                 rw [hex_eq] at hh
                 simp at hh)
          · have hbt : bits BinOp.and IntKind.i32 ((V : Int)) 15 = (hexV c : Int) := by
              rw [and15 _ (by omega) (by omega)]
              have := hdg
              have e4 : (2 : Nat) ^ (12 - 4 * 0) = 4096 := rfl
              have e5 : (2 : Nat) ^ (12 - 4 * 1) = 256 := rfl
              have e6 : (2 : Nat) ^ (12 - 4 * 2) = 16 := rfl
              have e7 : (2 : Nat) ^ (12 - 4 * 3) = 1 := rfl
              simp only [e4, e5, e6, e7] at this
              omega
            have hbk : (3 : Int) < (bs.length : Int) := by omega
            have hv0 : (0 : Int) ≤ (hexV c : Int) := by omega
            have hv1 : (hexV c : Int) < 16 := by omega
            go_wp2_with fail
            go_region_held3 (fun w' => w'.cell? ⟨w.heap.size, 3, none⟩ = some (.int .u8 c)) (first | exact hck | fail) (first | (go_at_call 9; refine (lower_any c _ hrg.1 hrg.2).mono ?_; rintro e w5 ⟨rfl, rfl⟩))
            all_goals (try go_wp2)
            all_goals first
              | exact ⟨⟨4, by omega, rfl, n + 1, rfl⟩, by simp [intOf]⟩
              | (exfalso
                 have hh : (hexB (hexV c) != (((⟨#[48, 49, 50, 51, 52, 53, 54, 55, 56, 57, 97, 98, 99, 100, 101, 102]⟩ : ByteArray)[hexV c]'(by exact hd16)).toNat : Int)) = true := by assumption
                 rw [hex_eq] at hh
                 simp at hh)
        · have hjl' : ¬ (j : Int) < 4 := by omega
          go_wp2
          go_ret
          exact ⟨rfl, hb2.trans (below_drewN _ _ _)⟩

end Go.Proofs.Qxb6002912a
