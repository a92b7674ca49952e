/-
  Seat b6002691a: zzEscape.
-/
import Derived.Test.Qxb6002691aSkip
import Derived.Deep.AppendLies
import Derived.Deep.RegionLaw
namespace Go.Proofs.Qxb6002691a
open Go.RowKit
set_option linter.unusedSimpArgs false
set_option linter.unusedVariables false

def hexB (n : Nat) : Int := (([48, 49, 50, 51, 52, 53, 54, 55, 56, 57, 97, 98, 99, 100, 101, 102] : List Int)[n]?).getD 0
/-- One byte as the body of a string writes it. -/
def esc1 (c : Int) : List Int := if c = 34 ∨ c = 92 then [92, c] else if c < 32 then [92, 117, 48, 48, hexB (c / 16).toNat, hexB (c % 16).toNat] else [c]
theorem esc1_len (c : Int) : (esc1 c).length ≤ 6 := by
  unfold esc1; split
  · simp
  · split <;> simp
theorem escs_len (bs : List Int) : (bs.flatMap esc1).length ≤ 6 * bs.length := by
  induction bs with
  | nil => simp
  | cons c bs ih =>
    have := esc1_len c
    simp only [List.flatMap_cons, List.length_append, List.length_cons]; omega

theorem bits_low (c : Int) (h0 : 0 ≤ c) (h1 : c < 32) : bits BinOp.and IntKind.u8 c 15 = c % 16 := by
  have : c = 0 ∨ c = 1 ∨ c = 2 ∨ c = 3 ∨ c = 4 ∨ c = 5 ∨ c = 6 ∨ c = 7 ∨ c = 8 ∨ c = 9 ∨ c = 10 ∨ c = 11 ∨ c = 12 ∨ c = 13 ∨ c = 14 ∨ c = 15 ∨ c = 16 ∨ c = 17 ∨ c = 18 ∨ c = 19 ∨ c = 20 ∨ c = 21 ∨ c = 22 ∨ c = 23 ∨ c = 24 ∨ c = 25 ∨ c = 26 ∨ c = 27 ∨ c = 28 ∨ c = 29 ∨ c = 30 ∨ c = 31 := by omega
  rcases this with rfl | rfl | rfl | rfl | rfl | rfl | rfl | rfl | rfl | rfl | rfl | rfl | rfl | rfl | rfl | rfl | rfl | rfl | rfl | rfl | rfl | rfl | rfl | rfl | rfl | rfl | rfl | rfl | rfl | rfl | rfl | rfl <;> decide

theorem hex_eq (n : Nat) (h : n < 16) : ((((⟨#[48, 49, 50, 51, 52, 53, 54, 55, 56, 57, 97, 98, 99, 100, 101, 102]⟩ : ByteArray)[n]'h).toNat : Nat) : Int) = hexB n := by
  match n, h with
  | 0, _ | 1, _ | 2, _ | 3, _ | 4, _ | 5, _ | 6, _ | 7, _ | 8, _ | 9, _ | 10, _ | 11, _ | 12, _ | 13, _ | 14, _ | 15, _ => rfl
  | k + 16, h => omega

theorem own_below {base : Nat} {w0 w w1 : World} {v : Value} {n : Nat} {xs : List Value} (hb : Below base w0 w) (h0 : base ≤ w0.heap.size) (hown : w.ownsRow base 5 1 v n xs) (hg : w.grownBy w1 v.ownBlock) : Below base w0 w1 :=
  hb.grown hg (Nat.le_trans h0 hb.size) (fun k hk => by
    rcases hown.2 with ⟨rfl, _⟩ | ⟨g, cap, cur, rfl, hg, _⟩
    · simp [Value.ownBlock] at hk
    · simp [Value.ownBlock] at hk; omega)

theorem rel_next {xs ys bs bs' : List Int} {c : Int} {news : List Int} {base : Nat} {w : World} {v : Value} {n : Nat} (hy : xs ++ bs.flatMap esc1 = ys) (hx : bs' = bs ++ [c]) (he : esc1 c = news)
    (h : w.ownsRow base 5 1 v n (ys.map (Value.int .u8) ++ news.map (Value.int .u8))) (hn : n = ys.length + news.length) :
    w.ownsRow base 5 1 v (xs ++ bs'.flatMap esc1).length ((xs ++ bs'.flatMap esc1).map (Value.int .u8)) := by
  have e : xs ++ bs'.flatMap esc1 = ys ++ news := by
    rw [hx, List.flatMap_append, ← List.append_assoc, hy]; simp [he]
  rw [e, List.length_append, List.map_append, ← hn]
  exact h

set_option maxHeartbeats 2000000 in
theorem escape_any (base : Nat) (v : Value) (xs : List Int) (a : Option Addr) (cap : Nat) (bs : List Int) (w : World) (hown : w.ownsRow base 5 1 v xs.length (xs.map (Value.int .u8))) (h0 : base ≤ w.heap.size)
    (hp : ∀ w', Below base w w' → bytesAt w' (.slice a bs.length cap) bs) (hr : ∀ c ∈ bs, 0 ≤ c ∧ c ≤ 255) (hn : xs.length + 6 * bs.length ≤ 1000000) :
    Calls Try.prog 26 #[v, .slice a bs.length cap] w fun e w' => ∃ v', e = .returned v' ∧ w'.ownsRow base 5 1 v' (xs ++ bs.flatMap esc1).length ((xs ++ bs.flatMap esc1).map (Value.int .u8)) ∧ Below base w w' := by
  obtain ⟨i5, hi, hz0, hz1, hz2⟩ := info_parts Try.info5
  have HP : Hid (∀ w', Below base w w' → bytesAt w' (.slice a bs.length cap) bs) := hp
  have HR : Hid (∀ c ∈ bs, 0 ≤ c ∧ c ≤ 255) := hr
  clear hp hr
  go_enter Try.func26, Try.ntmps26
  go_wp2
  go_loopw [0, 5] (fun b i wr => ∃ k : Nat, k ≤ bs.length ∧ i = .int .i64 k ∧ wr.ownsRow base 5 1 b (xs ++ (bs.take k).flatMap esc1).length ((xs ++ (bs.take k).flatMap esc1).map (Value.int .u8)) ∧ Below base w wr) (fun _ i _ => bs.length - (intOf i).toNat)
  case atStart => exact ⟨0, Nat.zero_le _, rfl, by simpa using hown, Below.refl _ _⟩
  case round =>
    obtain ⟨k, hk, rfl, hown, hb⟩ := hrel
    by_cases hlt : k < bs.length
    · obtain ⟨c, hc⟩ : ∃ c, bs[k] = c := ⟨_, rfl⟩
      obtain ⟨b, o, rfl, hck⟩ : ∃ b o, a = some ⟨b, o, none⟩ ∧ wr.cell? ⟨b, o + k, none⟩ = some (.int .u8 c) := by
        obtain ⟨a', cap', hv, h1, h2, h3⟩ := HP.out wr hb
        cases hv
        rcases h3 with h | ⟨b, o, rfl, h⟩
        · omega
        · exact ⟨b, o, rfl, by rw [← hc]; exact h k _ (by simp [hlt])⟩
      have hrng := HR.out c (by rw [← hc]; exact List.getElem_mem _)
      have hpl : (xs ++ (bs.take k).flatMap esc1).length + 6 ≤ 1000000 := by
        have := escs_len (bs.take k)
        simp only [List.length_append, List.length_take] at this ⊢
        omega
      have HX : Hid (bs.take (k + 1) = bs.take k ++ [c]) := by
        show _ = _
        rw [List.take_succ_eq_append_getElem hlt, hc]
      have hsz : base ≤ wr.heap.size := Nat.le_trans h0 hb.size
      clear hc
      obtain ⟨ys, hys⟩ : ∃ ys, xs ++ (bs.take k).flatMap esc1 = ys := ⟨_, rfl⟩
      have HY : Hid (xs ++ (bs.take k).flatMap esc1 = ys) := hys
      rw [hys] at hown hpl
      clear hys
      have hlt' : (k : Int) < (bs.length : Int) := by omega
      by_cases h34 : c = 34
      · subst h34
        go_wp2_with (first | (at_builtin; refine wpList_append_lies _ rfl (.tmp 28) (.tmp 30) 36 rfl base 5 i5 (.int .u8 0) 1 1 Try.underlying36 hi hz0 hz1 hz2 rfl (by decide) _ _ _ rfl (hown.alloc _) ⟨wr.heap.size, 0, none⟩ 2 2 [.int .u8 92, .int .u8 34] rfl rfl (World.news_of_block (heap_alloc_new wr _)) (by simp [Value.oneCell']) (by omega) (by unfold maxLen; omega) (by omega) (by simp; omega) _ rfl ?_; intro g1 cap1 w1 hown1 hgrow1 hat1 hlt1) | go_in)
        have hb1 := own_below (hb.alloc hsz _) h0 (hown.alloc _) hgrow1
        have R := rel_next HY.out HX.out (show esc1 34 = [92, 34] by simp [esc1]) hown1 rfl
        clear hown1 hgrow1 hat1 hown hb
        go_wp2
        go_roundw
        case rel => exact ⟨k + 1, by omega, by go_num, R, hb1⟩
        case measure => simp [intOf]; omega

      by_cases h92 : c = 92
      · subst h92
        go_wp2_with (first | (at_builtin; refine wpList_append_lies _ rfl (.tmp 28) (.tmp 30) 36 rfl base 5 i5 (.int .u8 0) 1 1 Try.underlying36 hi hz0 hz1 hz2 rfl (by decide) _ _ _ rfl (hown.alloc _) ⟨wr.heap.size, 0, none⟩ 2 2 [.int .u8 92, .int .u8 92] rfl rfl (World.news_of_block (heap_alloc_new wr _)) (by simp [Value.oneCell']) (by omega) (by unfold maxLen; omega) (by omega) (by simp; omega) _ rfl ?_; intro g1 cap1 w1 hown1 hgrow1 hat1 hlt1) | go_in)
        have hb1 := own_below (hb.alloc hsz _) h0 (hown.alloc _) hgrow1
        have R := rel_next HY.out HX.out (show esc1 92 = [92, 92] by simp [esc1]) hown1 rfl
        clear hown1 hgrow1 hat1 hown hb
        go_wp2
        go_roundw
        case rel => exact ⟨k + 1, by omega, by go_num, R, hb1⟩
        case measure => simp [intOf]; omega

      have e34 : (c == 34) = false := by simpa using h34
      have e92 : (c == 92) = false := by simpa using h92
      by_cases h32 : c < 32
      · have hq1 : 0 ≤ c / 16 := by omega
        have hq2 : c / 16 < 16 := by omega
        have hq3 : 0 ≤ c % 16 := by omega
        have hq4 : c % 16 < 16 := by omega
        have hbt : bits BinOp.and IntKind.u8 c 15 = c % 16 := bits_low c hrng.1 h32
        have he : esc1 c = [92, 117, 48, 48, hexB (c / 16).toNat, hexB (c % 16).toNat] := by unfold esc1; rw [if_neg (by omega), if_pos h32]
        have HE : Hid (esc1 c = [92, 117, 48, 48, hexB (c / 16).toNat, hexB (c % 16).toNat]) := he
        clear he
        go_wp2
        go_region_law ((refine step_append_lies _ (by rfl) _ _ _ (by rfl) base 5 i5 (.int .u8 0) 1 1 Try.underlying36 hi hz0 hz1 hz2 rfl (by decide) _ _ _ (by rfl) ((hown.alloc _).drew) ⟨wr.heap.size, 0, none⟩ 6 6 _ (by rfl) (by rfl) (World.news_of_block (fr := (0, 0)) (t := 5) (heap_alloc_new wr _)) (by simp [Value.oneCell']) (by omega) (by unfold maxLen; omega) (by omega) (by simp; omega) (wr.heap.size + 1) (by simp) ?_; intro g1 cap1 w1 hown1 hgrow1 hat1 hlt1))
        all_goals
          have hb1 := own_below ((hb.alloc hsz _).drew) h0 ((hown.alloc _).drew) hgrow1
          have R := rel_next HY.out HX.out HE.out (v := .slice (some ⟨g1, 0, none⟩) (ys.length + 6) cap1) (w := w1) (by simpa [hex_eq] using hown1) rfl
          clear hown1 hgrow1 hat1 hown hb
          go_wp2
          go_roundw
          case rel => exact ⟨k + 1, by omega, by go_num, R, hb1⟩
          case measure => simp [intOf]; omega
      · have h32' : 32 ≤ c := by omega
        have he : esc1 c = [c] := by unfold esc1; rw [if_neg (by omega), if_neg h32]
        go_wp2_with (first | (at_builtin; refine wpList_append_lies _ rfl (.tmp 17) (.tmp 19) 36 rfl base 5 i5 (.int .u8 0) 1 1 Try.underlying36 hi hz0 hz1 hz2 rfl (by decide) _ _ _ rfl (hown.alloc _) ⟨wr.heap.size, 0, none⟩ 1 1 [.int .u8 c] rfl rfl (World.news_of_block (heap_alloc_new wr _)) (by simp [Value.oneCell']) (by omega) (by unfold maxLen; omega) (by omega) (by simp; omega) _ rfl ?_; intro g1 cap1 w1 hown1 hgrow1 hat1 hlt1) | go_in)
        have hb1 := own_below (hb.alloc hsz _) h0 (hown.alloc _) hgrow1
        have R := rel_next HY.out HX.out he hown1 rfl
        clear hown1 hgrow1 hat1 hown hb
        go_wp2
        go_roundw
        case rel => exact ⟨k + 1, by omega, by go_num, R, hb1⟩
        case measure => simp [intOf]; omega

    · have hke : k = bs.length := by omega
      subst hke
      rw [List.take_length] at hown
      go_wp2
      go_ret
      exact ⟨_, rfl, hown, hb⟩

end Go.Proofs.Qxb6002691a
