/-
  Seat b6002691a: zzEscape where the payload lies in a block of its own, newer than the text's.
-/
import Derived.Test.Qxb6002691aEsc
namespace Go.Proofs.Qxb6002691a
open Go.RowKit
set_option linter.unusedSimpArgs false
set_option linter.unusedVariables false

/-- Block gp is as it was, and the value b does not own it. -/
def Keep (gp : Nat) (w : World) (b : Value) (wr : World) : Prop := b.ownBlock ≠ some gp ∧ wr.heap[gp]? = w.heap[gp]? ∧ w.heap.size ≤ wr.heap.size
theorem Keep.next {gp : Nat} {w wr w1 : World} {b : Value} {o : Obj} {g1 n cap H : Nat} (h : Keep gp w b wr) (hgp : gp < w.heap.size) (hg : (wr.alloc o).grownBy w1 b.ownBlock) (hat : b.ownBlock = some g1 ∨ g1 = H) (hH : wr.heap.size ≤ H) : Keep gp w (.slice (some ⟨g1, 0, none⟩) n cap) w1 := by
  obtain ⟨h1, h2, h3⟩ := h
  refine ⟨?_, ?_, by have := hg.size; simp at this; omega⟩
  · show some g1 ≠ some gp
    rcases hat with h | h
    · rw [← h]; exact h1
    · intro e; injection e with e; omega
  · rw [hg.block gp (by simp; omega) (fun e => h1 e.symm), ← h2]
    exact Below.heap_alloc _ _ _ (by omega)
theorem Keep.next' {gp : Nat} {w wr w1 : World} {b : Value} {o : Obj} {g1 n cap H : Nat} (h : Keep gp w b wr) (hgp : gp < w.heap.size) (hg : (wr.alloc o).drew.grownBy w1 b.ownBlock) (hat : b.ownBlock = some g1 ∨ g1 = H) (hH : wr.heap.size ≤ H) : Keep gp w (.slice (some ⟨g1, 0, none⟩) n cap) w1 :=
  h.next hgp (o := o) ⟨hg.os, hg.tape, hg.output, hg.size, hg.block⟩ hat hH

set_option maxHeartbeats 2000000 in
theorem escape2_any (base : Nat) (v : Value) (xs : List Int) (gp off : Nat) (cap : Nat) (bs : List Int) (w : World) (hown : w.ownsRow base 5 1 v xs.length (xs.map (Value.int .u8))) (h0 : base ≤ w.heap.size)
    (hgp : gp < w.heap.size) (hpb : v.ownBlock ≠ some gp) (hp : w.rangeAt gp off (bs.map (Value.int .u8))) (hr : ∀ c ∈ bs, 0 ≤ c ∧ c ≤ 255) (hn : xs.length + 6 * bs.length ≤ 1000000) :
    Calls Try.prog 26 #[v, .slice (some ⟨gp, off, none⟩) bs.length cap] w fun e w' => ∃ v', e = .returned v' ∧ w'.ownsRow base 5 1 v' (xs ++ bs.flatMap esc1).length ((xs ++ bs.flatMap esc1).map (Value.int .u8)) ∧ Below base w w' := by
  obtain ⟨i5, hi, hz0, hz1, hz2⟩ := info_parts Try.info5
  have HP : Hid (w.rangeAt gp off (bs.map (Value.int .u8))) := hp
  have HR : Hid (∀ c ∈ bs, 0 ≤ c ∧ c ≤ 255) := hr
  clear hp hr
  go_enter Try.func26, Try.ntmps26
  go_wp2
  go_loopw [0, 5] (fun b i wr => ∃ k : Nat, k ≤ bs.length ∧ i = .int .i64 k ∧ wr.ownsRow base 5 1 b (xs ++ (bs.take k).flatMap esc1).length ((xs ++ (bs.take k).flatMap esc1).map (Value.int .u8)) ∧ Below base w wr ∧ Keep gp w b wr) (fun _ i _ => bs.length - (intOf i).toNat)
  case atStart => exact ⟨0, Nat.zero_le _, rfl, by simpa using hown, Below.refl _ _, ⟨hpb, rfl, Nat.le_refl _⟩⟩
  case round =>
    obtain ⟨k, hk, rfl, hown, hb, hkp⟩ := hrel
    by_cases hlt : k < bs.length
    · obtain ⟨c, hc⟩ : ∃ c, bs[k] = c := ⟨_, rfl⟩
      have hck : wr.cell? ⟨gp, off + k, none⟩ = some (.int .u8 c) := by
        rw [World.cell?_of_block (w := w) hkp.2.1, ← hc]
        exact HP.out k _ (by simp [hlt])
      have hrng := HR.out c (by rw [← hc]; exact List.getElem_mem _)
      have hpl : (xs ++ (bs.take k).flatMap esc1).length + 6 ≤ 1000000 := by
        have := escs_len (bs.take k)
        simp only [List.length_append, List.length_take] at this ⊢
        omega
      have HX : Hid (bs.take (k + 1) = bs.take k ++ [c]) := by
        show _ = _
        rw [List.take_succ_eq_append_getElem hlt, hc]
      have hsz : base ≤ wr.heap.size := Nat.le_trans h0 hb.size
      clear hc
      obtain ⟨ys, hys⟩ : ∃ ys, xs ++ (bs.take k).flatMap esc1 = ys := ⟨_, rfl⟩
      have HY : Hid (xs ++ (bs.take k).flatMap esc1 = ys) := hys
      rw [hys] at hown hpl
      clear hys
      have hlt' : (k : Int) < (bs.length : Int) := by omega
      by_cases h34 : c = 34
      · subst h34
        go_wp2_with (first | (at_builtin; refine wpList_append_lies _ rfl (.tmp 28) (.tmp 30) 36 rfl base 5 i5 (.int .u8 0) 1 1 Try.underlying36 hi hz0 hz1 hz2 rfl (by decide) _ _ _ rfl (hown.alloc _) ⟨wr.heap.size, 0, none⟩ 2 2 [.int .u8 92, .int .u8 34] rfl rfl (World.news_of_block (heap_alloc_new wr _)) (by simp [Value.oneCell']) (by omega) (by unfold maxLen; omega) (by omega) (by simp; omega) _ rfl ?_; intro g1 cap1 w1 hown1 hgrow1 hat1 hlt1) | go_in)
        have hb1 := own_below (hb.alloc hsz _) h0 (hown.alloc _) hgrow1
        have hkp1 := fun n cap => hkp.next (n := n) (cap := cap) hgp hgrow1 hat1 (by simp)
        have R := rel_next HY.out HX.out (show esc1 34 = [92, 34] by simp [esc1]) hown1 rfl
        clear hown1 hgrow1 hat1 hown hb hkp
        go_wp2
        go_roundw
        case rel => exact ⟨k + 1, by omega, by go_num, R, hb1, hkp1 _ _⟩
        case measure => simp [intOf]; omega

      by_cases h92 : c = 92
      · subst h92
        go_wp2_with (first | (at_builtin; refine wpList_append_lies _ rfl (.tmp 28) (.tmp 30) 36 rfl base 5 i5 (.int .u8 0) 1 1 Try.underlying36 hi hz0 hz1 hz2 rfl (by decide) _ _ _ rfl (hown.alloc _) ⟨wr.heap.size, 0, none⟩ 2 2 [.int .u8 92, .int .u8 92] rfl rfl (World.news_of_block (heap_alloc_new wr _)) (by simp [Value.oneCell']) (by omega) (by unfold maxLen; omega) (by omega) (by simp; omega) _ rfl ?_; intro g1 cap1 w1 hown1 hgrow1 hat1 hlt1) | go_in)
        have hb1 := own_below (hb.alloc hsz _) h0 (hown.alloc _) hgrow1
        have hkp1 := fun n cap => hkp.next (n := n) (cap := cap) hgp hgrow1 hat1 (by simp)
        have R := rel_next HY.out HX.out (show esc1 92 = [92, 92] by simp [esc1]) hown1 rfl
        clear hown1 hgrow1 hat1 hown hb hkp
        go_wp2
        go_roundw
        case rel => exact ⟨k + 1, by omega, by go_num, R, hb1, hkp1 _ _⟩
        case measure => simp [intOf]; omega

      have e34 : (c == 34) = false := by simpa using h34
      have e92 : (c == 92) = false := by simpa using h92
      by_cases h32 : c < 32
      · have hq1 : 0 ≤ c / 16 := by omega
        have hq2 : c / 16 < 16 := by omega
        have hq3 : 0 ≤ c % 16 := by omega
        have hq4 : c % 16 < 16 := by omega
        have hbt : bits BinOp.and IntKind.u8 c 15 = c % 16 := bits_low c hrng.1 h32
        have he : esc1 c = [92, 117, 48, 48, hexB (c / 16).toNat, hexB (c % 16).toNat] := by unfold esc1; rw [if_neg (by omega), if_pos h32]
        have HE : Hid (esc1 c = [92, 117, 48, 48, hexB (c / 16).toNat, hexB (c % 16).toNat]) := he
        clear he
        go_wp2
        go_region_law ((refine step_append_lies _ (by rfl) _ _ _ (by rfl) base 5 i5 (.int .u8 0) 1 1 Try.underlying36 hi hz0 hz1 hz2 rfl (by decide) _ _ _ (by rfl) ((hown.alloc _).drew) ⟨wr.heap.size, 0, none⟩ 6 6 _ (by rfl) (by rfl) (World.news_of_block (fr := (0, 0)) (t := 5) (heap_alloc_new wr _)) (by simp [Value.oneCell']) (by omega) (by unfold maxLen; omega) (by omega) (by simp; omega) (wr.heap.size + 1) (by simp) ?_; intro g1 cap1 w1 hown1 hgrow1 hat1 hlt1))
        all_goals
          have hb1 := own_below ((hb.alloc hsz _).drew) h0 ((hown.alloc _).drew) hgrow1
          have hkp1 := fun n cap => hkp.next' (n := n) (cap := cap) hgp hgrow1 hat1 (by omega)
          have R := rel_next HY.out HX.out HE.out (v := .slice (some ⟨g1, 0, none⟩) (ys.length + 6) cap1) (w := w1) (by simpa [hex_eq] using hown1) rfl
          clear hown1 hgrow1 hat1 hown hb hkp
          go_wp2
          go_roundw
          case rel => exact ⟨k + 1, by omega, by go_num, R, hb1, hkp1 _ _⟩
          case measure => simp [intOf]; omega
      · have h32' : 32 ≤ c := by omega
        have he : esc1 c = [c] := by unfold esc1; rw [if_neg (by omega), if_neg h32]
        go_wp2_with (first | (at_builtin; refine wpList_append_lies _ rfl (.tmp 17) (.tmp 19) 36 rfl base 5 i5 (.int .u8 0) 1 1 Try.underlying36 hi hz0 hz1 hz2 rfl (by decide) _ _ _ rfl (hown.alloc _) ⟨wr.heap.size, 0, none⟩ 1 1 [.int .u8 c] rfl rfl (World.news_of_block (heap_alloc_new wr _)) (by simp [Value.oneCell']) (by omega) (by unfold maxLen; omega) (by omega) (by simp; omega) _ rfl ?_; intro g1 cap1 w1 hown1 hgrow1 hat1 hlt1) | go_in)
        have hb1 := own_below (hb.alloc hsz _) h0 (hown.alloc _) hgrow1
        have hkp1 := fun n cap => hkp.next (n := n) (cap := cap) hgp hgrow1 hat1 (by simp)
        have R := rel_next HY.out HX.out he hown1 rfl
        clear hown1 hgrow1 hat1 hown hb hkp
        go_wp2
        go_roundw
        case rel => exact ⟨k + 1, by omega, by go_num, R, hb1, hkp1 _ _⟩
        case measure => simp [intOf]; omega

    · have hke : k = bs.length := by omega
      subst hke
      rw [List.take_length] at hown
      go_wp2
      go_ret
      exact ⟨_, rfl, hown, hb⟩

end Go.Proofs.Qxb6002691a
