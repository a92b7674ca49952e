/-
  Seat b6002691a: FnCountEntriesCountsTheKeysOfAnObject answers true.
-/
import Derived.Test.Qxb6002691aConv
namespace Go.Proofs.Qxb6002691a
open Go.RowKit
set_option linter.unusedSimpArgs false
set_option linter.unusedVariables false

theorem below_then5 {B : Nat} {a w w' : World} (h : Below B a w) (hB : B ≤ a.heap.size) (h' : Below w.heap.size w w') : Below B a w' := h.trans (h'.mono (Nat.le_trans hB h.size))

/-- The value v owns the text T that has been made so far. -/
structure TX (base : Nat) (w0 W : World) (v : Value) (T : List Int) : Prop where
  own : OwnB W base v T
  bel : Below base w0 W

theorem TX.push {base : Nat} {w0 W W1 : World} {v : Value} {T : List Int} (h : TX base w0 W v T) (h0 : base ≤ w0.heap.size) {o : Obj} {c : Int} {g n cap : Nat} (hn : n = T.length + 1)
    (hown : W1.ownsRow base 5 1 (.slice (some ⟨g, 0, none⟩) n cap) n (T.map (Value.int .u8) ++ [.int .u8 c])) (hg : (W.alloc o).grownBy W1 v.ownBlock) : TX base w0 W1 (.slice (some ⟨g, 0, none⟩) n cap) (T ++ [c]) := by
  refine ⟨?_, own_below (h.bel.alloc (Nat.le_trans h0 h.bel.size) _) h0 (World.ownsRow.alloc h.own _) hg⟩
  unfold OwnB
  rw [List.length_append, List.map_append, List.length_singleton, ← hn]
  exact hown
theorem TX.pad {base : Nat} {w0 W W1 : World} {v v' : Value} {T : List Int} (h : TX base w0 W v T) (hp : PadPost T base W v' W1) : ∃ s : List Int, (∀ c ∈ s, isSp c = true) ∧ s.length ≤ 3 ∧ TX base w0 W1 v' (T ++ s) := by
  obtain ⟨s, h1, h2, h3, h4⟩ := hp
  exact ⟨s, h1, h2, h3, h.bel.trans h4⟩
theorem TX.dig {base : Nat} {w0 W W1 : World} {v v' : Value} {T : List Int} (h : TX base w0 W v T) (hp : DigPost T base W v' W1) : ∃ s : List Int, (∀ c ∈ s, 48 ≤ c ∧ c ≤ 57) ∧ s.length ≤ 20 ∧ TX base w0 W1 v' (T ++ s) := by
  obtain ⟨s, h1, h2, h3, h4⟩ := hp
  exact ⟨s, h1, h2, h3, h.bel.trans h4⟩
theorem TX.le {base : Nat} {w0 W : World} {v : Value} {T : List Int} (h : TX base w0 W v T) (h0 : base ≤ w0.heap.size) : base ≤ W.heap.size := Nat.le_trans h0 h.bel.size

theorem tot_take (ss : List ByteArray) (k : Nat) : tot (ss.take k) ≤ tot ss := by
  unfold tot
  conv => rhs; rw [← List.take_append_drop k ss, List.map_append, List.sum_append]
  exact Nat.le_add_right _ _
theorem dig_plain {s : List Int} (hs : ∀ c ∈ s, 48 ≤ c ∧ c ≤ 57) : ∀ c ∈ s, c ≠ 34 := fun c hc e => by have := hs c hc; omega
attribute [local go_sem] conv936
def LRel (ss : List ByteArray) (N : Nat) (w2 : World) (pv tv iv : Value) (wr : World) : Prop := ∃ (i p : Nat) (T : List Int), pv = .int .i64 p ∧ iv = .int .i64 i ∧ i ≤ N ∧ p ≤ 10 + 10 * i ∧ TX w2.heap.size w2 wr tv T ∧ Adds T i ∧ T.length ≤ 100 + 6 * tot (ss.take i)

set_option maxRecDepth 10000 in
set_option maxHeartbeats 4000000 in
theorem law5_any (a1 a2 : Option Addr) (c1 c2 : Nat) (ss : List ByteArray) (us : List Int) (ws ks : Int) (w : World) (h1 : strsAt w (.slice a1 ss.length c1) ss) (h2 : wordsAt w (.slice a2 us.length c2) us) (hu : ∀ x ∈ us, 0 ≤ x ∧ x ≤ 18446744073709551615)
    (hw0 : 0 ≤ ws) (hw1 : ws ≤ 18446744073709551615) (hk0 : 0 ≤ ks) (hk1 : ks ≤ 18446744073709551615) :
    Calls Try.prog 10 #[.slice a1 ss.length c1, .slice a2 us.length c2, .int .u64 ws, .int .u64 ks] w fun e w' => e = .returned (.bool true) ∧ Below w.heap.size w w' := by
  obtain ⟨i5, hi, hz0, hz1, hz2⟩ := info_parts Try.info5
  have HU : Hid (∀ x ∈ us, 0 ≤ x ∧ x ≤ 18446744073709551615) := hu
  have hus : us.length ≤ 9223372036854775807 := by obtain ⟨_, _, _, _, h, _⟩ := h2; exact h
  clear hu
  go_enter Try.func10, Try.ntmps10
  go_wp2_with fail
  refine (bytes30 a1 a2 c1 _ c2 ws ks ss w h1 hus).mono ?_
  rintro e w ⟨⟨b1, rfl, -⟩, rfl⟩
  cases b1
  · go_wp2
    go_ret
    exact ⟨rfl, Below.refl _ _⟩
  go_wp2_with fail
  all_goals (try (go_ret; exact ⟨rfl, Below.refl _ _⟩))
  have hl1 : ss.length ≤ 4096 := by omega
  have hl2 : us.length ≤ 4096 := by omega
  refine (strBytes_any a1 c1 ss w h1 (by omega)).mono ?_
  rintro e w ⟨⟨z, rfl, hz⟩, rfl⟩
  have hzz : z ≤ 1048577 := by omega
  have HZ : Hid (z = 1048577 ∨ z = tot ss ∧ z ≤ 1048576) := hz
  clear hz
  have hmul : IntKind.i64.wrap (8 * (us.length : Int)) = 8 * (us.length : Int) := by rw [IntKind.wrap_i64]; omega
  go_wp2_with fail
  all_goals (try (go_ret; exact ⟨rfl, Below.refl _ _⟩))
  have htot : tot ss ≤ 131072 := by have := HZ.out; omega
  refine (cloneStrs_any _ ss w h1 (by omega)).mono ?_
  rintro e w1 ⟨v1, rfl, hv1, -, hb1⟩
  obtain ⟨e1, d1, rfl, -⟩ := id hv1
  go_wp2_with fail
  refine (cloneWords_any _ us w1 (h2.below hb1) (by omega)).mono ?_
  rintro e w2 ⟨v2, rfl, hv2, -, hb2⟩
  obtain ⟨e2, d2, rfl, -⟩ := id hv2
  have hv1' : strsAt w2 (.slice e1 ss.length d1) ss := hv1.below hb2
  have hb02 : Below w.heap.size w w2 := below_then5 hb1 (Nat.le_refl _) hb2
  clear hv1 hb1 hb2 h1 h2 HZ hmul
  go_wp2_with fail
  refine (min_any ss.length us.length w2).mono ?_
  rintro e w2 ⟨rfl, rfl⟩
  obtain ⟨N, hN⟩ : ∃ N, min ss.length us.length = N := ⟨_, rfl⟩
  have hN1 : N ≤ ss.length := by omega
  have hN2 : N ≤ us.length := by omega
  rw [hN]
  have HV1 : Hid (strsAt w2 (.slice e1 ss.length d1) ss) := hv1'
  have HV2 : Hid (wordsAt w2 (.slice e2 us.length d2) us) := hv2
  clear hN hv1' hv2
  go_wp2_with (at_make; refine wpList_make_own _ rfl _ _ 36 rfl w2.heap.size 5 i5 (.int .u8 0) 1 Try.underlying36 hi hz0 hz1 _ _ _ 64 rfl rfl rfl (by rw [hz2]; omega) (by unfold maxLen; omega) (Nat.le_refl _) ?_; intro w3 hown3 hgrow3)
  have X3 : TX w2.heap.size w2 w3 (.slice (some ⟨w2.heap.size, 0, none⟩) 0 64) [] := ⟨by simpa [OwnB] using hown3, (Below.refl _ _).grown hgrow3 (Nat.le_refl _) (by simp)⟩
  clear hown3 hgrow3
  refine (pad_any w2.heap.size _ [] ws ks 0 w3 X3.own (X3.le (Nat.le_refl _)) hw0 hw1 hk0 hk1 (by omega) (by omega) (by simp)).mono ?_
  rintro e w4 ⟨v4, rfl, hp4⟩
  obtain ⟨s4, hs4, hl4, X4⟩ := X3.pad hp4
  rw [List.nil_append] at X4
  have HS4 : Hid (∀ c ∈ s4, isSp c = true) := hs4
  have hsz4 := X4.le (Nat.le_refl _)
  clear X3 hp4 hs4
  go_wp2_with (at_builtin; refine wpList_append_lies _ rfl (.tmp 51) (.tmp 52) 36 rfl w2.heap.size 5 i5 (.int .u8 0) 1 1 Try.underlying36 hi hz0 hz1 hz2 rfl (by decide) _ _ _ rfl (World.ownsRow.alloc X4.own _) ⟨w4.heap.size, 0, none⟩ 1 1 [.int .u8 123] rfl rfl (World.news_of_block (heap_alloc_new w4 _)) (by simp [Value.oneCell']) (by omega) (by unfold maxLen; omega) (by omega) (by simp; omega) _ rfl ?_; intro g5 cap5 w5 hown5 hgrow5 hat5 hlt5)
  have X5 := X4.push (Nat.le_refl _) rfl hown5 hgrow5
  clear hown5 hgrow5 hat5 X4
  refine (pad_any w2.heap.size _ (s4 ++ [123]) ws ks 1 w5 X5.own (X5.le (Nat.le_refl _)) hw0 hw1 hk0 hk1 (by omega) (by omega) (by simp; omega)).mono ?_
  rintro e w6 ⟨v6, rfl, hp6⟩
  obtain ⟨s6, hs6, hl6, X6⟩ := X5.pad hp6
  have hA6 : Adds (s4 ++ [123] ++ s6) 0 := by
    have q1 : Adds s4 0 := by have := Adds.nil.plain (sp_plain HS4.out); simpa using this
    exact (q1.plain (by simp)).plain (sp_plain hs6)
  have hL6 : (s4 ++ [123] ++ s6).length ≤ 100 := by simp; omega
  obtain ⟨T6, hT6⟩ : ∃ T, s4 ++ [123] ++ s6 = T := ⟨_, rfl⟩
  rw [hT6] at X6 hA6 hL6
  clear X5 hp6 hs6 HS4 hT6 hsz4
  have HA6 : Hid (Adds T6 0) := hA6
  clear hA6
  go_wp2
  go_loopw [10, 11, 12] (fun pv tv iv wr => LRel ss N w2 pv tv iv wr) (fun _ _ i _ => N - (intOf i).toNat)
  case atStart => exact ⟨0, 2, T6, rfl, rfl, Nat.zero_le _, by omega, X6, HA6.out, by simpa [tot] using hL6⟩
  case round =>
    clear X6 HA6 hL6
    obtain ⟨i, p, T, rfl, rfl, hiN, hp, X, hA, hL⟩ := hrel
    have HA : Hid (Adds T i) := hA
    have hsz := X.le (Nat.le_refl _)
    clear hA
    by_cases hlt : i < N
    · have hlt' : (i : Int) < (N : Int) := by omega
      have htn := tot_next (show i < ss.length by omega)
      have hts := tot_take ss (i + 1)
      obtain ⟨s, hs⟩ : ∃ s, ss[i]'(by omega) = s := ⟨_, rfl⟩
      rw [hs] at htn
      have HS : Hid (ss[i]'(by omega) = s) := hs
      clear hs
      obtain ⟨t0, ht0⟩ : ∃ t, tot (ss.take i) = t := ⟨_, rfl⟩
      obtain ⟨t1, ht1⟩ : ∃ t, tot (ss.take (i + 1)) = t := ⟨_, rfl⟩
      have HT1 : Hid (tot (ss.take (i + 1)) = t1) := ht1
      rw [ht0] at hL htn
      rw [ht1] at htn hts
      clear ht0 ht1
      obtain ⟨bk, ok, rfl, -⟩ := HV1.out.cellAt (show i < ss.length by omega)
      have HC : Hid (∀ W, Below w2.heap.size w2 W → W.cell? ⟨bk, ok + i, none⟩ = some (.string s)) := by
        intro W hW
        obtain ⟨b', o', he, hc⟩ := (show strsAt W (.slice (some ⟨bk, ok, none⟩) ss.length d1) ss from HV1.out.below hW).cellAt (show i < ss.length by omega)
        injection he with he
        injection he with q1 q2
        subst q1 q2
        rw [hc, HS.out]
      have hiS : (i : Int) < (ss.length : Int) := by omega
      have hiU : (i : Int) < (us.length : Int) := by omega
      obtain ⟨bv, ov, rfl, -⟩ := HV2.out.cellAt (show i < us.length by omega)
      obtain ⟨x, hx⟩ : ∃ x : Nat, us[i]'(by omega) = (x : Int) := ⟨(us[i]'(by omega)).toNat, by have := HU.out (us[i]'(by omega)) (List.getElem_mem _); omega⟩
      have hxb : x < 18446744073709551616 := by have := HU.out (us[i]'(by omega)) (List.getElem_mem _); omega
      have HCV : Hid (∀ W, Below w2.heap.size w2 W → W.cell? ⟨bv, ov + i, none⟩ = some (.int .u64 (x : Int))) := by
        intro W hW
        obtain ⟨b', o', he, hc⟩ := (show wordsAt W (.slice (some ⟨bv, ov, none⟩) us.length d2) us from HV2.out.below hW).cellAt (show i < us.length by omega)
        injection he with he
        injection he with q1 q2
        subst q1 q2
        rw [hc, hx]
      clear hx
      have hLT : T.length ≤ 104 + 6 * t0 := by omega
      by_cases hi0 : i = 0
      · have hi1 : ¬ (0 : Int) < (i : Int) := by omega
        clear hi0
        go_wp2_with (at_builtin; refine wpList_append_lies _ rfl (.tmp 78) (.tmp 79) 36 rfl w2.heap.size 5 i5 (.int .u8 0) 1 1 Try.underlying36 hi hz0 hz1 hz2 rfl (by decide) _ _ _ rfl (World.ownsRow.alloc X.own _) ⟨wr.heap.size, 0, none⟩ 1 1 [.int .u8 34] rfl rfl (World.news_of_block (heap_alloc_new wr _)) (by simp [Value.oneCell']) (by omega) (by first | (unfold maxLen; omega) | (simp only [List.length_append, List.length_cons, List.length_nil]; unfold maxLen; omega)) (by first | omega | (simp only [List.length_append, List.length_cons, List.length_nil]; omega)) (by simp; omega) _ rfl ?_; intro g17 cap17 w17 hown17 hgrow17 hat17 hlt17; have X17 := X.push (Nat.le_refl _) rfl hown17 hgrow17; have hck17 := HC.out w17 X17.bel)
        have hsz17 := X17.le (Nat.le_refl _)
        have hesc : ((bytesOf s).flatMap esc1).length ≤ 6 * s.size := by have := escs_len (bytesOf s); rw [bytesOf_len] at this; exact this
        clear X hown17 hgrow17 hat17
        refine (escStr_any w2.heap.size _ (T ++ [34]) _ s w17 X17.own hsz17 (by intro k hk; simp [Value.ownBlock] at hk; omega) (by simp; omega)).mono ?_
        rintro e w18 ⟨v18, rfl, ho18, hb18⟩
        have X18 : TX w2.heap.size w2 w18 v18 (T ++ [34] ++ (bytesOf s).flatMap esc1) := ⟨ho18, X17.bel.trans hb18⟩
        have hsz18 := X18.le (Nat.le_refl _)
        clear ho18 hb18 X17 hck17
        obtain ⟨T18, hT18⟩ : ∃ L, T ++ [34] ++ (bytesOf s).flatMap esc1 = L := ⟨_, rfl⟩
        have hL18 : T18.length ≤ T.length + 1 + 6 * s.size := by rw [← hT18]; simp only [List.length_append, List.length_cons, List.length_nil]; omega
        have HT18 : Hid (T ++ [34] ++ (bytesOf s).flatMap esc1 = T18) := hT18
        rw [hT18] at X18
        clear hT18 hesc
        go_wp2_with (at_builtin; refine wpList_append_lies _ rfl (.tmp 88) (.tmp 89) 36 rfl w2.heap.size 5 i5 (.int .u8 0) 1 1 Try.underlying36 hi hz0 hz1 hz2 rfl (by decide) _ _ _ rfl (World.ownsRow.alloc X18.own _) ⟨w18.heap.size, 0, none⟩ 1 1 [.int .u8 34] rfl rfl (World.news_of_block (heap_alloc_new w18 _)) (by simp [Value.oneCell']) (by omega) (by first | (unfold maxLen; omega) | (simp only [List.length_append, List.length_cons, List.length_nil]; unfold maxLen; omega)) (by first | omega | (simp only [List.length_append, List.length_cons, List.length_nil]; omega)) (by simp; omega) _ rfl ?_; intro g19 cap19 w19 hown19 hgrow19 hat19 hlt19; have X19 := X18.push (Nat.le_refl _) rfl hown19 hgrow19)
        have hsz19 := X19.le (Nat.le_refl _)
        clear X18 hown19 hgrow19 hat19
        refine (pad_any w2.heap.size _ _ ws ks _ w19 X19.own (by omega) hw0 hw1 hk0 hk1 (by omega) (by omega) (by first | omega | (simp only [List.length_append, List.length_cons, List.length_nil]; omega))).mono ?_
        rintro e w20 ⟨v20, rfl, hp20⟩
        obtain ⟨s20, hs20, hl20, X20⟩ := X19.pad hp20
        have HS20 : Hid (∀ c ∈ s20, isSp c = true) := hs20
        have hsz20 := X20.le (Nat.le_refl _)
        obtain ⟨T20, hT20⟩ : ∃ L, T18 ++ [34] ++ s20 = L := ⟨_, rfl⟩
        have HT20 : Hid (T18 ++ [34] ++ s20 = T20) := hT20
        have hL20 : T20.length ≤ T18.length + 1 + 3 := by rw [← hT20]; simp only [List.length_append, List.length_cons, List.length_nil]; omega
        rw [hT20] at X20
        clear hp20 hs20 hT20 hl20 X19
        go_wp2_with (at_builtin; refine wpList_append_lies _ rfl (.tmp 98) (.tmp 99) 36 rfl w2.heap.size 5 i5 (.int .u8 0) 1 1 Try.underlying36 hi hz0 hz1 hz2 rfl (by decide) _ _ _ rfl (World.ownsRow.alloc X20.own _) ⟨w20.heap.size, 0, none⟩ 1 1 [.int .u8 58] rfl rfl (World.news_of_block (heap_alloc_new w20 _)) (by simp [Value.oneCell']) (by omega) (by first | (unfold maxLen; omega) | (simp only [List.length_append, List.length_cons, List.length_nil]; unfold maxLen; omega)) (by first | omega | (simp only [List.length_append, List.length_cons, List.length_nil]; omega)) (by simp; omega) _ rfl ?_; intro g21 cap21 w21 hown21 hgrow21 hat21 hlt21; have X21 := X20.push (Nat.le_refl _) rfl hown21 hgrow21)
        have hsz21 := X21.le (Nat.le_refl _)
        clear X20 hown21 hgrow21 hat21
        refine (pad_any w2.heap.size _ _ ws ks _ w21 X21.own (by omega) hw0 hw1 hk0 hk1 (by omega) (by omega) (by first | omega | (simp only [List.length_append, List.length_cons, List.length_nil]; omega))).mono ?_
        rintro e w22 ⟨v22, rfl, hp22⟩
        obtain ⟨s22, hs22, hl22, X22⟩ := X21.pad hp22
        have HS22 : Hid (∀ c ∈ s22, isSp c = true) := hs22
        have hsz22 := X22.le (Nat.le_refl _)
        obtain ⟨T22, hT22⟩ : ∃ L, T20 ++ [58] ++ s22 = L := ⟨_, rfl⟩
        have HT22 : Hid (T20 ++ [58] ++ s22 = T22) := hT22
        have hL22 : T22.length ≤ T20.length + 1 + 3 := by rw [← hT22]; simp only [List.length_append, List.length_cons, List.length_nil]; omega
        rw [hT22] at X22
        clear hp22 hs22 hT22 hl22 X21
        have hcv22 := HCV.out w22 X22.bel
        go_wp2_with fail
        refine (uint_any w2.heap.size _ _ x w22 X22.own hsz22 hxb (by omega)).mono ?_
        rintro e w23 ⟨v23, rfl, hp23⟩
        obtain ⟨s23, hs23, hl23, X23⟩ := X22.dig hp23
        have HS23 : Hid (∀ c ∈ s23, 48 ≤ c ∧ c ≤ 57) := hs23
        have hsz23 := X23.le (Nat.le_refl _)
        obtain ⟨T23, hT23⟩ : ∃ L, T22 ++ s23 = L := ⟨_, rfl⟩
        have HT23 : Hid (T22 ++ s23 = T23) := hT23
        have hL23 : T23.length ≤ T22.length + 20 := by rw [← hT23]; simp only [List.length_append]; omega
        rw [hT23] at X23
        clear hp23 hs23 X22 hcv22 hT23 hl23
        go_wp2_with fail
        refine (pad_any w2.heap.size _ _ ws ks _ w23 X23.own (by omega) hw0 hw1 hk0 hk1 (by omega) (by omega) (by first | omega | (simp only [List.length_append, List.length_cons, List.length_nil]; omega))).mono ?_
        rintro e w24 ⟨v24, rfl, hp24⟩
        obtain ⟨s24, hs24, hl24, X24⟩ := X23.pad hp24
        have HS24 : Hid (∀ c ∈ s24, isSp c = true) := hs24
        have hsz24 := X24.le (Nat.le_refl _)
        obtain ⟨T24, hT24⟩ : ∃ L, T23 ++ s24 = L := ⟨_, rfl⟩
        have HT24 : Hid (T23 ++ s24 = T24) := hT24
        have hL24 : T24.length ≤ T23.length + 3 := by rw [← hT24]; simp only [List.length_append, List.length_cons, List.length_nil]; omega
        rw [hT24] at X24
        clear hp24 hs24 hT24 hl24 X23
        have hA24 := (((HA.out.entry (bytesOf_rng s) HS20.out).plain (sp_plain HS22.out)).plain (dig_plain HS23.out)).plain (sp_plain HS24.out)
        rw [HT18.out, HT20.out, HT22.out, HT23.out, HT24.out] at hA24
        have hL25 : T24.length ≤ 100 + 6 * t1 := by omega
        have HA24 : Hid (Adds T24 (i + 1)) := hA24
        clear hA24
        go_wp2
        go_roundw
        case rel => exact ⟨i + 1, p + 3, _, by go_num, by go_num, by omega, by omega, X24, HA24.out, by rw [HT1.out]; exact hL25⟩
        case measure => simp [intOf]; omega
      · have hi1 : (0 : Int) < (i : Int) := by omega
        clear hi0
        go_wp2_with (at_builtin; refine wpList_append_lies _ rfl (.tmp 68) (.tmp 69) 36 rfl w2.heap.size 5 i5 (.int .u8 0) 1 1 Try.underlying36 hi hz0 hz1 hz2 rfl (by decide) _ _ _ rfl (World.ownsRow.alloc X.own _) ⟨wr.heap.size, 0, none⟩ 1 1 [.int .u8 44] rfl rfl (World.news_of_block (heap_alloc_new wr _)) (by simp [Value.oneCell']) (by omega) (by first | (unfold maxLen; omega) | (simp only [List.length_append, List.length_cons, List.length_nil]; unfold maxLen; omega)) (by first | omega | (simp only [List.length_append, List.length_cons, List.length_nil]; omega)) (by simp; omega) _ rfl ?_; intro g15 cap15 w15 hown15 hgrow15 hat15 hlt15; have X15 := X.push (Nat.le_refl _) rfl hown15 hgrow15)
        have hsz15 := X15.le (Nat.le_refl _)
        clear X hown15 hgrow15 hat15
        refine (pad_any w2.heap.size _ _ ws ks _ w15 X15.own (by omega) hw0 hw1 hk0 hk1 (by omega) (by omega) (by first | omega | (simp only [List.length_append, List.length_cons, List.length_nil]; omega))).mono ?_
        rintro e w16 ⟨v16, rfl, hp16⟩
        obtain ⟨s16, hs16, hl16, X16⟩ := X15.pad hp16
        have HS16 : Hid (∀ c ∈ s16, isSp c = true) := hs16
        have hsz16 := X16.le (Nat.le_refl _)
        obtain ⟨T16, hT16⟩ : ∃ L, T ++ [44] ++ s16 = L := ⟨_, rfl⟩
        have HT16 : Hid (T ++ [44] ++ s16 = T16) := hT16
        have hL16 : T16.length ≤ T.length + 1 + 3 := by rw [← hT16]; simp only [List.length_append, List.length_cons, List.length_nil]; omega
        rw [hT16] at X16
        clear hp16 hs16 hT16 hl16 X15
        have hA16 := (HA.out.plain (s := [44]) (by simp)).plain (sp_plain HS16.out)
        rw [HT16.out] at hA16
        have hLT2 : T16.length ≤ 104 + 6 * t0 := by omega
        have HA2 : Hid (Adds T16 i) := hA16
        clear hA16 HS16 hLT HT16
        go_wp2_with (at_builtin; refine wpList_append_lies _ rfl (.tmp 78) (.tmp 79) 36 rfl w2.heap.size 5 i5 (.int .u8 0) 1 1 Try.underlying36 hi hz0 hz1 hz2 rfl (by decide) _ _ _ rfl (World.ownsRow.alloc X16.own _) ⟨w16.heap.size, 0, none⟩ 1 1 [.int .u8 34] rfl rfl (World.news_of_block (heap_alloc_new w16 _)) (by simp [Value.oneCell']) (by omega) (by first | (unfold maxLen; omega) | (simp only [List.length_append, List.length_cons, List.length_nil]; unfold maxLen; omega)) (by first | omega | (simp only [List.length_append, List.length_cons, List.length_nil]; omega)) (by simp; omega) _ rfl ?_; intro g17 cap17 w17 hown17 hgrow17 hat17 hlt17; have X17 := X16.push (Nat.le_refl _) rfl hown17 hgrow17; have hck17 := HC.out w17 X17.bel)
        have hsz17 := X17.le (Nat.le_refl _)
        have hesc : ((bytesOf s).flatMap esc1).length ≤ 6 * s.size := by have := escs_len (bytesOf s); rw [bytesOf_len] at this; exact this
        clear X16 hown17 hgrow17 hat17
        refine (escStr_any w2.heap.size _ (T16 ++ [34]) _ s w17 X17.own hsz17 (by intro k hk; simp [Value.ownBlock] at hk; omega) (by simp; omega)).mono ?_
        rintro e w18 ⟨v18, rfl, ho18, hb18⟩
        have X18 : TX w2.heap.size w2 w18 v18 (T16 ++ [34] ++ (bytesOf s).flatMap esc1) := ⟨ho18, X17.bel.trans hb18⟩
        have hsz18 := X18.le (Nat.le_refl _)
        clear ho18 hb18 X17 hck17
        obtain ⟨T18, hT18⟩ : ∃ L, T16 ++ [34] ++ (bytesOf s).flatMap esc1 = L := ⟨_, rfl⟩
        have hL18 : T18.length ≤ T16.length + 1 + 6 * s.size := by rw [← hT18]; simp only [List.length_append, List.length_cons, List.length_nil]; omega
        have HT18 : Hid (T16 ++ [34] ++ (bytesOf s).flatMap esc1 = T18) := hT18
        rw [hT18] at X18
        clear hT18 hesc
        go_wp2_with (at_builtin; refine wpList_append_lies _ rfl (.tmp 88) (.tmp 89) 36 rfl w2.heap.size 5 i5 (.int .u8 0) 1 1 Try.underlying36 hi hz0 hz1 hz2 rfl (by decide) _ _ _ rfl (World.ownsRow.alloc X18.own _) ⟨w18.heap.size, 0, none⟩ 1 1 [.int .u8 34] rfl rfl (World.news_of_block (heap_alloc_new w18 _)) (by simp [Value.oneCell']) (by omega) (by first | (unfold maxLen; omega) | (simp only [List.length_append, List.length_cons, List.length_nil]; unfold maxLen; omega)) (by first | omega | (simp only [List.length_append, List.length_cons, List.length_nil]; omega)) (by simp; omega) _ rfl ?_; intro g19 cap19 w19 hown19 hgrow19 hat19 hlt19; have X19 := X18.push (Nat.le_refl _) rfl hown19 hgrow19)
        have hsz19 := X19.le (Nat.le_refl _)
        clear X18 hown19 hgrow19 hat19
        refine (pad_any w2.heap.size _ _ ws ks _ w19 X19.own (by omega) hw0 hw1 hk0 hk1 (by omega) (by omega) (by first | omega | (simp only [List.length_append, List.length_cons, List.length_nil]; omega))).mono ?_
        rintro e w20 ⟨v20, rfl, hp20⟩
        obtain ⟨s20, hs20, hl20, X20⟩ := X19.pad hp20
        have HS20 : Hid (∀ c ∈ s20, isSp c = true) := hs20
        have hsz20 := X20.le (Nat.le_refl _)
        obtain ⟨T20, hT20⟩ : ∃ L, T18 ++ [34] ++ s20 = L := ⟨_, rfl⟩
        have HT20 : Hid (T18 ++ [34] ++ s20 = T20) := hT20
        have hL20 : T20.length ≤ T18.length + 1 + 3 := by rw [← hT20]; simp only [List.length_append, List.length_cons, List.length_nil]; omega
        rw [hT20] at X20
        clear hp20 hs20 hT20 hl20 X19
        go_wp2_with (at_builtin; refine wpList_append_lies _ rfl (.tmp 98) (.tmp 99) 36 rfl w2.heap.size 5 i5 (.int .u8 0) 1 1 Try.underlying36 hi hz0 hz1 hz2 rfl (by decide) _ _ _ rfl (World.ownsRow.alloc X20.own _) ⟨w20.heap.size, 0, none⟩ 1 1 [.int .u8 58] rfl rfl (World.news_of_block (heap_alloc_new w20 _)) (by simp [Value.oneCell']) (by omega) (by first | (unfold maxLen; omega) | (simp only [List.length_append, List.length_cons, List.length_nil]; unfold maxLen; omega)) (by first | omega | (simp only [List.length_append, List.length_cons, List.length_nil]; omega)) (by simp; omega) _ rfl ?_; intro g21 cap21 w21 hown21 hgrow21 hat21 hlt21; have X21 := X20.push (Nat.le_refl _) rfl hown21 hgrow21)
        have hsz21 := X21.le (Nat.le_refl _)
        clear X20 hown21 hgrow21 hat21
        refine (pad_any w2.heap.size _ _ ws ks _ w21 X21.own (by omega) hw0 hw1 hk0 hk1 (by omega) (by omega) (by first | omega | (simp only [List.length_append, List.length_cons, List.length_nil]; omega))).mono ?_
        rintro e w22 ⟨v22, rfl, hp22⟩
        obtain ⟨s22, hs22, hl22, X22⟩ := X21.pad hp22
        have HS22 : Hid (∀ c ∈ s22, isSp c = true) := hs22
        have hsz22 := X22.le (Nat.le_refl _)
        obtain ⟨T22, hT22⟩ : ∃ L, T20 ++ [58] ++ s22 = L := ⟨_, rfl⟩
        have HT22 : Hid (T20 ++ [58] ++ s22 = T22) := hT22
        have hL22 : T22.length ≤ T20.length + 1 + 3 := by rw [← hT22]; simp only [List.length_append, List.length_cons, List.length_nil]; omega
        rw [hT22] at X22
        clear hp22 hs22 hT22 hl22 X21
        have hcv22 := HCV.out w22 X22.bel
        go_wp2_with fail
        refine (uint_any w2.heap.size _ _ x w22 X22.own hsz22 hxb (by omega)).mono ?_
        rintro e w23 ⟨v23, rfl, hp23⟩
        obtain ⟨s23, hs23, hl23, X23⟩ := X22.dig hp23
        have HS23 : Hid (∀ c ∈ s23, 48 ≤ c ∧ c ≤ 57) := hs23
        have hsz23 := X23.le (Nat.le_refl _)
        obtain ⟨T23, hT23⟩ : ∃ L, T22 ++ s23 = L := ⟨_, rfl⟩
        have HT23 : Hid (T22 ++ s23 = T23) := hT23
        have hL23 : T23.length ≤ T22.length + 20 := by rw [← hT23]; simp only [List.length_append]; omega
        rw [hT23] at X23
        clear hp23 hs23 X22 hcv22 hT23 hl23
        go_wp2_with fail
        refine (pad_any w2.heap.size _ _ ws ks _ w23 X23.own (by omega) hw0 hw1 hk0 hk1 (by omega) (by omega) (by first | omega | (simp only [List.length_append, List.length_cons, List.length_nil]; omega))).mono ?_
        rintro e w24 ⟨v24, rfl, hp24⟩
        obtain ⟨s24, hs24, hl24, X24⟩ := X23.pad hp24
        have HS24 : Hid (∀ c ∈ s24, isSp c = true) := hs24
        have hsz24 := X24.le (Nat.le_refl _)
        obtain ⟨T24, hT24⟩ : ∃ L, T23 ++ s24 = L := ⟨_, rfl⟩
        have HT24 : Hid (T23 ++ s24 = T24) := hT24
        have hL24 : T24.length ≤ T23.length + 3 := by rw [← hT24]; simp only [List.length_append, List.length_cons, List.length_nil]; omega
        rw [hT24] at X24
        clear hp24 hs24 hT24 hl24 X23
        have hA24 := (((HA2.out.entry (bytesOf_rng s) HS20.out).plain (sp_plain HS22.out)).plain (dig_plain HS23.out)).plain (sp_plain HS24.out)
        rw [HT18.out, HT20.out, HT22.out, HT23.out, HT24.out] at hA24
        have hL25 : T24.length ≤ 100 + 6 * t1 := by omega
        have HA24 : Hid (Adds T24 (i + 1)) := hA24
        clear hA24
        go_wp2
        go_roundw
        case rel => exact ⟨i + 1, p + 4, _, by go_num, by go_num, by omega, by omega, X24, HA24.out, by rw [HT1.out]; exact hL25⟩
        case measure => simp [intOf]; omega
    · have hiN2 : i = N := by omega
      have hlt' : ¬ (i : Int) < (N : Int) := by omega
      have htt := tot_take ss i
      have hL' : T.length ≤ 100 + 6 * 131072 := by omega
      clear hiN2
      go_wp2_with (at_builtin; refine wpList_append_lies _ rfl (.tmp 121) (.tmp 122) 36 rfl w2.heap.size 5 i5 (.int .u8 0) 1 1 Try.underlying36 hi hz0 hz1 hz2 rfl (by decide) _ _ _ rfl (World.ownsRow.alloc X.own _) ⟨wr.heap.size, 0, none⟩ 1 1 [.int .u8 125] rfl rfl (World.news_of_block (heap_alloc_new wr _)) (by simp [Value.oneCell']) (by omega) (by first | (unfold maxLen; omega) | (simp only [List.length_append, List.length_cons, List.length_nil]; unfold maxLen; omega)) (by first | omega | (simp only [List.length_append, List.length_cons, List.length_nil]; omega)) (by simp; omega) _ rfl ?_; intro g7 cap7 w7 hown7 hgrow7 hat7 hlt7; have X7 := X.push (Nat.le_refl _) rfl hown7 hgrow7)
      have hsz7 := X7.le (Nat.le_refl _)
      clear X hown7 hgrow7 hat7
      refine (pad_any w2.heap.size _ _ ws ks _ w7 X7.own (by omega) hw0 hw1 hk0 hk1 (by omega) (by omega) (by first | omega | (simp only [List.length_append, List.length_cons, List.length_nil]; omega))).mono ?_
      rintro e w8 ⟨v8, rfl, hp8⟩
      obtain ⟨s8, hs8, hl8, X8⟩ := X7.pad hp8
      have HS8 : Hid (∀ c ∈ s8, isSp c = true) := hs8
      have hsz8 := X8.le (Nat.le_refl _)
      obtain ⟨T8, hT8⟩ : ∃ L, T ++ [125] ++ s8 = L := ⟨_, rfl⟩
      have HT8 : Hid (T ++ [125] ++ s8 = T8) := hT8
      have hL8 : T8.length ≤ T.length + 1 + 3 := by rw [← hT8]; simp only [List.length_append, List.length_cons, List.length_nil]; omega
      rw [hT8] at X8
      clear hp8 hs8 hT8 hl8 X7
      have hA8 := (HA.out.plain (s := [125]) (by simp)).plain (sp_plain HS8.out)
      have hL9 : 0 < T8.length := by rw [← HT8.out]; simp only [List.length_append, List.length_cons, List.length_nil]; omega
      rw [HT8.out] at hA8
      obtain ⟨g9, cap9, rfl, -, -⟩ := X8.own.form hL9
      have hcn := hA8.all (T8.length + 1) (by omega)
      have hD : bytesAt w8 (.slice (some ⟨g9, 0, none⟩) T8.length cap9) T8 := sliceAt_of_owns X8.own (by omega)
      have hiN2 : i = N := by omega
      rw [hiN2] at hcn
      clear hA8 hiN2
      go_wp2_with fail
      refine (zzcount_any _ cap9 T8.length T8 N w8 rfl hD (by omega) hcn).mono ?_
      rintro e w9 ⟨rfl, hb9⟩
      have hb10 := below_then5 (X8.bel.mono (Nat.le_refl _)) (Nat.le_refl _) hb9
      clear hcn hD X8 hb9
      go_wp2
      go_ret
      exact ⟨by simp, below_then5 hb02 (Nat.le_refl _) hb10⟩

end Go.Proofs.Qxb6002691a
