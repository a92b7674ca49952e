/-
  Seat b6002691a: FnSkipStringStepsOverAnEscapedString answers true.
-/
import Derived.Test.Qxb6002691aPlain4
import Derived.Laws.AppendOwnNone
namespace Go.Proofs.Qxb6002691a
open Go.RowKit
set_option linter.unusedSimpArgs false
set_option linter.unusedVariables false

theorem below_then {B : Nat} {a w w' : World} (h : Below B a w) (hB : B ≤ a.heap.size) (h' : Below w.heap.size w w') : Below B a w' := h.trans (h'.mono (Nat.le_trans hB h.size))

theorem cloneBytes_any2 (v : Value) (bs : List Int) (w : World) (h : bytesAt w v bs) (hm : bs.length ≤ 1048576) :
    Calls Try.prog 23 #[v] w fun e w' => ∃ v', e = .returned v' ∧ bytesAt w' v' bs ∧ (v' = .slice none 0 0 ∧ bs = [] ∨ ∃ g, v' = .slice (some ⟨g, 0, none⟩) bs.length bs.length) ∧ Below w.heap.size w w' := by
  obtain ⟨a, cap, rfl, hl, hm', hc⟩ := h
  cases a with
  | none =>
    have h0 : bs = [] := by
      rcases hc with h | ⟨b, o, h, _⟩
      · exact List.eq_nil_of_length_eq_zero h
      · cases h
    subst h0
    refine (cloneBytes_nil w _ cap).mono ?_
    rintro e w' ⟨rfl, rfl⟩
    exact ⟨_, rfl, ⟨none, 0, rfl, rfl, by simp, .inl rfl⟩, .inl ⟨rfl, rfl⟩, Below.refl _ _⟩
  | some a =>
    refine (cloneBytes_some a bs.length cap bs w rfl hm ?_).mono ?_
    · rcases hc with h | ⟨b, o, h, h'⟩
      · exact .inl h
      · exact .inr ⟨b, o, by simpa using h, h'⟩
    · rintro e w' ⟨rfl, hown, hb⟩
      exact ⟨_, rfl, sliceAt_of_owns hown (by omega), .inr ⟨_, rfl⟩, hb⟩

set_option maxHeartbeats 400000 in
theorem bytes25 (a1 a2 : Option Addr) (l1 l2 c1 c2 : Nat) (w : World) : Calls Try.prog 25 #[.slice a1 l1 c1, .slice a2 l2 c2] w fun e w' => RetBool True e ∧ w' = w := by
  go_enter Try.func25, Try.ntmps25
  go_wp2
  all_goals
    go_ret
    exact ⟨⟨_, rfl, fun _ => trivial⟩, rfl⟩

theorem news_at {w : World} {g n cap : Nat} {ts : List Int} (h : bytesAt w (.slice (some ⟨g, 0, none⟩) n cap) ts) : ∀ j u, (ts.map (Value.int .u8))[j]? = some u → w.cell? ((⟨g, 0, none⟩ : Addr).add j) = some u := by
  intro j u hj
  obtain ⟨a', cap', hv, h1, h2, h3⟩ := h
  injection hv with e1 e2 e3
  rcases h3 with h0 | ⟨b, o, hb, h⟩
  · rw [List.eq_nil_of_length_eq_zero h0] at hj; simp at hj
  · rw [← e1] at hb
    injection hb with hb
    injection hb with hb1 hb2
    subst hb1 hb2
    have e0 : (⟨g, 0, none⟩ : Addr).add j = ⟨g, 0 + j, none⟩ := Addr.add_mid _ _ _
    rw [e0]
    exact h j u hj

theorem owned_bytes {base : Nat} {w w' : World} {v : Value} {xs : List Int} (h : w.ownsRow base 5 1 v xs.length (xs.map (Value.int .u8))) (hn : xs.length ≤ 9223372036854775807) : bytesAt w v xs := by
  rcases h.2 with ⟨rfl, h0⟩ | ⟨g, cap, cur, rfl, _⟩
  · have : xs = [] := List.eq_nil_of_length_eq_zero h0
    subst this
    exact ⟨none, 0, rfl, rfl, by simp, .inl rfl⟩
  · exact sliceAt_of_owns h hn

theorem zzskip_n (a : Option Addr) (cap n : Nat) (D : List Int) (R : Bool × Bool × Nat) (w : World) (hn : D.length = n) (hD : bytesAt w (.slice a n cap) D) (h1 : 1 ≤ n) (hm : n ≤ 1099511627776) (hR : at' D 1 false = R) :
    Calls Try.prog 24 #[.slice a n cap, .int .i64 1] w fun e w' => e = .returned (.tuple #[.bool R.1, .bool R.2.1, .int .i64 R.2.2]) ∧ Below w.heap.size w w' := by
  subst hn
  subst hR
  exact zzskip_any a cap D 1 w hD h1 hm

set_option maxRecDepth 10000 in
set_option maxHeartbeats 2000000 in
theorem law4_any (a1 a2 : Option Addr) (c1 c2 : Nat) (bs ts : List Int) (w : World) (h1 : bytesAt w (.slice a1 bs.length c1) bs) (h2 : bytesAt w (.slice a2 ts.length c2) ts) (hr : ∀ c ∈ bs, 0 ≤ c ∧ c ≤ 255) :
    Calls Try.prog 7 #[.slice a1 bs.length c1, .slice a2 ts.length c2] w fun e w' => e = .returned (.bool true) ∧ Below w.heap.size w w' := by
  obtain ⟨i5, hi, hz0, hz1, hz2⟩ := info_parts Try.info5
  have HR : Hid (∀ c ∈ bs, 0 ≤ c ∧ c ≤ 255) := hr
  clear hr
  go_enter Try.func7, Try.ntmps7
  go_wp2_with fail
  refine (bytes25 a1 a2 _ _ c1 c2 w).mono ?_
  rintro e w ⟨⟨b1, rfl, -⟩, rfl⟩
  cases b1
  · go_wp2
    go_ret
    exact ⟨rfl, Below.refl _ _⟩
  go_wp2_with fail
  all_goals (try (go_ret; exact ⟨rfl, Below.refl _ _⟩))
  have hl1 : bs.length ≤ 65536 := by omega
  have hl2 : ts.length ≤ 65536 := by omega
  refine (cloneBytes_any2 _ bs w h1 (by omega)).mono ?_
  rintro e w1 ⟨v1, rfl, hv1, -, hb1⟩
  obtain ⟨e1, d1, rfl, -⟩ := id hv1
  go_wp2_with fail
  refine (cloneBytes_any2 _ ts w1 (h2.below hb1) (by omega)).mono ?_
  rintro e w2 ⟨v2, rfl, hv2, hf2, hb2⟩
  have hv1' : bytesAt w2 (.slice e1 bs.length d1) bs := hv1.below hb2
  have hb02 : Below w.heap.size w w2 := below_then hb1 (Nat.le_refl _) hb2
  clear hv1 hb1 hb2 h1 h2
  obtain ⟨e2, d2, hve2, -⟩ := id hv2
  have hve3 : Hid (v2 = .slice e2 ts.length d2) := hve2
  subst hve2
  have hmul : IntKind.i64.wrap (6 * (bs.length : Int)) = 6 * (bs.length : Int) := by rw [IntKind.wrap_i64]; omega
  go_wp2_with (first
    | (at_make; refine wpList_make_own _ rfl _ _ 36 rfl w2.heap.size 5 i5 (.int .u8 0) 1 Try.underlying36 hi hz0 hz1 _ _ _ (2 + 6 * bs.length + ts.length) rfl rfl (by omega) (by rw [hz2]; omega) (by unfold maxLen; omega) (Nat.le_refl _) ?_; intro w3 hown3 hgrow3)
    | (at_builtin; refine wpList_append_lies _ rfl (.tmp 36) (.tmp 37) 36 rfl w2.heap.size 5 i5 (.int .u8 0) 1 1 Try.underlying36 hi hz0 hz1 hz2 rfl (by decide) _ _ _ rfl (hown3.alloc _) ⟨w3.heap.size, 0, none⟩ 1 1 [.int .u8 34] rfl rfl (World.news_of_block (heap_alloc_new w3 _)) (by simp [Value.oneCell']) (by omega) (by unfold maxLen; omega) (by omega) (by have := hgrow3.size; simp; omega) _ rfl ?_; intro g4 cap4 w4 hown4 hgrow4 hat4 hlt4))
  have hb3 : Below w2.heap.size w2 w3 := (Below.refl _ _).grown hgrow3 (Nat.le_refl _) (by simp)
  have hb4 : Below w2.heap.size w2 w4 := own_below (hb3.alloc hb3.size _) (Nat.le_refl _) (hown3.alloc _) hgrow4
  have hown4' : w4.ownsRow w2.heap.size 5 1 (.slice (some ⟨g4, 0, none⟩) 1 cap4) ([34] : List Int).length (([34] : List Int).map (Value.int .u8)) := by simpa using hown4
  clear hown3 hgrow3 hown4 hgrow4 hat4 hb3
  refine (escape_any w2.heap.size _ [34] e1 d1 bs w4 hown4' hb4.size (fun w' hb => hv1'.below (hb4.trans hb)) HR.out (by simp; omega)).mono ?_
  rintro e w5 ⟨v5, rfl, hown5, hb5⟩
  have hb05 : Below w2.heap.size w2 w5 := hb4.trans hb5
  have hlen5 := escs_len bs
  obtain ⟨ys, hys⟩ : ∃ ys : List Int, [34] ++ bs.flatMap esc1 = ys := ⟨_, rfl⟩
  have HYS : Hid ([34] ++ bs.flatMap esc1 = ys) := hys
  have hyl : ys.length ≤ 400000 := by rw [← hys]; simp only [List.length_append, List.length_cons, List.length_nil]; omega
  have hyp : 0 < ys.length := by rw [← hys]; simp
  rw [hys] at hown5
  obtain ⟨g5, cap5, rfl, -, -⟩ := hown5.form hyp
  have hat := at_esc ts bs HR.out
  rw [hys] at hat
  have HAT : Hid (at' (ys ++ [34] ++ ts) 1 false = (bs.any need, true, ys.length + 1)) := hat
  have HV1 : Hid (bytesAt w2 (.slice e1 bs.length d1) bs) := hv1'
  clear hb4 hb5 hown4' hys hlen5 hat hv1' hmul
  have hfin : ∃ (A : Prop), A := ⟨True, trivial⟩
  rcases hf2 with ⟨he, rfl⟩ | ⟨g, he⟩
  · injection he with q1 q2 q3
    subst q1 q3
    go_wp2_with (first
      | (at_builtin; refine wpList_append_lies _ rfl (.tmp 44) (.tmp 45) 36 rfl w2.heap.size 5 i5 (.int .u8 0) 1 1 Try.underlying36 hi hz0 hz1 hz2 rfl (by decide) _ _ _ rfl (hown5.alloc _) ⟨w5.heap.size, 0, none⟩ 1 1 [.int .u8 34] rfl rfl (World.news_of_block (heap_alloc_new w5 _)) (by simp [Value.oneCell']) (by omega) (by unfold maxLen; omega) (by omega) (by have := hb05.size; simp; omega) _ rfl ?_; intro g6 cap6 w6 hown6 hgrow6 hat6 hlt6)
      | (at_builtin; refine wpList_append_own_none rfl (.tmp 47) (.tmp 48) 36 rfl w2.heap.size 5 i5 1 Try.underlying36 hi _ _ _ rfl hown6 rfl ?_))
    have hb6 : Below w2.heap.size w2 w6 := own_below (hb05.alloc hb05.size _) (Nat.le_refl _) (hown5.alloc _) hgrow6
    have hD : bytesAt w6 (.slice (some ⟨g6, 0, none⟩) (ys.length + 1) cap6) (ys ++ [34] ++ []) := by
      have := owned_bytes (w' := w6) (xs := ys ++ [34] ++ []) (v := .slice (some ⟨g6, 0, none⟩) (ys.length + 1) cap6) (base := w2.heap.size) (w := w6) (by simpa using hown6) (by simp; omega)
      exact this
    clear hown5 hown6 hgrow6 hat6 hb05
    refine (zzskip_n _ _ _ _ _ w6 (by simp) hD (by omega) (by omega) HAT.out).mono ?_
    rintro e w8 ⟨rfl, hb8⟩
    have hb9 : Below w2.heap.size w2 w8 := below_then hb6 (Nat.le_refl _) hb8
    clear hb6 hb8 hD hlt6
    go_wp2
    go_loopw [10, 11] (fun nd i wr => ∃ k : Nat, k ≤ bs.length ∧ i = .int .i64 k ∧ nd = .bool ((bs.take k).any need) ∧ wr = w8) (fun _ i _ => bs.length - (intOf i).toNat)
    case atStart => exact ⟨0, Nat.zero_le _, rfl, by simp, rfl⟩
    case round =>
      obtain ⟨k, hk, rfl, rfl, rfl⟩ := hrel
      obtain ⟨B, hB⟩ : ∃ B, (bs.take k).any need = B := ⟨_, rfl⟩
      rw [hB]
      have HB : Hid ((bs.take k).any need = B) := hB
      clear hB
      by_cases hlt : k < bs.length
      · obtain ⟨c, hc⟩ : ∃ c, bs[k] = c := ⟨_, rfl⟩
        obtain ⟨b, o, rfl, hck⟩ : ∃ b o, e1 = some ⟨b, o, none⟩ ∧ wr.cell? ⟨b, o + k, none⟩ = some (.int .u8 c) := by
          obtain ⟨a', cap', hv, h1, h2, h3⟩ := HV1.out.below hb9
          cases hv
          rcases h3 with h | ⟨b, o, rfl, h⟩
          · omega
          · exact ⟨b, o, rfl, by rw [← hc]; exact h k _ (by simp [hlt])⟩
        have HN : Hid ((bs.take (k + 1)).any need = (B || need c)) := by
          show _ = _
          rw [List.take_succ_eq_append_getElem hlt, List.any_append, HB.out, hc]; simp
        clear hc
        have hlt' : (k : Int) < (bs.length : Int) := by omega
        by_cases h34 : c = 34
        · subst h34
          go_wp2
          go_roundw
          case rel => exact ⟨k + 1, by omega, by go_num, by rw [HN.out]; simp [need], trivial⟩
          case measure => simp [intOf]; omega
        by_cases h92 : c = 92
        · subst h92
          go_wp2
          go_roundw
          case rel => exact ⟨k + 1, by omega, by go_num, by rw [HN.out]; simp [need], trivial⟩
          case measure => simp [intOf]; omega
        have e34 : (c == 34) = false := by simpa using h34
        have e92 : (c == 92) = false := by simpa using h92
        by_cases h32 : c < 32
        · go_wp2
          go_roundw
          case rel => exact ⟨k + 1, by omega, by go_num, by rw [HN.out]; simp [need, h32], trivial⟩
          case measure => simp [intOf]; omega
        · have h32' : 32 ≤ c := by omega
          go_wp2
          go_roundw
          case rel => exact ⟨k + 1, by omega, by go_num, by rw [HN.out]; simp [need, e34, e92]; omega, trivial⟩
          case measure => simp [intOf]; omega
      · have hke : k = bs.length := by omega
        have HB2 : bs.any need = B := by rw [← HB.out, hke, List.take_length]
        rw [HB2]
        go_wp2
        go_ret
        exact ⟨by simp, below_then hb02 (Nat.le_refl _) hb9⟩
  · injection he with q1 q2 q3
    subst q1 q3
    go_wp2_with (first
      | (at_builtin; refine wpList_append_lies _ rfl (.tmp 44) (.tmp 45) 36 rfl w2.heap.size 5 i5 (.int .u8 0) 1 1 Try.underlying36 hi hz0 hz1 hz2 rfl (by decide) _ _ _ rfl (hown5.alloc _) ⟨w5.heap.size, 0, none⟩ 1 1 [.int .u8 34] rfl rfl (World.news_of_block (heap_alloc_new w5 _)) (by simp [Value.oneCell']) (by omega) (by unfold maxLen; omega) (by omega) (by have := hb05.size; simp; omega) _ rfl ?_; intro g6 cap6 w6 hown6 hgrow6 hat6 hlt6; have hb6 : Below w2.heap.size w2 w6 := own_below (hb05.alloc hb05.size _) (Nat.le_refl _) (hown5.alloc _) hgrow6)
      | (at_builtin; refine wpList_append_own _ rfl (.tmp 47) (.tmp 48) 36 rfl w2.heap.size 5 i5 (.int .u8 0) 1 1 Try.underlying36 hi hz0 hz1 hz2 rfl (by decide) _ _ _ rfl hown6 ⟨g, 0, none⟩ ts.length ts.length (ts.map (Value.int .u8)) rfl (by simp) (news_at (hv2.below hb6)) (ints_oneCell _ _) (by unfold maxLen; omega) (by omega) hb6.size ?_; intro v7 w7 hown7 hgrow7 hnil7))
    have hb7 : Below w2.heap.size w2 w7 := own_below hb6 (Nat.le_refl _) hown6 hgrow7
    have hD : bytesAt w7 v7 (ys ++ [34] ++ ts) := owned_bytes (w' := w7) (base := w2.heap.size) (by simpa [Nat.add_assoc, Nat.add_comm 1] using hown7) (by simp; omega)
    obtain ⟨g7, cap7, rfl, -, -⟩ := hown7.form (by omega)
    clear hown5 hown6 hgrow6 hat6 hb05 hown7 hgrow7 hnil7 hb6
    refine (zzskip_n _ _ _ _ _ w7 (by simp; omega) hD (by omega) (by omega) HAT.out).mono ?_
    rintro e w8 ⟨rfl, hb8⟩
    have hb9 : Below w2.heap.size w2 w8 := below_then hb7 (Nat.le_refl _) hb8
    clear hb7 hb8 hD hlt6
    go_wp2
    go_loopw [10, 11] (fun nd i wr => ∃ k : Nat, k ≤ bs.length ∧ i = .int .i64 k ∧ nd = .bool ((bs.take k).any need) ∧ wr = w8) (fun _ i _ => bs.length - (intOf i).toNat)
    case atStart => exact ⟨0, Nat.zero_le _, rfl, by simp, rfl⟩
    case round =>
      obtain ⟨k, hk, rfl, rfl, rfl⟩ := hrel
      obtain ⟨B, hB⟩ : ∃ B, (bs.take k).any need = B := ⟨_, rfl⟩
      rw [hB]
      have HB : Hid ((bs.take k).any need = B) := hB
      clear hB
      by_cases hlt : k < bs.length
      · obtain ⟨c, hc⟩ : ∃ c, bs[k] = c := ⟨_, rfl⟩
        obtain ⟨b, o, rfl, hck⟩ : ∃ b o, e1 = some ⟨b, o, none⟩ ∧ wr.cell? ⟨b, o + k, none⟩ = some (.int .u8 c) := by
          obtain ⟨a', cap', hv, h1, h2, h3⟩ := HV1.out.below hb9
          cases hv
          rcases h3 with h | ⟨b, o, rfl, h⟩
          · omega
          · exact ⟨b, o, rfl, by rw [← hc]; exact h k _ (by simp [hlt])⟩
        have HN : Hid ((bs.take (k + 1)).any need = (B || need c)) := by
          show _ = _
          rw [List.take_succ_eq_append_getElem hlt, List.any_append, HB.out, hc]; simp
        clear hc
        have hlt' : (k : Int) < (bs.length : Int) := by omega
        by_cases h34 : c = 34
        · subst h34
          go_wp2
          go_roundw
          case rel => exact ⟨k + 1, by omega, by go_num, by rw [HN.out]; simp [need], trivial⟩
          case measure => simp [intOf]; omega
        by_cases h92 : c = 92
        · subst h92
          go_wp2
          go_roundw
          case rel => exact ⟨k + 1, by omega, by go_num, by rw [HN.out]; simp [need], trivial⟩
          case measure => simp [intOf]; omega
        have e34 : (c == 34) = false := by simpa using h34
        have e92 : (c == 92) = false := by simpa using h92
        by_cases h32 : c < 32
        · go_wp2
          go_roundw
          case rel => exact ⟨k + 1, by omega, by go_num, by rw [HN.out]; simp [need, h32], trivial⟩
          case measure => simp [intOf]; omega
        · have h32' : 32 ≤ c := by omega
          go_wp2
          go_roundw
          case rel => exact ⟨k + 1, by omega, by go_num, by rw [HN.out]; simp [need, e34, e92]; omega, trivial⟩
          case measure => simp [intOf]; omega
      · have hke : k = bs.length := by omega
        have HB2 : bs.any need = B := by rw [← HB.out, hke, List.take_length]
        rw [HB2]
        go_wp2
        go_ret
        exact ⟨by simp, below_then hb02 (Nat.le_refl _) hb9⟩

end Go.Proofs.Qxb6002691a
