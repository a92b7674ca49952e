/-
  Seat b6002912a: FnTakeScriptKeepsSeqMinusEvents answers true.
-/
import Derived.Test.Qxb6002912aBase
namespace Go.Proofs.Qxb6002912a
open Go.RowKit
set_option linter.unusedSimpArgs false
set_option linter.unusedVariables false

theorem q32 (w : World) (a : Option Addr) (n c n' c' : Nat) : (binOp .neq 32 (.slice a n c) (.slice none n' c')).run Try.prog w = .ok (.bool (!a.isNone)) w := by
  simp only [binOp]
  simp [Op.equal, Op.maxDepth, Lib.run_equalIn_slice_nil w 9999 32 _ a n c n' c' Try.underlying32]

def TotRel (ss : List ByteArray) (w : World) (n i : Value) (wr : World) : Prop := ∃ (k m : Nat), k ≤ ss.length ∧ i = .int .i64 k ∧ n = .int .i64 m ∧ m ≤ 4000000 ∧ w = wr

def wk (x : Int) (k : Nat) : Int := IntKind.i64.wrap (x + k)
theorem wk_zero {x : Int} (h0 : -9223372036854775808 ≤ x) (h1 : x ≤ 9223372036854775807) : wk x 0 = x := by unfold wk; rw [IntKind.wrap_i64]; omega
theorem wk_next (x : Int) (k : Nat) : IntKind.i64.wrap (wk x k + 1) = wk x (k + 1) := by unfold wk; simp only [IntKind.wrap_i64]; omega
theorem wk_gap (x y : Int) (k : Nat) : IntKind.i64.wrap (wk x k - wk y k) = IntKind.i64.wrap (x - y) := by unfold wk; simp only [IntKind.wrap_i64]; omega

/-- The head behind k takes. -/
def headOf (hd : ByteArray) (ss : List ByteArray) (k : Nat) : ByteArray := if k = 0 then hd else (ss[k - 1]?).getD hd
def TkRel (sq ev : Int) (hd : ByteArray) (ss : List ByteArray) (g : Nat) (w0 : World) (i : Value) (wr : World) : Prop := ∃ k : Nat, k ≤ ss.length ∧ i = .int .i64 k ∧ WK wr g (wk ev k) (headOf hd ss k) (wk sq k) ∧ Below g w0 wr

theorem size9 : (Try.prog.info? 9).map (·.size) = some 1 := by kernel_rfl
theorem own_cur {w : World} {base e g n cap : Nat} {xs : List Value} (h : w.ownsRow base e 1 (.slice (some ⟨g, 0, none⟩) n cap) n xs) : ∃ cur : List Value, w.heap[g]? = some (.cells cur.toArray e (0, 0)) ∧ cur.length = cap := by
  rcases h.2 with ⟨h, _⟩ | ⟨g', cap', cur, hv, _, hg, _, _, hc, _⟩
  · cases h
  · injection hv with q1 q2 q3
    injection q1 with q1
    injection q1 with q1
    subst q1 q3
    exact ⟨cur.toList, by simpa using hg, by simpa using hc⟩
theorem strs_one (ss : List ByteArray) : ∀ v ∈ ss.map Value.string, v.oneCell' = true := by
  intro v hv
  obtain ⟨s, _, rfl⟩ := List.mem_map.1 hv
  rfl
theorem copy_pos {w : World} {ad : Addr} {g n cap : Nat} {ss : List ByteArray} (h : strsAt w (.slice (some ad) n cap) ss) : 0 < (ss.map Value.string).length → (some (⟨g, 0, none⟩ : Addr)) = some ⟨g, 0, none⟩ ∧ ∃ a, some ad = some a ∧ ∀ j v, (ss.map Value.string)[j]? = some v → w.cell? (a.add j) = some v := by
  intro hp
  refine ⟨rfl, ad, rfl, fun j v hv => ?_⟩
  obtain ⟨a', cap', hv', h1, h2, h3⟩ := h
  injection hv' with q1 q2 q3
  rcases h3 with h | ⟨b, o, hb, h⟩
  · simp [h] at hp
  · rw [← q1] at hb
    injection hb with hb
    subst hb
    rw [Addr.add_mid]
    exact h j v hv
theorem strs_of_block {w : World} {g : Nat} {cur : List Value} {ss : List ByteArray} (h : w.heap[g]? = some (.cells (splice cur 0 (ss.map Value.string)).toArray 9 (0, 0))) (hc : cur.length = ss.length) (hl : ss.length ≤ 65536) : strsAt w (.slice (some ⟨g, 0, none⟩) ss.length ss.length) ss := by
  refine ⟨_, _, rfl, by simp, by omega, .inr ⟨g, 0, rfl, fun j v hv => ?_⟩⟩
  rw [Nat.zero_add, cell_of_row w g j _ 9 (0, 0) h]
  have e : splice cur 0 (ss.map Value.string) = ss.map Value.string := by simp [splice, hc]
  rw [e]
  simpa using hv

theorem copy_run {w w1 : World} {g cap : Nat} {ad : Addr} {cur : List Value} {ss : List ByteArray} (h : strsAt w1 (.slice (some ad) ss.length cap) ss) (hcur : w1.heap[g]? = some (.cells cur.toArray 9 (0, 0))) (hc : cur.length = ss.length) (hl : ss.length ≤ 65536) (hb : Below g w w1) :
    ∃ w2, Sem.run Try.prog (Builtin.copy_ #[32, 32] 3 #[.slice (some ⟨g, 0, none⟩) ss.length ss.length, .slice (some ad) ss.length cap]) w1 = .ok (goInt ss.length) w2 ∧ strsAt w2 (.slice (some ⟨g, 0, none⟩) ss.length ss.length) ss ∧ Below g w w2 ∧ g < w2.heap.size := by
  have hgl : g < w1.heap.size := (Array.getElem?_eq_some_iff.1 hcur).1
  by_cases h0 : ss.length = 0
  · refine ⟨w1, ?_, ?_, hb, hgl⟩
    · rw [run_copy_none w1 32 32 3 9 _ _ _ _ _ _ Try.underlying32 size9 (by rw [h0]; rfl), h0]; rfl
    · refine ⟨_, _, rfl, by simp, by omega, .inl h0⟩
  · have hp := (copy_pos (g := g) h (by simp; omega)).2
    obtain ⟨a', ha', hsrc⟩ := hp
    injection ha' with ha'
    subst ha'
    refine ⟨w1.setRow g (cur.toArray.toList.take 0 ++ ss.map Value.string ++ cur.toArray.toList.drop (0 + (ss.map Value.string).length)).toArray, ?_, ?_, ?_, by simpa using hgl⟩
    · rw [run_copy_row Try.prog w1 32 32 3 9 g 0 _ _ ad _ _ cur.toArray 9 (ss.map Value.string) Try.underlying32 size9 hcur (by rw [List.length_map]; exact (Nat.min_self _).symm) hsrc (by simp [hc]) (strs_one ss), List.length_map]
    · refine strs_of_block (cur := cur) ?_ hc hl
      have := setRow_heap w1 g _ (splice cur 0 (ss.map Value.string)).toArray 9 _ hcur
      simpa [splice] using this
    · exact below_setRow hb (Nat.le_refl _) _

set_option maxRecDepth 10000 in
set_option maxHeartbeats 2000000 in
theorem law6_any (sq ev : Int) (hd : ByteArray) (a : Option Addr) (cap : Nat) (ss : List ByteArray) (w : World) (h : strsAt w (.slice a ss.length cap) ss)
    (hs0 : -9223372036854775808 ≤ sq) (hs1 : sq ≤ 9223372036854775807) (he0 : -9223372036854775808 ≤ ev) (he1 : ev ≤ 9223372036854775807) :
    Calls Try.prog 5 #[.int .i64 sq, .int .i64 ev, .string hd, .slice a ss.length cap] w fun e w' => e = .returned (.bool true) ∧ Below w.heap.size w w' := by
  obtain ⟨i9, hi, hz0, hz1, hz2⟩ := info_parts Try.info9
  have hq := q32
  go_enter Try.func5, Try.ntmps5
  go_wp2_with fail
  refine (bytes14 a cap sq ev hd ss w h).mono ?_
  rintro e w ⟨⟨b1, rfl, hal⟩, rfl⟩
  cases b1
  · go_wp2
    go_ret
    exact ⟨rfl, Below.refl _ _⟩
  have HAL : Hid (∀ s ∈ ss, s.size ≤ 1048576) := hal rfl
  clear hal
  go_wp2
  all_goals (try (go_ret; exact ⟨rfl, Below.refl _ _⟩))
  have hl1 : ss.length ≤ 65536 := by omega
  have hl2 : hd.size ≤ 1048576 := by omega
  go_loopw [9, 10] (fun n i wr => TotRel ss w n i wr) (fun _ i _ => ss.length - (intOf i).toNat)
  case atStart => exact ⟨0, hd.size + 16 * ss.length, Nat.zero_le _, rfl, by go_num, by omega, rfl⟩
  case round =>
    obtain ⟨k, m, hk, rfl, rfl, hn, rfl⟩ := hrel
    by_cases hlt : k < ss.length
    · obtain ⟨b, o, rfl, hck⟩ := h.cellAt hlt
      obtain ⟨s, hs⟩ : ∃ s, ss[k] = s := ⟨_, rfl⟩
      have hz : s.size ≤ 1048576 := by rw [← hs]; exact HAL.out _ (List.getElem_mem _)
      rw [hs] at hck
      clear hs
      have hlt' : (k : Int) < (ss.length : Int) := by omega
      go_wp2
      · go_ret
        exact ⟨rfl, Below.refl _ _⟩
      · go_roundw
        case rel => exact ⟨k + 1, m + s.size, hlt, by go_num, by go_num, by omega, rfl⟩
        case measure => simp [intOf]; omega
    · have hlt' : ¬ (k : Int) < (ss.length : Int) := by omega
      by_cases hm : m ≤ 1048576
      · have hm' : ¬ (1048576 : Int) < (m : Int) := by omega
        cases a with
        | none =>
          go_wp2
          have hbG : Below w.heap.size w w := Below.refl _ _
          have HH : Hid (strsAt w (.slice none ss.length cap) ss) := h
          clear hq
          generalize hG : w.alloc _ = G
          have hbA : Below w.heap.size w G := by rw [← hG]; exact (Below.refl _ _).alloc (Nat.le_refl _) _
          have hwk : WK G w.heap.size (wk ev 0) (headOf hd ss 0) (wk sq 0) := by
            have hh : G.heap[w.heap.size]? = some (.cells #[.string ByteArray.empty, .int .i64 ev, .string hd, .pointer none, .int .i64 sq, .int .i64 0, .string ByteArray.empty] 39 (0, 0)) := by rw [← hG]; exact heap_alloc_new _ _
            rw [wk_zero hs0 hs1, wk_zero he0 he1]
            exact ⟨by rw [cell_of_row G _ 1 _ 39 (0, 0) hh]; rfl, by rw [cell_of_row G _ 2 _ 39 (0, 0) hh]; rfl, by rw [cell_of_row G _ 4 _ 39 (0, 0) hh]; rfl, frozen_of_row G _ 1 _ 39 hh, frozen_of_row G _ 2 _ 39 hh, frozen_of_row G _ 4 _ 39 hh⟩
          clear hG
          go_loopw [14] (fun i wr' => TkRel sq ev hd ss w.heap.size G i wr') (fun i _ => ss.length - (intOf i).toNat)
          case atStart => exact ⟨0, Nat.zero_le _, rfl, hwk, Below.refl _ _⟩
          case round =>
            clear hwk
            obtain ⟨j, hj, rfl, hwj, hbj⟩ := hrel
            have HW : Hid (WK wr w.heap.size (wk ev j) (headOf hd ss j) (wk sq j)) := hwj
            clear hwj
            have hbW : Below w.heap.size w wr := hbA.trans hbj
            by_cases hjl : j < ss.length
            · obtain ⟨b, o, he, hck⟩ := (show strsAt wr _ ss from HH.out.below hbW).cellAt hjl
              cases he
            · have hjl' : ¬ (j : Int) < (ss.length : Int) := by omega
              have hje : j = ss.length := by omega
              subst hje
              have hl0 : ss.length = 0 := by
                obtain ⟨a', cap', hv, _, _, h3⟩ := HH.out
                rcases h3 with h | ⟨b, o, hb, _⟩
                · exact h
                · cases hv; cases hb
              have hss : ss = [] := List.eq_nil_of_length_eq_zero hl0
              subst hss
              have hW0 := HW.out
              have e1 : wk sq ([] : List ByteArray).length = sq := wk_zero hs0 hs1
              have e2 : wk ev ([] : List ByteArray).length = ev := wk_zero he0 he1
              have e3 : headOf hd [] ([] : List ByteArray).length = hd := rfl
              rw [e1, e2, e3] at hW0
              obtain ⟨x1, x2, x4, _, _, _⟩ := hW0
              clear e1 e2 e3 hjl' hjl hj HW
              go_wp2
              go_ret
              exact ⟨by simp, hbW⟩
        | some ad =>
          go_wp2_with (at_make; refine wpList_make_full _ rfl _ _ 32 rfl w.heap.size 9 i9 (.string ByteArray.empty) 1 Try.underlying32 hi hz0 hz1 _ _ _ _ ss.length rfl rfl rfl rfl (by rw [hz2]; omega) (by unfold maxLen; omega) (Nat.le_refl _) ?_; intro w1 hown hgrow; have hb1 : Below w.heap.size w w1 := (Below.refl _ _).grown hgrow (Nat.le_refl _) (by simp); obtain ⟨cur, hcur, hcl⟩ := own_cur hown; obtain ⟨w2, hrun, hs2, hb2, hs2lt⟩ := copy_run (show strsAt w1 (.slice (some ad) ss.length cap) ss from h.below hb1) hcur hcl hl1 hb1; clear hown hgrow hcur hcl hb1)
          have hbG : Below w.heap.size w w2 := hb2
          have HH : Hid (strsAt w2 (.slice (some ⟨w.heap.size, 0, none⟩) ss.length ss.length) ss) := hs2
          clear hq hrun
          generalize hG : w2.alloc _ = G
          have hbA : Below w2.heap.size w2 G := by rw [← hG]; exact (Below.refl _ _).alloc (Nat.le_refl _) _
          have hwk : WK G w2.heap.size (wk ev 0) (headOf hd ss 0) (wk sq 0) := by
            have hh : G.heap[w2.heap.size]? = some (.cells #[.string ByteArray.empty, .int .i64 ev, .string hd, .pointer none, .int .i64 sq, .int .i64 0, .string ByteArray.empty] 39 (0, 0)) := by rw [← hG]; exact heap_alloc_new _ _
            rw [wk_zero hs0 hs1, wk_zero he0 he1]
            exact ⟨by rw [cell_of_row G _ 1 _ 39 (0, 0) hh]; rfl, by rw [cell_of_row G _ 2 _ 39 (0, 0) hh]; rfl, by rw [cell_of_row G _ 4 _ 39 (0, 0) hh]; rfl, frozen_of_row G _ 1 _ 39 hh, frozen_of_row G _ 2 _ 39 hh, frozen_of_row G _ 4 _ 39 hh⟩
          clear hG
          go_loopw [14] (fun i wr' => TkRel sq ev hd ss w2.heap.size G i wr') (fun i _ => ss.length - (intOf i).toNat)
          case atStart => exact ⟨0, Nat.zero_le _, rfl, hwk, Below.refl _ _⟩
          case round =>
            clear hwk
            obtain ⟨j, hj, rfl, hwj, hbj⟩ := hrel
            have HW : Hid (WK wr w2.heap.size (wk ev j) (headOf hd ss j) (wk sq j)) := hwj
            clear hwj
            have hbW : Below w2.heap.size w2 wr := hbA.trans hbj
            by_cases hjl : j < ss.length
            · obtain ⟨b, o, he, hck⟩ := (show strsAt wr _ ss from HH.out.below hbW).cellAt hjl
              injection he with he
              injection he with q1 q2
              subst q1 q2
              obtain ⟨s, hs⟩ : ∃ s, ss[j] = s := ⟨_, rfl⟩
              rw [hs, Nat.zero_add] at hck
              have hhd : headOf hd ss (j + 1) = s := by simp [headOf, hjl, hs]
              have hjl' : (j : Int) < (ss.length : Int) := by omega
              go_wp2_with fail
              refine (take_any w2.heap.size _ _ s _ wr HW.out).mono ?_
              rintro e w3 ⟨rfl, hwk3, hb3⟩
              rw [wk_next, wk_next] at hwk3
              have hck3 : w3.cell? ⟨w.heap.size, j, none⟩ = some (.string s) := (hb3.cell (by show w.heap.size < _; have := hs2lt; omega)).trans hck
              have hgap := wk_gap sq ev (j + 1)
              have hsq : IntKind.i64.wrap (sq + ((j : Int) + 1)) = wk sq (j + 1) := rfl
              have HW3 : Hid (WK w3 w2.heap.size (wk ev (j + 1)) s (wk sq (j + 1))) := hwk3
              obtain ⟨x1, x2, x4, _, _, _⟩ := hwk3
              obtain ⟨S, hS⟩ : ∃ S, wk sq (j + 1) = S := ⟨_, rfl⟩
              obtain ⟨E, hE⟩ : ∃ E, wk ev (j + 1) = E := ⟨_, rfl⟩
              have HSS : Hid (wk sq (j + 1) = S) := hS
              have HEE : Hid (wk ev (j + 1) = E) := hE
              have HHD : Hid (headOf hd ss (j + 1) = s) := hhd
              rw [hS, hE] at hgap
              rw [hS] at hsq x4
              rw [hE] at x1
              clear hs hS hE hhd
              go_wp2
              go_quiet (fail)
              go_wp2
              go_quiet (fail)
              go_wp2
              go_roundw
              case rel => exact ⟨j + 1, by omega, by go_num, by rw [HHD.out]; exact HW3.out.drewN _, (hbj.trans hb3).trans (below_drewN _ _ _)⟩
              case measure => simp [intOf]; omega
            · have hjl' : ¬ (j : Int) < (ss.length : Int) := by omega
              have hje : j = ss.length := by omega
              subst hje
              have hW0 := HW.out
              have hsq : IntKind.i64.wrap (sq + (ss.length : Int)) = wk sq ss.length := rfl
              have hev : IntKind.i64.wrap (ev + (ss.length : Int)) = wk ev ss.length := rfl
              obtain ⟨x1, x2, x4, _, _, _⟩ := hW0
              have hbF : Below w.heap.size w wr := hbG.trans (hbW.mono hbG.size)
              by_cases hl0 : ss.length = 0
              · have hl0' : ¬ (0 : Int) < (ss.length : Int) := by omega
                have e3 : headOf hd ss ss.length = hd := by rw [hl0]; rfl
                rw [e3] at x2
                clear e3 hl0 hjl' hjl hj HW
                generalize wk sq ss.length = S at *
                generalize wk ev ss.length = E at *
                go_wp2
                go_ret
                exact ⟨by simp, hbF⟩
              · obtain ⟨n, hn⟩ : ∃ n, ss.length = n + 1 := ⟨ss.length - 1, by omega⟩
                obtain ⟨b, o, he, hck⟩ := (show strsAt wr _ ss from HH.out.below hbW).cellAt (show n < ss.length by omega)
                injection he with he
                injection he with q1 q2
                subst q1 q2
                have e3 : headOf hd ss ss.length = ss[n]'(by omega) := by
                  unfold headOf
                  rw [if_neg hl0, show ss.length - 1 = n by omega, List.getElem?_eq_getElem (by omega)]
                  rfl
                rw [e3] at x2
                obtain ⟨s, hs⟩ : ∃ s, ss[n]'(by omega) = s := ⟨_, rfl⟩
                rw [hs] at x2 hck
                rw [Nat.zero_add] at hck
                clear e3 hs hjl' hjl hj HW HH
                generalize wk sq ss.length = S at *
                generalize wk ev ss.length = E at *
                have hnb : n ≤ 65536 := by omega
                rw [hn] at hsq hev ⊢
                clear hn hl0
                have hsq2 : IntKind.i64.wrap (sq + ((n : Int) + 1)) = S := hsq
                have hev2 : IntKind.i64.wrap (ev + ((n : Int) + 1)) = E := hev
                clear hsq hev
                go_wp2
                go_ret
                exact ⟨by simp, hbF⟩
      · have hm' : (1048576 : Int) < (m : Int) := by omega
        go_wp2
        go_ret
        exact ⟨rfl, Below.refl _ _⟩

end Go.Proofs.Qxb6002912a
