/-
  Seat b6604712a: bytesSame, cloneBytes, cloneWords, votesBytes, votesIncreasing.
-/
import Derived.Test.Qxb6604712aBase
namespace Go.Proofs.Qxb6604712a
open Go.RowKit
set_option linter.unusedSimpArgs false
set_option linter.unusedVariables false

set_option maxHeartbeats 400000 in
theorem bytesSame_same (v : Value) (bs : List Int) (w : World) (h : bytesAt w v bs) :
    Calls Try.prog 43 #[v, v] w fun e w' => e = .returned (.bool true) ∧ ∃ n, w' = w.drewN n := by
  obtain ⟨a, cap, rfl, hl, hm, hc⟩ := h
  generalize hlen : bs.length = len at *
  go_enter Try.func43, Try.ntmps43
  go_wp2
  go_loopw [5] (fun i wr => ∃ k : Nat, k ≤ len ∧ i = .int .i64 k ∧ ∃ n, wr = w.drewN n) (fun i _ => len - (intOf i).toNat)
  case atStart => exact ⟨0, Nat.zero_le _, rfl, 0, rfl⟩
  case round =>
    obtain ⟨k, hk, rfl, n, rfl⟩ := hrel
    by_cases hlt : k < len
    · obtain ⟨b, o, rfl, hcell⟩ : ∃ b o, a = some ⟨b, o, none⟩ ∧ w.rangeAt b o (bs.map (Value.int .u8)) := by
        rcases hc with h | h
        · omega
        · exact h
      have hck : w.cell? ⟨b, o + k, none⟩ = some (.int .u8 (bs[k]'(by omega))) := hcell k _ (by simp [hlen, hlt])
      clear hcell hc
      have hlt' : (k : Int) < (len : Int) := by omega
      go_wp2
      go_quiet (fail)
      go_wp2
      go_roundw
      case rel => exact ⟨k + 1, by omega, by go_num, _, rfl⟩
      case measure => simp [intOf]; omega
    · go_wp2
      go_ret
      exact ⟨rfl, n, rfl⟩

theorem q41 (w : World) (a : Option Addr) (n c n' c' : Nat) : (binOp .eql 41 (.slice a n c) (.slice none n' c')).run Try.prog w = .ok (.bool a.isNone) w := Lib.run_eql_slice_nil w _ _ a n c n' c' Try.underlying41
theorem q60 (w : World) (a : Option Addr) (n c n' c' : Nat) : (binOp .eql 60 (.slice a n c) (.slice none n' c')).run Try.prog w = .ok (.bool a.isNone) w := Lib.run_eql_slice_nil w _ _ a n c n' c' Try.underlying60

set_option maxHeartbeats 400000 in
theorem cloneBytes_nil (w : World) (n c : Nat) : Calls Try.prog 45 #[.slice none n c] w fun e w' => e = .returned (.slice none 0 0) ∧ w' = w := by
  have q := q41
  go_enter Try.func45, Try.ntmps45
  go_wp2
  go_ret
  exact ⟨rfl, rfl⟩

set_option maxHeartbeats 400000 in
theorem cloneBytes_some (a : Addr) (len cap : Nat) (bs : List Int) (w : World) (hl : bs.length = len) (hm : len ≤ 1048576)
    (hc : len = 0 ∨ ∃ b o, a = ⟨b, o, none⟩ ∧ w.rangeAt b o (bs.map (Value.int .u8))) :
    Calls Try.prog 45 #[.slice (some a) len cap] w fun e w' => e = .returned (.slice (some ⟨w.heap.size, 0, none⟩) len len) ∧ w'.ownsRow w.heap.size 5 1 (.slice (some ⟨w.heap.size, 0, none⟩) len len) len (bs.map (Value.int .u8)) ∧ Below w.heap.size w w' := by
  obtain ⟨i5, hi, hz0, hz1, hz2⟩ := info_parts Try.info5
  have q := q41
  go_enter Try.func45, Try.ntmps45
  go_wp2_with (first | (at_make; refine wpList_make_full _ rfl _ _ 41 rfl w.heap.size 5 i5 (.int .u8 0) 1 Try.underlying41 hi hz0 hz1 _ _ _ _ len rfl rfl rfl rfl ?b2 ?b3 (Nat.le_refl _) ?_) | go_in)
  case b2 => rw [hz2]; omega
  case b3 => unfold maxLen; omega
  intro w1 hown hgrow
  have hb1 : Below w.heap.size w w1 := (Below.refl _ _).grown hgrow (Nat.le_refl _) (by simp)
  have hown1 : w1.ownsRow w.heap.size 5 1 (.slice (some ⟨w.heap.size, 0, none⟩) len len) len (part (.int .u8 0) (bs.map (Value.int .u8)) 0) := by
    rw [part_zero]; simpa [toList_madeCells_one, Value.cells, hl] using hown
  clear hown hgrow q hi hz0 hz1 hz2
  go_wp2
  go_loopw [4] (fun i wr => ∃ k : Nat, k ≤ len ∧ i = .int .i64 k ∧ wr.ownsRow w.heap.size 5 1 (.slice (some ⟨w.heap.size, 0, none⟩) len len) len (part (.int .u8 0) (bs.map (Value.int .u8)) k) ∧ Below w.heap.size w wr) (fun i _ => len - (intOf i).toNat)
  case atStart => exact ⟨0, Nat.zero_le _, rfl, hown1, hb1⟩
  case round =>
    obtain ⟨k, hk, rfl, hown, hb⟩ := hrel
    by_cases hlt : k < len
    · obtain ⟨b, o, rfl, hcell⟩ : ∃ b o, a = ⟨b, o, none⟩ ∧ w.rangeAt b o (bs.map (Value.int .u8)) := by
        rcases hc with h | h
        · omega
        · exact h
      have hck0 : w.cell? ⟨b, o + k, none⟩ = some (.int .u8 (bs[k]'(by omega))) := hcell k _ (by simp [hl, hlt])
      have hck : wr.cell? ⟨b, o + k, none⟩ = some (.int .u8 (bs[k]'(by omega))) := (hb.cell (World.block_lt_of_cell? _ _ hck0)).trans hck0
      have hdst : ∃ u, wr.cell? ⟨w.heap.size, k, none⟩ = some u := by
        rw [hown.cellAt k (by omega)]
        exact ⟨_, List.getElem?_eq_getElem (by rw [part_length]; simp; omega)⟩
      obtain ⟨u, hdst⟩ := hdst
      have hfr := hown.frozenAt k
      have hst := hown.stored k (.int .u8 (bs[k]'(by omega)))
      have HS : Hid ((wr.setCell ⟨w.heap.size, k, none⟩ (.int .u8 (bs[k]'(by omega)))).ownsRow w.heap.size 5 1 (.slice (some ⟨w.heap.size, 0, none⟩) len len) len (part (.int .u8 0) (bs.map (Value.int .u8)) (k + 1))) := by
        have e := part_set (.int .u8 0) (bs.map (Value.int .u8)) k (by simp; omega)
        rw [← e]
        show World.ownsRow _ _ _ _ _ _ _
        simpa using hst.1
      clear hst hcell hc hown hown1 hb1 hck0
      go_wp2
      go_roundw
      case rel => exact ⟨k + 1, by omega, by go_num, by simpa using HS.out, hb.setCell (Nat.le_refl _) _⟩
      case measure => simp [intOf]; omega
    · have hke : k = len := by omega
      subst hke
      rw [part_all _ _ _ (by simp; omega)] at hown
      go_wp2
      go_ret
      exact ⟨rfl, hown, hb⟩

theorem cloneBytes_any (v : Value) (bs : List Int) (w : World) (h : bytesAt w v bs) (hm : bs.length ≤ 1048576) :
    Calls Try.prog 45 #[v] w fun e w' => ∃ v', e = .returned v' ∧ bytesAt w' v' bs ∧ fromB w.heap.size v' ∧ Below w.heap.size w w' := by
  obtain ⟨a, cap, rfl, hl, hm', hc⟩ := h
  cases a with
  | none =>
    have h0 : bs = [] := by
      rcases hc with h | ⟨b, o, h, _⟩
      · exact List.eq_nil_of_length_eq_zero h
      · cases h
    subst h0
    refine (cloneBytes_nil w _ cap).mono ?_
    rintro e w' ⟨rfl, rfl⟩
    exact ⟨_, rfl, ⟨none, 0, rfl, rfl, by simp, .inl rfl⟩, trivial, Below.refl _ _⟩
  | some a =>
    refine (cloneBytes_some a bs.length cap bs w rfl hm ?_).mono ?_
    · rcases hc with h | ⟨b, o, h, h'⟩
      · exact .inl h
      · exact .inr ⟨b, o, by simpa using h, h'⟩
    · rintro e w' ⟨rfl, hown, hb⟩
      exact ⟨_, rfl, sliceAt_of_owns hown (by omega), Nat.le_refl _, hb⟩

/-- The cells of the vote number k of a slice of votes, as the walk asks for them. -/
theorem votesAt.cellsAt {w : World} {a : Option Addr} {n cap : Nat} {vs : List VoteD} (h : votesAt w (.slice a n cap) vs) (k : Nat) (hk : k < n) :
    ∃ b o x, a = some ⟨b, o, none⟩ ∧ vs[k]? = some x ∧ x.ok w ∧ w.rangeAt b (o + k * 35) x.cells := by
  obtain ⟨⟨a', cap', hv, hl, hm, hc⟩, hok⟩ := h
  cases hv
  rcases hc with h | ⟨b, o, rfl, hr⟩
  · omega
  · have hx : vs[k]? = some (vs[k]) := by simp
    refine ⟨b, o, vs[k], rfl, hx, hok _ (by simp), fun j v hv => ?_⟩
    have h35 : (vs[k]).cells.length = 35 := VoteD.cells_len (hok _ (by simp)).1
    have hj : j < 35 := by rw [← h35]; exact (List.getElem?_eq_some_iff.1 hv).1
    rw [Nat.add_assoc]
    refine hr (k * 35 + j) v ?_
    rw [flat_get VoteD.cells 35 vs (fun x hx => VoteD.cells_len (hok x hx).1) k j hk hj]
    exact hv

set_option maxHeartbeats 400000 in
theorem votesBytes_any (v : Value) (vs : List VoteD) (n0 : Int) (w : World) (h : votesAt w v vs) (hn0 : 0 ≤ n0) (hn1 : n0 ≤ 1099511627776) :
    Calls Try.prog 7 #[v, .int .i64 n0] w fun e w' => (∃ r : Int, e = .returned (.int .i64 r) ∧ 0 ≤ r ∧ (r ≤ n0 ∨ r ≤ 4000000) ∧ (r ≤ 1048576 → n0 ≤ 1048576 ∧ ∀ x ∈ vs, lenV x.ext ≤ 1048576 ∧ lenV x.sig ≤ 1048576)) ∧ ∃ n, w' = w.drewN n := by
  obtain ⟨a, cap, rfl, hl, hm, hc⟩ := h.1
  generalize hlen : vs.length = len at *
  clear hl hc
  go_enter Try.func7, Try.ntmps7
  go_wp2
  go_loopw [1, 5] (fun r i wr => ∃ (k : Nat) (n : Int), k ≤ len ∧ i = .int .i64 k ∧ r = .int .i64 n ∧ n0 ≤ n ∧ (n ≤ n0 ∨ n ≤ 4000000) ∧ (∀ j x, j < k → vs[j]? = some x → lenV x.ext ≤ 1048576 ∧ lenV x.sig ≤ 1048576) ∧ ∃ n, wr = w.drewN n) (fun _ i _ => len - (intOf i).toNat)
  case atStart => exact ⟨0, n0, Nat.zero_le _, rfl, rfl, Int.le_refl _, by omega, by omega, 0, rfl⟩
  case round =>
    obtain ⟨k, n, hk, rfl, rfl, hn, hn', hsm, m, rfl⟩ := hrel
    by_cases hlt : k < len
    · obtain ⟨b, o, x, rfl, hx, hok, hr⟩ := h.cellsAt k hlt
      have c33 := hr 33 _ (VoteD.cells_33 hok.1)
      have c34 := hr 34 _ (VoteD.cells_34 hok.1)
      obtain ⟨bs1, hb1⟩ := hok.2.1
      obtain ⟨bs2, hb2⟩ := hok.2.2
      obtain ⟨a1, cp1, he1, _, hm1, _⟩ := hb1
      obtain ⟨a2, cp2, he2, _, hm2, _⟩ := hb2
      generalize bs1.length = l1 at *
      generalize bs2.length = l2 at *
      rw [he1] at c33
      rw [he2] at c34
      have hlt' : (k : Int) < (len : Int) := by omega
      have HX : Hid (vs[k]? = some x) := hx
      have HE1 : Hid (x.ext = .slice a1 l1 cp1) := he1
      have HE2 : Hid (x.sig = .slice a2 l2 cp2) := he2
      have HSM : Hid (∀ j x, j < k → vs[j]? = some x → lenV x.ext ≤ 1048576 ∧ lenV x.sig ≤ 1048576) := hsm
      clear hx he1 he2 hsm hr hok h
      by_cases hgood : n ≤ 1048576 ∧ (l1 : Int) ≤ 1048576 ∧ (l2 : Int) ≤ 1048576
      · obtain ⟨g0, g1, g2⟩ := hgood
        go_wp2
        go_quiet (fail)
        go_wp2
        go_roundw
        case rel =>
          refine ⟨k + 1, n + (64 + l1 + l2), by omega, by go_num, rfl, by omega, by omega, ?_, _, rfl⟩
          intro j y hj hy
          by_cases e : j = k
          · subst e
            rw [HX.out] at hy
            cases hy
            rw [HE1.out, HE2.out]
            exact ⟨by show l1 ≤ _; omega, by show l2 ≤ _; omega⟩
          · exact HSM.out j y (by omega) hy
        case measure => simp [intOf]; omega
      · go_wp2
        all_goals first
          | (go_ret; exact ⟨⟨1048577, rfl, by omega, by omega, fun h => absurd h (by omega)⟩, m, rfl⟩)
          | (exfalso; omega)
    · go_wp2
      go_ret
      refine ⟨⟨n, rfl, by omega, hn', fun hr => ⟨by omega, fun x hx => ?_⟩⟩, m, rfl⟩
      obtain ⟨j, hj, rfl⟩ := List.mem_iff_getElem.1 hx
      exact hsm j _ (by omega) (by simp)

set_option maxHeartbeats 400000 in
theorem votesIncreasing_any (v : Value) (vs : List VoteD) (w : World) (h : votesAt w v vs) :
    Calls Try.prog 10 #[v] w fun e w' => (∃ b : Bool, e = .returned (.bool b)) ∧ ∃ n, w' = w.drewN n := by
  obtain ⟨a, cap, rfl, hl, hm, hc⟩ := h.1
  generalize hlen : vs.length = len at *
  clear hl hc
  go_enter Try.func10, Try.ntmps10
  go_wp2
  go_loopw [3] (fun i wr => ∃ (k : Nat), (k ≤ len ∨ k = 1) ∧ 1 ≤ k ∧ i = .int .i64 k ∧ ∃ n, wr = w.drewN n) (fun i _ => len - (intOf i).toNat)
  case atStart => exact ⟨1, by omega, by omega, rfl, 0, rfl⟩
  case round =>
    obtain ⟨k, hk, hk1, rfl, m, rfl⟩ := hrel
    by_cases hlt : k < len
    · obtain ⟨b, o, x, rfl, hx, hok, hr⟩ := h.cellsAt k hlt
      obtain ⟨b', o', y, hby, hy, hoky, hry⟩ := h.cellsAt (k - 1) (by omega)
      cases hby
      have c0 := hr 0 _ (VoteD.cells_0 _)
      have d0 := hry 0 _ (VoteD.cells_0 _)
      obtain ⟨q, rfl⟩ : ∃ q, k = q + 1 := ⟨k - 1, by omega⟩
      simp only [Nat.add_sub_cancel, Nat.add_zero] at c0 d0
      have hlt' : ((q : Int) + 1) < (len : Int) := by omega
      have hq0 : (0 : Int) ≤ (q : Int) := by omega
      have hq1 : (q : Int) < (len : Int) := by omega
      clear hx hok hr hy hoky hry h
      go_wp2
      go_quiet (fail)
      go_wp2
      · go_ret
        exact ⟨⟨_, rfl⟩, _, World.drewN_drewN _ _ _⟩
      · go_roundw
        case rel => exact ⟨q + 1 + 1, by omega, by omega, by go_num, _, rfl⟩
        case measure => simp [intOf]; omega
    · go_wp2
      go_ret
      exact ⟨⟨_, rfl⟩, m, rfl⟩

set_option maxHeartbeats 400000 in
theorem cloneWords_nil (w : World) (n c : Nat) : Calls Try.prog 44 #[.slice none n c] w fun e w' => e = .returned (.slice none 0 0) ∧ w' = w := by
  have q := q60
  go_enter Try.func44, Try.ntmps44
  go_wp2
  go_ret
  exact ⟨rfl, rfl⟩

set_option maxHeartbeats 400000 in
theorem cloneWords_some (a : Addr) (len cap : Nat) (bs : List Int) (w : World) (hl : bs.length = len) (hm : len ≤ 1048576)
    (hc : len = 0 ∨ ∃ b o, a = ⟨b, o, none⟩ ∧ w.rangeAt b o (bs.map (Value.int .u64))) :
    Calls Try.prog 44 #[.slice (some a) len cap] w fun e w' => e = .returned (.slice (some ⟨w.heap.size, 0, none⟩) len len) ∧ w'.ownsRow w.heap.size 126 1 (.slice (some ⟨w.heap.size, 0, none⟩) len len) len (bs.map (Value.int .u64)) ∧ Below w.heap.size w w' := by
  obtain ⟨i5, hi, hz0, hz1, hz2⟩ := info_parts Try.info126
  have q := q60
  go_enter Try.func44, Try.ntmps44
  go_wp2_with (first | (at_make; refine wpList_make_full _ rfl _ _ 60 rfl w.heap.size 126 i5 (.int .u64 0) 1 Try.underlying60 hi hz0 hz1 _ _ _ _ len rfl rfl rfl rfl ?b2 ?b3 (Nat.le_refl _) ?_) | go_in)
  case b2 => rw [hz2]; omega
  case b3 => unfold maxLen; omega
  intro w1 hown hgrow
  have hb1 : Below w.heap.size w w1 := (Below.refl _ _).grown hgrow (Nat.le_refl _) (by simp)
  have hown1 : w1.ownsRow w.heap.size 126 1 (.slice (some ⟨w.heap.size, 0, none⟩) len len) len (part (.int .u64 0) (bs.map (Value.int .u64)) 0) := by
    rw [part_zero]; simpa [toList_madeCells_one, Value.cells, hl] using hown
  clear hown hgrow q hi hz0 hz1 hz2
  go_wp2
  go_loopw [4] (fun i wr => ∃ k : Nat, k ≤ len ∧ i = .int .i64 k ∧ wr.ownsRow w.heap.size 126 1 (.slice (some ⟨w.heap.size, 0, none⟩) len len) len (part (.int .u64 0) (bs.map (Value.int .u64)) k) ∧ Below w.heap.size w wr) (fun i _ => len - (intOf i).toNat)
  case atStart => exact ⟨0, Nat.zero_le _, rfl, hown1, hb1⟩
  case round =>
    obtain ⟨k, hk, rfl, hown, hb⟩ := hrel
    by_cases hlt : k < len
    · obtain ⟨b, o, rfl, hcell⟩ : ∃ b o, a = ⟨b, o, none⟩ ∧ w.rangeAt b o (bs.map (Value.int .u64)) := by
        rcases hc with h | h
        · omega
        · exact h
      have hck0 : w.cell? ⟨b, o + k, none⟩ = some (.int .u64 (bs[k]'(by omega))) := hcell k _ (by simp [hl, hlt])
      have hck : wr.cell? ⟨b, o + k, none⟩ = some (.int .u64 (bs[k]'(by omega))) := (hb.cell (World.block_lt_of_cell? _ _ hck0)).trans hck0
      have hdst : ∃ u, wr.cell? ⟨w.heap.size, k, none⟩ = some u := by
        rw [hown.cellAt k (by omega)]
        exact ⟨_, List.getElem?_eq_getElem (by rw [part_length]; simp; omega)⟩
      obtain ⟨u, hdst⟩ := hdst
      have hfr := hown.frozenAt k
      have hst := hown.stored k (.int .u64 (bs[k]'(by omega)))
      have HS : Hid ((wr.setCell ⟨w.heap.size, k, none⟩ (.int .u64 (bs[k]'(by omega)))).ownsRow w.heap.size 126 1 (.slice (some ⟨w.heap.size, 0, none⟩) len len) len (part (.int .u64 0) (bs.map (Value.int .u64)) (k + 1))) := by
        have e := part_set (.int .u64 0) (bs.map (Value.int .u64)) k (by simp; omega)
        rw [← e]
        show World.ownsRow _ _ _ _ _ _ _
        simpa using hst.1
      clear hst hcell hc hown hown1 hb1 hck0
      go_wp2
      go_roundw
      case rel => exact ⟨k + 1, by omega, by go_num, by simpa using HS.out, hb.setCell (Nat.le_refl _) _⟩
      case measure => simp [intOf]; omega
    · have hke : k = len := by omega
      subst hke
      rw [part_all _ _ _ (by simp; omega)] at hown
      go_wp2
      go_ret
      exact ⟨rfl, hown, hb⟩

theorem cloneWords_any (v : Value) (bs : List Int) (w : World) (h : sliceAt w 1 v bs.length (bs.map (Value.int .u64))) (hm : bs.length ≤ 1048576) :
    Calls Try.prog 44 #[v] w fun e w' => ∃ v', e = .returned v' ∧ sliceAt w' 1 v' bs.length (bs.map (Value.int .u64)) ∧ fromB w.heap.size v' ∧ Below w.heap.size w w' := by
  obtain ⟨a, cap, rfl, hl, hm', hc⟩ := h
  cases a with
  | none =>
    have h0 : bs = [] := by
      rcases hc with h | ⟨b, o, h, _⟩
      · exact List.eq_nil_of_length_eq_zero h
      · cases h
    subst h0
    refine (cloneWords_nil w _ cap).mono ?_
    rintro e w' ⟨rfl, rfl⟩
    exact ⟨_, rfl, ⟨none, 0, rfl, rfl, by simp, .inl rfl⟩, trivial, Below.refl _ _⟩
  | some a =>
    refine (cloneWords_some a bs.length cap bs w rfl hm ?_).mono ?_
    · rcases hc with h | ⟨b, o, h, h'⟩
      · exact .inl h
      · exact .inr ⟨b, o, by simpa using h, h'⟩
    · rintro e w' ⟨rfl, hown, hb⟩
      exact ⟨_, rfl, sliceAt_of_owns hown (by omega), Nat.le_refl _, hb⟩

end Go.Proofs.Qxb6604712a
