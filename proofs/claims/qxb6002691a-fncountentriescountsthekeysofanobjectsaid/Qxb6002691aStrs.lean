/-
  Seat b6002691a: slices of strings and of words; their clones; what they measure.
-/
import Derived.Test.Qxb6002691aUint
namespace Go.Proofs.Qxb6002691a
open Go.RowKit
set_option linter.unusedSimpArgs false
set_option linter.unusedVariables false

theorem Try.info9 : (Try.prog.info? 9).map (fun i => (i.zero, i.size, i.bytes)) = some (some (.string ByteArray.empty), 1, 16) := by kernel_rfl
theorem Try.info46 : (Try.prog.info? 46).map (fun i => (i.zero, i.size, i.bytes)) = some (some (.int .u64 0), 1, 8) := by kernel_rfl
def strsAt (w : World) (v : Value) (bs : List ByteArray) : Prop := sliceAt w 1 v bs.length (bs.map Value.string)
def wordsAt (w : World) (v : Value) (bs : List Int) : Prop := sliceAt w 1 v bs.length (bs.map (Value.int .u64))

theorem q22 (w : World) (a : Option Addr) (n c n' c' : Nat) : (binOp .eql 22 (.slice a n c) (.slice none n' c')).run Try.prog w = .ok (.bool a.isNone) w := Lib.run_eql_slice_nil w _ _ a n c n' c' Try.underlying22

set_option maxHeartbeats 400000 in
theorem cloneStrs_nil (w : World) (n c : Nat) : Calls Try.prog 13 #[.slice none n c] w fun e w' => e = .returned (.slice none 0 0) ∧ w' = w := by
  have q := q22
  go_enter Try.func13, Try.ntmps13
  go_wp2
  go_ret
  exact ⟨rfl, rfl⟩

set_option maxHeartbeats 400000 in
theorem cloneStrs_some (a : Addr) (len cap : Nat) (bs : List ByteArray) (w : World) (hl : bs.length = len) (hm : len ≤ 1048576)
    (hc : len = 0 ∨ ∃ b o, a = ⟨b, o, none⟩ ∧ w.rangeAt b o (bs.map (Value.string))) :
    Calls Try.prog 13 #[.slice (some a) len cap] w fun e w' => e = .returned (.slice (some ⟨w.heap.size, 0, none⟩) len len) ∧ w'.ownsRow w.heap.size 9 1 (.slice (some ⟨w.heap.size, 0, none⟩) len len) len (bs.map (Value.string)) ∧ Below w.heap.size w w' := by
  obtain ⟨i0, hi, hz0, hz1, hz2⟩ := info_parts Try.info9
  have q := q22
  go_enter Try.func13, Try.ntmps13
  go_wp2_with (first | (at_make; refine wpList_make_full _ rfl _ _ 22 rfl w.heap.size 9 i0 (.string ByteArray.empty) 1 Try.underlying22 hi hz0 hz1 _ _ _ _ len rfl rfl rfl rfl ?b2 ?b3 (Nat.le_refl _) ?_) | go_in)
  case b2 => rw [hz2]; omega
  case b3 => unfold maxLen; omega
  intro w1 hown hgrow
  have hb1 : Below w.heap.size w w1 := (Below.refl _ _).grown hgrow (Nat.le_refl _) (by simp)
  have hown1 : w1.ownsRow w.heap.size 9 1 (.slice (some ⟨w.heap.size, 0, none⟩) len len) len (part (.string ByteArray.empty) (bs.map (Value.string)) 0) := by
    rw [part_zero]; simpa [toList_madeCells_one, Value.cells, hl] using hown
  clear hown hgrow q hi hz0 hz1 hz2
  go_wp2
  go_loopw [4] (fun i wr => ∃ k : Nat, k ≤ len ∧ i = .int .i64 k ∧ wr.ownsRow w.heap.size 9 1 (.slice (some ⟨w.heap.size, 0, none⟩) len len) len (part (.string ByteArray.empty) (bs.map (Value.string)) k) ∧ Below w.heap.size w wr) (fun i _ => len - (intOf i).toNat)
  case atStart => exact ⟨0, Nat.zero_le _, rfl, hown1, hb1⟩
  case round =>
    obtain ⟨k, hk, rfl, hown, hb⟩ := hrel
    by_cases hlt : k < len
    · obtain ⟨b, o, rfl, hcell⟩ : ∃ b o, a = ⟨b, o, none⟩ ∧ w.rangeAt b o (bs.map (Value.string)) := by
        rcases hc with h | h
        · omega
        · exact h
      have hck0 : w.cell? ⟨b, o + k, none⟩ = some (.string (bs[k]'(by omega))) := hcell k _ (by simp [hl, hlt])
      have hck : wr.cell? ⟨b, o + k, none⟩ = some (.string (bs[k]'(by omega))) := (hb.cell (World.block_lt_of_cell? _ _ hck0)).trans hck0
      have hdst : ∃ u, wr.cell? ⟨w.heap.size, k, none⟩ = some u := by
        rw [hown.cellAt k (by omega)]
        exact ⟨_, List.getElem?_eq_getElem (by rw [part_length]; simp; omega)⟩
      obtain ⟨u, hdst⟩ := hdst
      have hfr := hown.frozenAt k
      have hst := hown.stored k (.string (bs[k]'(by omega)))
      have HS : Hid ((wr.setCell ⟨w.heap.size, k, none⟩ (.string (bs[k]'(by omega)))).ownsRow w.heap.size 9 1 (.slice (some ⟨w.heap.size, 0, none⟩) len len) len (part (.string ByteArray.empty) (bs.map (Value.string)) (k + 1))) := by
        have e := part_set (.string ByteArray.empty) (bs.map (Value.string)) k (by simp; omega)
        rw [← e]
        show World.ownsRow _ _ _ _ _ _ _
        simpa using hst.1
      clear hst hcell hc hown hown1 hb1 hck0
      go_wp2
      go_roundw
      case rel => exact ⟨k + 1, by omega, by go_num, by simpa using HS.out, hb.setCell (Nat.le_refl _) _⟩
      case measure => simp [intOf]; omega
    · have hke : k = len := by omega
      subst hke
      rw [part_all _ _ _ (by simp; omega)] at hown
      go_wp2
      go_ret
      exact ⟨rfl, hown, hb⟩

theorem cloneStrs_any (v : Value) (bs : List ByteArray) (w : World) (h : strsAt w v bs) (hm : bs.length ≤ 1048576) :
    Calls Try.prog 13 #[v] w fun e w' => ∃ v', e = .returned v' ∧ strsAt w' v' bs ∧ fromB w.heap.size v' ∧ Below w.heap.size w w' := by
  obtain ⟨a, cap, rfl, hl, hm', hc⟩ := h
  cases a with
  | none =>
    have h0 : bs = [] := by
      rcases hc with h | ⟨b, o, h, _⟩
      · exact List.eq_nil_of_length_eq_zero h
      · cases h
    subst h0
    refine (cloneStrs_nil w _ cap).mono ?_
    rintro e w' ⟨rfl, rfl⟩
    exact ⟨_, rfl, ⟨none, 0, rfl, rfl, by simp, .inl rfl⟩, trivial, Below.refl _ _⟩
  | some a =>
    refine (cloneStrs_some a bs.length cap bs w rfl hm ?_).mono ?_
    · rcases hc with h | ⟨b, o, h, h'⟩
      · exact .inl h
      · exact .inr ⟨b, o, by simpa using h, h'⟩
    · rintro e w' ⟨rfl, hown, hb⟩
      exact ⟨_, rfl, sliceAt_of_owns hown (by omega), Nat.le_refl _, hb⟩


theorem q23 (w : World) (a : Option Addr) (n c n' c' : Nat) : (binOp .eql 23 (.slice a n c) (.slice none n' c')).run Try.prog w = .ok (.bool a.isNone) w := Lib.run_eql_slice_nil w _ _ a n c n' c' Try.underlying23

set_option maxHeartbeats 400000 in
theorem cloneWords_nil (w : World) (n c : Nat) : Calls Try.prog 14 #[.slice none n c] w fun e w' => e = .returned (.slice none 0 0) ∧ w' = w := by
  have q := q23
  go_enter Try.func14, Try.ntmps14
  go_wp2
  go_ret
  exact ⟨rfl, rfl⟩

set_option maxHeartbeats 400000 in
theorem cloneWords_some (a : Addr) (len cap : Nat) (bs : List Int) (w : World) (hl : bs.length = len) (hm : len ≤ 1048576)
    (hc : len = 0 ∨ ∃ b o, a = ⟨b, o, none⟩ ∧ w.rangeAt b o (bs.map (Value.int .u64))) :
    Calls Try.prog 14 #[.slice (some a) len cap] w fun e w' => e = .returned (.slice (some ⟨w.heap.size, 0, none⟩) len len) ∧ w'.ownsRow w.heap.size 46 1 (.slice (some ⟨w.heap.size, 0, none⟩) len len) len (bs.map (Value.int .u64)) ∧ Below w.heap.size w w' := by
  obtain ⟨i0, hi, hz0, hz1, hz2⟩ := info_parts Try.info46
  have q := q23
  go_enter Try.func14, Try.ntmps14
  go_wp2_with (first | (at_make; refine wpList_make_full _ rfl _ _ 23 rfl w.heap.size 46 i0 (.int .u64 0) 1 Try.underlying23 hi hz0 hz1 _ _ _ _ len rfl rfl rfl rfl ?b2 ?b3 (Nat.le_refl _) ?_) | go_in)
  case b2 => rw [hz2]; omega
  case b3 => unfold maxLen; omega
  intro w1 hown hgrow
  have hb1 : Below w.heap.size w w1 := (Below.refl _ _).grown hgrow (Nat.le_refl _) (by simp)
  have hown1 : w1.ownsRow w.heap.size 46 1 (.slice (some ⟨w.heap.size, 0, none⟩) len len) len (part (.int .u64 0) (bs.map (Value.int .u64)) 0) := by
    rw [part_zero]; simpa [toList_madeCells_one, Value.cells, hl] using hown
  clear hown hgrow q hi hz0 hz1 hz2
  go_wp2
  go_loopw [4] (fun i wr => ∃ k : Nat, k ≤ len ∧ i = .int .i64 k ∧ wr.ownsRow w.heap.size 46 1 (.slice (some ⟨w.heap.size, 0, none⟩) len len) len (part (.int .u64 0) (bs.map (Value.int .u64)) k) ∧ Below w.heap.size w wr) (fun i _ => len - (intOf i).toNat)
  case atStart => exact ⟨0, Nat.zero_le _, rfl, hown1, hb1⟩
  case round =>
    obtain ⟨k, hk, rfl, hown, hb⟩ := hrel
    by_cases hlt : k < len
    · obtain ⟨b, o, rfl, hcell⟩ : ∃ b o, a = ⟨b, o, none⟩ ∧ w.rangeAt b o (bs.map (Value.int .u64)) := by
        rcases hc with h | h
        · omega
        · exact h
      have hck0 : w.cell? ⟨b, o + k, none⟩ = some (.int .u64 (bs[k]'(by omega))) := hcell k _ (by simp [hl, hlt])
      have hck : wr.cell? ⟨b, o + k, none⟩ = some (.int .u64 (bs[k]'(by omega))) := (hb.cell (World.block_lt_of_cell? _ _ hck0)).trans hck0
      have hdst : ∃ u, wr.cell? ⟨w.heap.size, k, none⟩ = some u := by
        rw [hown.cellAt k (by omega)]
        exact ⟨_, List.getElem?_eq_getElem (by rw [part_length]; simp; omega)⟩
      obtain ⟨u, hdst⟩ := hdst
      have hfr := hown.frozenAt k
      have hst := hown.stored k (.int .u64 (bs[k]'(by omega)))
      have HS : Hid ((wr.setCell ⟨w.heap.size, k, none⟩ (.int .u64 (bs[k]'(by omega)))).ownsRow w.heap.size 46 1 (.slice (some ⟨w.heap.size, 0, none⟩) len len) len (part (.int .u64 0) (bs.map (Value.int .u64)) (k + 1))) := by
        have e := part_set (.int .u64 0) (bs.map (Value.int .u64)) k (by simp; omega)
        rw [← e]
        show World.ownsRow _ _ _ _ _ _ _
        simpa using hst.1
      clear hst hcell hc hown hown1 hb1 hck0
      go_wp2
      go_roundw
      case rel => exact ⟨k + 1, by omega, by go_num, by simpa using HS.out, hb.setCell (Nat.le_refl _) _⟩
      case measure => simp [intOf]; omega
    · have hke : k = len := by omega
      subst hke
      rw [part_all _ _ _ (by simp; omega)] at hown
      go_wp2
      go_ret
      exact ⟨rfl, hown, hb⟩

theorem cloneWords_any (v : Value) (bs : List Int) (w : World) (h : wordsAt w v bs) (hm : bs.length ≤ 1048576) :
    Calls Try.prog 14 #[v] w fun e w' => ∃ v', e = .returned v' ∧ wordsAt w' v' bs ∧ fromB w.heap.size v' ∧ Below w.heap.size w w' := by
  obtain ⟨a, cap, rfl, hl, hm', hc⟩ := h
  cases a with
  | none =>
    have h0 : bs = [] := by
      rcases hc with h | ⟨b, o, h, _⟩
      · exact List.eq_nil_of_length_eq_zero h
      · cases h
    subst h0
    refine (cloneWords_nil w _ cap).mono ?_
    rintro e w' ⟨rfl, rfl⟩
    exact ⟨_, rfl, ⟨none, 0, rfl, rfl, by simp, .inl rfl⟩, trivial, Below.refl _ _⟩
  | some a =>
    refine (cloneWords_some a bs.length cap bs w rfl hm ?_).mono ?_
    · rcases hc with h | ⟨b, o, h, h'⟩
      · exact .inl h
      · exact .inr ⟨b, o, by simpa using h, h'⟩
    · rintro e w' ⟨rfl, hown, hb⟩
      exact ⟨_, rfl, sliceAt_of_owns hown (by omega), Nat.le_refl _, hb⟩


end Go.Proofs.Qxb6002691a
