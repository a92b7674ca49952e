/-
  Seat b6002691a: zzAppendUint.
-/
import Derived.Test.Qxb6002691aPad
namespace Go.Proofs.Qxb6002691a
open Go.RowKit
set_option linter.unusedSimpArgs false
set_option linter.unusedVariables false

theorem OwnB.belowG {w w' : World} {base : Nat} {v : Value} {xs : List Int} (h : OwnB w base v xs) (hb : Below w.heap.size w w') : OwnB w' base v xs := by
  refine ⟨h.1, ?_⟩
  rcases h.2 with hn | ⟨g, cap, cur, rfl, h1, h2, h3⟩
  · exact .inl hn
  · have hlt : g < w.heap.size := (Array.getElem?_eq_some_iff.1 h2).1
    exact .inr ⟨g, cap, cur, rfl, h1, by rw [hb.block g hlt]; exact h2, h3⟩

/-- The digits' array lies in block g; from place k on it holds digits. -/
def Digs (g k : Nat) (wr : World) (cs : List Int) : Prop := cs.length = 20 ∧ wr.heap[g]? = some (.cells (cs.map (Value.int .u8)).toArray 58 (0, 0)) ∧ ∀ j, k ≤ j → ∀ d, cs[j]? = some d → 48 ≤ d ∧ d ≤ 57
def DigRel (w : World) (x i : Value) (wr : World) : Prop := ∃ (k n : Nat) (cs : List Int), i = .int .i64 k ∧ x = .int .u64 n ∧ 1 ≤ k ∧ k ≤ 20 ∧ n < 10 ^ k ∧ Digs w.heap.size k wr cs ∧ Below w.heap.size w wr
def DigPost (xs : List Int) (base : Nat) (w : World) (v : Value) (w' : World) : Prop := ∃ s : List Int, (∀ c ∈ s, 48 ≤ c ∧ c ≤ 57) ∧ s.length ≤ 20 ∧ OwnB w' base v (xs ++ s) ∧ Below base w w'

theorem Digs.step {g k : Nat} {wr : World} {cs : List Int} (h : Digs g k wr cs) (hk : 1 ≤ k) (d : Int) (hd : 48 ≤ d ∧ d ≤ 57) : Digs g (k - 1) (wr.setCell ⟨g, k - 1, none⟩ (.int .u8 d)) (cs.set (k - 1) d) := by
  obtain ⟨h1, h2, h3⟩ := h
  refine ⟨by simp [h1], ?_, ?_⟩
  · rw [heap_setCell_same _ _ _ _ _ _ h2]
    simp [List.map_set]
  · intro j hj e he
    rw [List.getElem?_set] at he
    by_cases hjk : k - 1 = j
    · rw [if_pos hjk] at he
      split at he
      · simp at he; rw [← he]; exact hd
      · simp at he
    · rw [if_neg hjk] at he
      exact h3 j (by omega) e he

theorem digs_news {g k : Nat} {w : World} {cs : List Int} (h : Digs g k w cs) : ∀ j u, ((cs.drop k).map (Value.int .u8))[j]? = some u → w.cell? ((⟨g, k, none⟩ : Addr).add j) = some u := by
  intro j u hj
  rw [Addr.add_mid, cell_of_row w g (k + j) _ 58 (0, 0) h.2.1]
  rw [List.getElem?_map, List.getElem?_drop] at hj
  simpa using hj

set_option maxHeartbeats 1000000 in
theorem uint_any (base : Nat) (v : Value) (xs : List Int) (x : Nat) (w : World) (hown : OwnB w base v xs) (h0 : base ≤ w.heap.size) (hx : x < 18446744073709551616) (hn : xs.length ≤ 1000000000) :
    Calls Try.prog 33 #[v, .int .u64 x] w fun e w' => ∃ v', e = .returned v' ∧ DigPost xs base w v' w' := by
  obtain ⟨i5, hi, hz0, hz1, hz2⟩ := info_parts Try.info5
  go_enter Try.func33, Try.ntmps33
  go_wp2
  go_loopw [1, 6] (fun x i wr => DigRel w x i wr) (fun _ i _ => (intOf i).toNat)
  case atStart =>
    refine ⟨20, x, List.replicate 20 0, rfl, rfl, by omega, by omega, by omega, ⟨by simp, ?_, ?_⟩, (Below.refl _ _).alloc (Nat.le_refl _) _⟩
    · exact heap_alloc_new _ _
    · intro j hj d hd
      rw [List.getElem?_eq_none (by simpa using hj)] at hd
      cases hd
  case round =>
    obtain ⟨k, n, cs, rfl, rfl, hk1, hk2, hnk, hdg, hb⟩ := hrel
    obtain ⟨k, rfl⟩ : ∃ j, k = j + 1 := ⟨k - 1, by omega⟩
    have hcell : ∃ u, wr.cell? ⟨w.heap.size, k, none⟩ = some u := by
      rw [cell_of_row wr _ k _ 58 (0, 0) hdg.2.1]
      exact ⟨_, by simp; exact ⟨cs[k]'(by have := hdg.1; omega), List.getElem?_eq_getElem _, rfl⟩⟩
    obtain ⟨u, hcu⟩ := hcell
    have hfr : wr.frozen? ⟨w.heap.size, k, none⟩ = false := frozen_of_row wr _ k _ 58 hdg.2.1
    have hst := hdg.step (by omega) (48 + (n : Int) % 10) (by omega)
    rw [Nat.add_sub_cancel] at hst
    have HST : Hid (Digs w.heap.size k (wr.setCell ⟨w.heap.size, k, none⟩ (.int .u8 (48 + (n : Int) % 10))) (cs.set k (48 + (n : Int) % 10))) := hst
    have hk3 : (k : Int) < 20 := by omega
    have HNN : Hid ((n : Int) / 10 = ((n / 10 : Nat) : Int)) := by show _ = _; omega
    have HDV : Hid (n / 10 < 10 ^ k) := by
      show _ < _
      rw [Nat.pow_succ] at hnk
      exact Nat.div_lt_of_lt_mul (by rw [Nat.mul_comm]; exact hnk)
    have HNK : Hid (n < 10 ^ (k + 1)) := hnk
    have hk4 : (k : Int) ≤ 20 := by omega
    have hk5 : ¬ 20 = k := by omega
    have hk6 : ¬ k = 20 := by omega
    have hwr : IntKind.u64.wrap ((n : Int) / 10) = ((n / 10 : Nat) : Int) := by
      have h19 : (10 : Nat) ^ k ≤ 10 ^ 19 := Nat.pow_le_pow_right (by omega) (by omega)
      have := HDV.out
      rw [IntKind.wrap_u64, HNN.out]; omega
    clear hst hdg hnk
    have HOW : OwnB (wr.setCell ⟨w.heap.size, k, none⟩ (.int .u8 (48 + (n : Int) % 10))) base v xs := hown.belowG (hb.setCell (Nat.le_refl _) _)
    have hbs : Below w.heap.size w (wr.setCell ⟨w.heap.size, k, none⟩ (.int .u8 (48 + (n : Int) % 10))) := hb.setCell (Nat.le_refl _) _
    have hln : (((cs.set k (48 + (n : Int) % 10)).drop k).map (Value.int .u8)).length = (20 - k) * 1 := by have := HST.out.1; simp at this ⊢; omega
    go_wp2_with (at_builtin; refine wpList_append_own _ rfl (.tmp 19) (.tmp 21) 36 rfl base 5 i5 (.int .u8 0) 1 1 Try.underlying36 hi hz0 hz1 hz2 rfl (by decide) _ _ _ rfl HOW ⟨w.heap.size, k, none⟩ (20 - k) (20 - k) (((cs.set k (48 + (n : Int) % 10)).drop k).map (Value.int .u8)) rfl hln (digs_news HST.out) (ints_oneCell _ _) (by unfold maxLen; omega) (by omega) (Nat.le_trans h0 hbs.size) ?_; intro v' w1 hown1 hgrow1 hnil1)
    · have hb1 : Below base w w1 := own_below (hbs.mono h0) h0 HOW hgrow1
      have hl : ((cs.set k (48 + (n : Int) % 10)).drop k).length = 20 - k := by simpa using hln
      have hP : DigPost xs base w v' w1 := by
        refine ⟨(cs.set k (48 + (n : Int) % 10)).drop k, ?_, by omega, ?_, hb1⟩
        · intro c hc
          obtain ⟨j, hj⟩ := List.getElem?_of_mem hc
          rw [List.getElem?_drop] at hj
          exact HST.out.2.2 _ (by omega) _ hj
        · unfold OwnB
          rw [List.length_append, List.map_append, hl]
          exact hown1
      clear hown1 hgrow1 hnil1 hb1 hl hln hbs HOW
      go_wp2
      go_ret
      exact ⟨_, rfl, hP⟩
    · have hne : n / 10 ≠ 0 := by
        intro h
        have hz : ((n : Int) / 10 == 0) = false := by assumption
        rw [HNN.out, h] at hz
        exact absurd hz (by decide)
      have hk0 : 1 ≤ k := by
        rcases Nat.eq_zero_or_pos k with h | h
        · have := HDV.out
          rw [h] at this; omega
        · exact h
      refine ⟨⟨k, n / 10, _, rfl, by rw [HNN.out], hk0, by omega, HDV.out, HST.out, hbs⟩, by simp [intOf]⟩

end Go.Proofs.Qxb6002691a
