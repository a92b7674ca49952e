/-
  Seat b6002691a: consume, skipSpace, countEntries.
-/
import Derived.Test.Qxb6002691aSkip
namespace Go.Proofs.Qxb6002691a
open Go.RowKit
set_option linter.unusedSimpArgs false
set_option linter.unusedVariables false

/-- The text D lies ahead of block g. -/
def Dat (w : World) (g : Nat) (a : Option Addr) (D : List Int) : Prop := D.length = 0 ∨ ∃ b o, a = some ⟨b, o, none⟩ ∧ b < g ∧ w.rangeAt b o (D.map (Value.int .u8))
theorem Dat.below {w w' : World} {g : Nat} {a : Option Addr} {D : List Int} (h : Dat w g a D) (hb : Below g w w') : Dat w' g a D := by
  rcases h with h | ⟨b, o, rfl, hlt, h⟩
  · exact .inl h
  · exact .inr ⟨b, o, rfl, hlt, fun j v hv => (hb.cell (by exact hlt)).trans (h j v hv)⟩
theorem Dat.cellAt {w : World} {g : Nat} {a : Option Addr} {D : List Int} (h : Dat w g a D) {p : Nat} (hp : p < D.length) : ∃ b o, a = some ⟨b, o, none⟩ ∧ w.cell? ⟨b, o + p, none⟩ = some (.int .u8 D[p]) := by
  rcases h with h | ⟨b, o, rfl, hlt, h⟩
  · omega
  · exact ⟨b, o, rfl, h p _ (by simp [hp])⟩

def hit (D : List Int) (p : Nat) (c : Int) : Bool := D[p]? == some c

set_option maxHeartbeats 1000000 in
theorem consume_any (g : Nat) (a : Option Addr) (cap : Nat) (D : List Int) (p : Nat) (c : Int) (w : World) (hs : Scan w g (.slice a D.length cap) p) (hD : Dat w g a D) (hp : p ≤ D.length) (hm : D.length ≤ 1099511627776) :
    Calls Try.prog 37 #[.pointer (some ⟨g, 0, none⟩), .int .u8 c] w fun e w' => e = .returned (.bool (hit D p c)) ∧ Scan w' g (.slice a D.length cap) (if hit D p c then p + 1 else p) ∧ Below g w w' := by
  have HS : Hid (Scan w g (.slice a D.length cap) p) := hs
  obtain ⟨c0, c1, fr⟩ := hs
  by_cases hlt : p < D.length
  · obtain ⟨b, o, rfl, hck⟩ := hD.cellAt hlt
    obtain ⟨d, hd⟩ : ∃ d, D[p] = d := ⟨_, rfl⟩
    rw [hd] at hck
    have hlt' : (p : Int) < (D.length : Int) := by omega
    by_cases hdc : d = c
    · have hh : hit D p c = true := by unfold hit; rw [List.getElem?_eq_getElem hlt, hd, hdc]; simp
      subst hdc
      rw [hh]
      clear hh hd hD
      go_enter Try.func37, Try.ntmps37
      go_wp2
      go_quiet (fail)
      go_wp2
      go_ret
      exact ⟨rfl, HS.out.step _ 1, below_step (Below.refl _ _) _ _⟩
    · have hh : hit D p c = false := by unfold hit; rw [List.getElem?_eq_getElem hlt, hd]; simpa using hdc
      have hne : (d == c) = false := by simpa using hdc
      rw [hh]
      clear hh hd hD
      go_enter Try.func37, Try.ntmps37
      go_wp2
      go_quiet (fail)
      go_wp2
      go_ret
      exact ⟨rfl, HS.out.drewN _, below_drewN _ _ _⟩
  · have hh : hit D p c = false := by unfold hit; rw [List.getElem?_eq_none (by omega)]; rfl
    have hlt' : ¬ (p : Int) < (D.length : Int) := by omega
    rw [hh]
    clear hh hD
    go_enter Try.func37, Try.ntmps37
    go_wp2
    go_quiet (fail)
    go_wp2
    go_ret
    exact ⟨rfl, HS.out.drewN _, below_drewN _ _ _⟩

def isSp (c : Int) : Bool := c == 32 || c == 9 || c == 10 || c == 13
/-- Where the white space from p on ends. -/
def spc (D : List Int) (p : Nat) : Nat := p + ((D.drop p).takeWhile isSp).length
theorem spc_step {D : List Int} {p : Nat} (h : p < D.length) (hs : isSp D[p] = true) : spc D p = spc D (p + 1) := by
  unfold spc; rw [List.drop_eq_getElem_cons h, List.takeWhile_cons_of_pos hs, List.length_cons]; omega
theorem spc_stop {D : List Int} {p : Nat} (h : p < D.length) (hs : isSp D[p] = false) : spc D p = p := by
  unfold spc; rw [List.drop_eq_getElem_cons h, List.takeWhile_cons_of_neg (by simp [hs])]; rfl
theorem spc_end {D : List Int} {p : Nat} (h : D.length ≤ p) : spc D p = p := by
  unfold spc; rw [List.drop_eq_nil_of_le h]; rfl
theorem takeWhile_le {α : Type} (f : α → Bool) (l : List α) : (l.takeWhile f).length ≤ l.length := (List.takeWhile_sublist f).length_le
theorem spc_le {D : List Int} {p : Nat} (h : p ≤ D.length) : spc D p ≤ D.length := by
  have := takeWhile_le isSp (D.drop p)
  unfold spc; rw [List.length_drop] at this; omega
theorem spc_ge (D : List Int) (p : Nat) : p ≤ spc D p := Nat.le_add_right _ _
theorem drop_takeWhile {α : Type} (f : α → Bool) : ∀ l : List α, l.drop (l.takeWhile f).length = l.dropWhile f
  | [] => rfl
  | x :: l => by
    by_cases h : f x = true
    · rw [List.takeWhile_cons_of_pos h, List.dropWhile_cons_of_pos h, List.length_cons, List.drop_succ_cons, drop_takeWhile f l]
    · rw [List.takeWhile_cons_of_neg h, List.dropWhile_cons_of_neg h]; rfl
theorem spc_drop (D : List Int) (p : Nat) : D.drop (spc D p) = (D.drop p).dropWhile isSp := by
  unfold spc; rw [← List.drop_drop, drop_takeWhile]

set_option maxHeartbeats 1000000 in
theorem space_any (g : Nat) (a : Option Addr) (cap : Nat) (D : List Int) (p : Nat) (w : World) (hs : Scan w g (.slice a D.length cap) p) (hD : Dat w g a D) (hp : p ≤ D.length) (hm : D.length ≤ 1099511627776) :
    Calls Try.prog 38 #[.pointer (some ⟨g, 0, none⟩)] w fun e w' => e = .returned (.tuple #[]) ∧ Scan w' g (.slice a D.length cap) (spc D p) ∧ Below g w w' := by
  obtain ⟨S, hS⟩ : ∃ S, spc D p = S := ⟨_, rfl⟩
  rw [hS]
  have HD : Hid (Dat w g a D) := hD
  clear hD
  go_enter Try.func38, Try.ntmps38
  go_wp2
  go_loopw [] (fun wr => ∃ q : Nat, q ≤ D.length ∧ Scan wr g (.slice a D.length cap) q ∧ Below g w wr ∧ spc D q = S) (fun wr => D.length + 1 - place wr g)
  case atStart => exact ⟨p, hp, hs, Below.refl _ _, hS⟩
  case round =>
    obtain ⟨q, hq, hsc, hb, hat⟩ := hrel
    clear hS hs
    have HS : Hid (Scan wr g (.slice a D.length cap) q) := hsc
    have HA : Hid (spc D q = S) := hat
    obtain ⟨c0, c1, fr⟩ := hsc
    clear hat
    by_cases hlt : q < D.length
    · obtain ⟨b, o, rfl, hck⟩ := (HD.out.below hb).cellAt hlt
      obtain ⟨d, hd⟩ : ∃ d, D[q] = d := ⟨_, rfl⟩
      rw [hd] at hck
      have HC : Hid (D[q] = d) := hd
      clear hd
      have hlt' : (q : Int) < (D.length : Int) := by omega
      go_wp2
      go_quiet (fail)
      go_wp2
      go_quiet (fail)
      go_wp2
      all_goals first
        | (have hsp : isSp D[q] = true := by { rw [HC.out]; unfold isSp; simp only [*, Bool.or_true, Bool.true_or, Bool.false_or]; done }
           have hr := spc_step hlt hsp
           rw [HA.out] at hr
           exact ⟨⟨q + 1, by omega, HS.out.step _ 1, below_step hb _ _, hr.symm⟩, meas HS.out _ 1 _ (by omega) hlt⟩)
        | (have hsp : isSp D[q] = false := by { rw [HC.out]; unfold isSp; simp only [*, Bool.or_false]; done }
           have hr := spc_stop hlt hsp
           rw [HA.out] at hr
           subst hr
           refine bodyPost_ret (results_none rfl _ _ _) rfl ?_
           exact ⟨rfl, HS.out.drewN _, hb.trans (below_drewN _ _ _)⟩)
    · have hlt' : ¬ (q : Int) < (D.length : Int) := by omega
      have hr := spc_end (show D.length ≤ q by omega)
      rw [HA.out] at hr
      subst hr
      go_wp2
      go_quiet (fail)
      go_wp2
      go_end0
      exact ⟨rfl, HS.out.drewN _, hb.trans (below_drewN _ _ _)⟩

/-- What is left once the string that begins r, and the white space behind it, are stepped over. -/
def aft (r : List Int) : List Int := (r.drop (skp r false 0).2.2).dropWhile isSp
/-- How many entries the scan counts. -/
def cnt : Nat → List Int → Nat
  | 0, _ => 0
  | _ + 1, [] => 0
  | f + 1, c :: r => if c = 34 then (match aft r with | [] => 0 | x :: r3 => if x = 58 then cnt f r3 + 1 else cnt f (x :: r3)) else cnt f r
theorem cnt_nil (f : Nat) : cnt f [] = 0 := by cases f <;> rfl
theorem cnt_plain (f : Nat) (c : Int) (r : List Int) (h : c ≠ 34) : cnt (f + 1) (c :: r) = cnt f r := by rw [cnt.eq_def]; simp only []; rw [if_neg h]
theorem cnt_hit (f : Nat) (r r3 : List Int) (h : aft r = 58 :: r3) : cnt (f + 1) (34 :: r) = cnt f r3 + 1 := by rw [cnt.eq_def]; simp [h]
theorem cnt_miss (f : Nat) (r : List Int) (h : ∀ r3, aft r ≠ 58 :: r3) : cnt (f + 1) (34 :: r) = cnt f (aft r) := by
  rw [cnt.eq_def]
  cases ha : aft r with
  | nil => simp [ha, cnt_nil]
  | cons x r3 =>
    have : x ≠ 58 := fun e => h r3 (by rw [ha, e])
    simp [ha, this]

theorem skp_shift : ∀ (n : Nat) (r : List Int) (_ : r.length ≤ n) (e : Bool) (p : Nat), skp r e p = ((skp r e 0).1, (skp r e 0).2.1, p + (skp r e 0).2.2)
  | n, [], _, e, p => by simp [skp_nil]
  | 0, c :: r, h, e, p => by simp at h
  | n + 1, c :: r, h, e, p => by
    rw [skp.eq_def, skp.eq_def]
    simp only []
    by_cases h1 : c = 34
    · simp [h1]
    · rw [if_neg h1, if_neg h1]
      by_cases h2 : c = 92
      · rw [if_pos h2, if_pos h2]
        cases r with
        | nil => simp
        | cons x r =>
          simp only []
          rw [skp_shift n r (by simp at h; omega) true (p + 2), skp_shift n r (by simp at h; omega) true (0 + 2)]
          simp; omega
      · rw [if_neg h2, if_neg h2]
        by_cases h3 : c < 32
        · simp [h3]
        · rw [if_neg h3, if_neg h3, skp_shift n r (by simp at h; omega) e (p + 1), skp_shift n r (by simp at h; omega) e (0 + 1)]
          simp; omega
theorem skp_bound : ∀ (n : Nat) (r : List Int) (_ : r.length ≤ n) (e : Bool) (p : Nat), (skp r e p).2.2 ≤ p + r.length
  | n, [], _, e, p => by simp [skp_nil]
  | 0, c :: r, h, e, p => by simp at h
  | n + 1, c :: r, h, e, p => by
    rw [skp.eq_def]
    simp only []
    by_cases h1 : c = 34
    · simp [h1]
    · rw [if_neg h1]
      by_cases h2 : c = 92
      · rw [if_pos h2]
        cases r with
        | nil => simp
        | cons x r =>
          simp only []
          have := skp_bound n r (by simp at h; omega) true (p + 2)
          simp; omega
      · rw [if_neg h2]
        by_cases h3 : c < 32
        · simp [h3]
        · rw [if_neg h3]
          have := skp_bound n r (by simp at h; omega) e (p + 1)
          simp; omega
theorem at_le {D : List Int} {p : Nat} (e : Bool) (h : p ≤ D.length) : (at' D p e).2.2 ≤ D.length := by
  unfold at'
  have := skp_bound _ (D.drop p) (Nat.le_refl _) e (min p D.length)
  rw [List.length_drop, Nat.min_eq_left h] at this
  rw [Nat.min_eq_left h]; omega
theorem at_ge (D : List Int) (p : Nat) (e : Bool) (h : p ≤ D.length) : p ≤ (at' D p e).2.2 := by
  unfold at'
  rw [Nat.min_eq_left h, skp_shift _ _ (Nat.le_refl _) e p]
  exact Nat.le_add_right _ _
/-- Where the scan goes on behind the string whose quote lies ahead of p. -/
theorem aft_at {D : List Int} {p : Nat} (h : p ≤ D.length) : D.drop (spc D (at' D p false).2.2) = aft (D.drop p) := by
  rw [spc_drop]
  unfold aft at'
  rw [Nat.min_eq_left h, skp_shift _ _ (Nat.le_refl _) false p, ← List.drop_drop]

theorem cntAt_plain {D : List Int} {p : Nat} (f : Nat) (h : p < D.length) (hc : D[p] ≠ 34) : cnt (f + 1) (D.drop p) = cnt f (D.drop (p + 1)) := by
  rw [List.drop_eq_getElem_cons h, cnt_plain _ _ _ hc]
theorem cntAt_hit {D : List Int} {p s : Nat} (f : Nat) (h : p < D.length) (hc : D[p] = 34) (hs : s = spc D (at' D (p + 1) false).2.2) (hh : hit D s 58 = true) : cnt (f + 1) (D.drop p) = cnt f (D.drop (s + 1)) + 1 := by
  have e : D[s]? = some 58 := by unfold hit at hh; exact eq_of_beq hh
  obtain ⟨hl, hv⟩ := List.getElem?_eq_some_iff.1 e
  rw [List.drop_eq_getElem_cons h, hc, cnt_hit _ _ (D.drop (s + 1))]
  rw [← aft_at (show p + 1 ≤ D.length by omega), ← hs, List.drop_eq_getElem_cons hl, hv]
theorem cntAt_miss {D : List Int} {p s : Nat} (f : Nat) (h : p < D.length) (hc : D[p] = 34) (hs : s = spc D (at' D (p + 1) false).2.2) (hh : hit D s 58 = false) : cnt (f + 1) (D.drop p) = cnt f (D.drop s) := by
  have e : D.drop s = aft (D.drop (p + 1)) := by rw [hs]; exact aft_at (show p + 1 ≤ D.length by omega)
  rw [List.drop_eq_getElem_cons h, hc, cnt_miss, ← e]
  intro r3 hr
  rw [← e] at hr
  have h2 : (D.drop s)[0]? = some 58 := by rw [hr]; rfl
  rw [List.getElem?_drop, Nat.add_zero] at h2
  unfold hit at hh
  rw [h2] at hh
  simp at hh

theorem Scan.step0 {w : World} {g : Nat} {v : Value} {p : Nat} (h : Scan w g v p) (k : Nat) : Scan (w.setCell ⟨g, 1, none⟩ (.int .i64 ((p : Int) + (k : Int)))) g v (p + k) := by
  have := h.set (p + k)
  rw [Int.natCast_add] at this
  exact this
theorem meas' {w w' : World} {g : Nat} {v : Value} {p q : Nat} (h : Scan w g v p) (h' : Scan w' g v q) (L : Nat) (hk : p < q) (hp : p < L) : L + 1 - Qxb6002691a.place w' g < L + 1 - Qxb6002691a.place w g := by
  rw [h'.place, h.place]; omega

set_option maxHeartbeats 1000000 in
theorem count_any (a : Option Addr) (cap : Nat) (D : List Int) (w : World) (hD : bytesAt w (.slice a D.length cap) D) (hm : D.length ≤ 1099511627776) :
    Calls Try.prog 36 #[.slice a D.length cap] w fun e w' => e = .returned (.int .i64 (cnt (D.length + 1) D)) ∧ Below w.heap.size w w' := by
  have HD : Hid (∀ w', Below w.heap.size w w' → Dat w' w.heap.size a D) := by
    intro w' hb
    obtain ⟨a', cap', hv, h1, h2, h3⟩ := hD
    cases hv
    rcases h3 with h | ⟨b, o, rfl, h⟩
    · exact .inl h
    · by_cases h0 : D.length = 0
      · exact .inl h0
      · have hc := h 0 _ (List.getElem?_eq_getElem (by simp; omega))
        have hlt := World.block_lt_of_cell? _ _ hc
        exact .inr ⟨b, o, rfl, hlt, fun j v hv => (hb.cell (by exact hlt)).trans (h j v hv)⟩
  obtain ⟨N, hN⟩ : ∃ N, cnt (D.length + 1) D = N := ⟨_, rfl⟩
  rw [hN]
  clear hD
  go_enter Try.func36, Try.ntmps36
  go_wp2
  generalize hW : w.alloc _ = W
  have hbW : Below w.heap.size w W := by rw [← hW]; exact (Below.refl _ _).alloc (Nat.le_refl _) _
  have hsc : Scan W w.heap.size (.slice a D.length cap) 0 := by
    have hh : W.heap[w.heap.size]? = some (.cells #[.slice a D.length cap, .int .i64 0] 54 (0, 0)) := by rw [← hW]; exact heap_alloc_new _ _
    refine ⟨?_, ?_, ?_⟩
    · rw [cell_of_row W _ 0 _ 54 (0, 0) hh]; rfl
    · rw [cell_of_row W _ 1 _ 54 (0, 0) hh]; rfl
    · exact frozen_of_row W _ 1 _ 54 hh
  clear hW
  go_loopw [4] (fun nv wr => ∃ (p n f : Nat), nv = .int .i64 n ∧ p ≤ D.length ∧ n ≤ p ∧ Scan wr w.heap.size (.slice a D.length cap) p ∧ Below w.heap.size w wr ∧ D.length - p < f ∧ n + cnt f (D.drop p) = N) (fun _ wr => D.length + 1 - place wr w.heap.size)
  case atStart => exact ⟨0, 0, D.length + 1, rfl, Nat.zero_le _, Nat.le_refl _, hsc, hbW, by omega, by simpa using hN⟩
  case round =>
    obtain ⟨p, n, f, rfl, hp, hnp, hs, hb, hf, hat⟩ := hrel
    clear hN hsc hbW
    have HS : Hid (Scan wr w.heap.size (.slice a D.length cap) p) := hs
    have HA : Hid (n + cnt f (D.drop p) = N) := hat
    obtain ⟨c0, c1, fr⟩ := hs
    clear hat
    by_cases hlt : p < D.length
    · obtain ⟨f, rfl⟩ : ∃ k, f = k + 1 := ⟨f - 1, by omega⟩
      have hlt' : (p : Int) < (D.length : Int) := by omega
      go_wp2_with fail
      refine (consume_any w.heap.size a cap D p 34 wr HS.out (HD.out wr hb) hp hm).mono ?_
      rintro e w1 ⟨rfl, hs1, hb1⟩
      have hb1' := hb.trans hb1
      by_cases hc : D[p] = 34
      · have hh : hit D p 34 = true := by unfold hit; rw [List.getElem?_eq_getElem hlt, hc]; simp
        rw [hh, if_pos rfl] at hs1
        rw [hh]
        clear c0 c1 fr
        go_wp2_with fail
        refine (skip_any w.heap.size a cap D (p + 1) w1 hs1 (HD.out w1 hb1') hlt hm).mono ?_
        rintro e w2 ⟨rfl, hs2, hb2⟩
        have hb2' := hb1'.trans hb2
        have hle := at_le false (show p + 1 ≤ D.length from hlt)
        have hge := at_ge D (p + 1) false (show p + 1 ≤ D.length from hlt)
        obtain ⟨q, hq⟩ : ∃ q, (at' D (p + 1) false).2.2 = q := ⟨_, rfl⟩
        have HQ : Hid ((at' D (p + 1) false).2.2 = q) := hq
        rw [hq] at hs2 hle hge
        clear hq
        go_wp2_with fail
        refine (space_any w.heap.size a cap D q w2 hs2 (HD.out w2 hb2') hle hm).mono ?_
        rintro e w3 ⟨rfl, hs3, hb3⟩
        have hb3' := hb2'.trans hb3
        have hle3 := spc_le hle
        have hge3 := spc_ge D q
        obtain ⟨s, hsq⟩ : ∃ s, spc D q = s := ⟨_, rfl⟩
        have HSQ : Hid (s = spc D (at' D (p + 1) false).2.2) := by
          show _ = _
          rw [HQ.out, hsq]
        rw [hsq] at hs3 hle3 hge3
        clear hsq
        go_wp2_with fail
        refine (consume_any w.heap.size a cap D s 58 w3 hs3 (HD.out w3 hb3') hle3 hm).mono ?_
        rintro e w4 ⟨rfl, hs4, hb4⟩
        have hb4' := hb3'.trans hb4
        cases hh2 : hit D s 58
        · rw [hh2, if_neg (by decide)] at hs4
          have hr := cntAt_miss f hlt hc HSQ.out hh2
          have ha := HA.out
          rw [hr] at ha
          have HA2 : Hid (n + cnt f (D.drop s) = N) := ha
          clear ha hr
          go_wp2
          go_roundw
          case rel => exact ⟨s, n, f, rfl, hle3, by omega, hs4, hb4', by omega, HA2.out⟩
          case measure => exact meas' HS.out hs4 _ (by omega) hlt
        · rw [hh2, if_pos rfl] at hs4
          have hsl : s < D.length := by
            unfold hit at hh2
            exact (List.getElem?_eq_some_iff.1 (eq_of_beq hh2)).1
          have hr := cntAt_hit f hlt hc HSQ.out hh2
          have ha := HA.out
          rw [hr] at ha
          have HA2 : Hid (n + 1 + cnt f (D.drop (s + 1)) = N) := by show _ = _; omega
          clear ha hr
          go_wp2
          go_roundw
          case rel => exact ⟨s + 1, n + 1, f, by go_num, hsl, by omega, hs4, hb4', by omega, HA2.out⟩
          case measure => exact meas' HS.out hs4 _ (by omega) hlt
      · have hh : hit D p 34 = false := by unfold hit; rw [List.getElem?_eq_getElem hlt]; simpa using hc
        rw [hh, if_neg (by decide)] at hs1
        rw [hh]
        have HS1 : Hid (Scan w1 w.heap.size (.slice a D.length cap) p) := hs1
        obtain ⟨c0, c1, fr⟩ := hs1
        go_wp2
        have hr := cntAt_plain f hlt hc
        have ha := HA.out
        rw [hr] at ha
        have hn := HS1.out.step0 1
        exact ⟨⟨p + 1, n, f, rfl, hlt, by omega, hn, hb1'.setCell (Nat.le_refl _) _, by omega, ha⟩, meas' HS.out hn _ (by omega) hlt⟩
    · have hlt' : ¬ (p : Int) < (D.length : Int) := by omega
      have hr := HA.out
      rw [List.drop_eq_nil_of_le (by omega), cnt_nil, Nat.add_zero] at hr
      subst hr
      go_wp2
      go_ret
      exact ⟨rfl, hb⟩

end Go.Proofs.Qxb6002691a
