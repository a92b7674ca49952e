/-
  Seat b6002691a: skipString.
-/
import Derived.Test.Qxb6002691aBase
namespace Go.Proofs.Qxb6002691a
open Go.RowKit
set_option linter.unusedSimpArgs false
set_option linter.unusedVariables false

/-- What skipString finds in the rest of a text, from place p on: (escaped, closed, where it stops). -/
def skp : List Int → Bool → Nat → Bool × Bool × Nat
  | [], e, p => (e, false, p)
  | c :: r, e, p => if c = 34 then (e, true, p + 1) else if c = 92 then (match r with | [] => (true, false, p + 1) | _ :: r2 => skp r2 true (p + 2)) else if c < 32 then (e, false, p) else skp r e (p + 1)

theorem skp_quote (r : List Int) (e : Bool) (p : Nat) : skp (34 :: r) e p = (e, true, p + 1) := by
  rw [skp.eq_def]; simp
theorem skp_back (x : Int) (r : List Int) (e : Bool) (p : Nat) : skp (92 :: x :: r) e p = skp r true (p + 2) := by
  rw [skp.eq_def]; simp
theorem skp_ctl (c : Int) (r : List Int) (e : Bool) (p : Nat) (h1 : c < 32) : skp (c :: r) e p = (e, false, p) := by
  rw [skp.eq_def]; simp only []; rw [if_neg (by omega), if_neg (by omega), if_pos h1]
theorem skp_plain (c : Int) (r : List Int) (e : Bool) (p : Nat) (h1 : c ≠ 34) (h2 : c ≠ 92) (h3 : ¬ c < 32) : skp (c :: r) e p = skp r e (p + 1) := by
  rw [skp.eq_def]; simp only []; rw [if_neg h1, if_neg h2, if_neg h3]
theorem skp_nil (e : Bool) (p : Nat) : skp [] e p = (e, false, p) := rfl

/-- The scan at place p of D. -/
def at' (D : List Int) (p : Nat) (e : Bool) : Bool × Bool × Nat := skp (D.drop p) e (min p D.length)
theorem at_quote {D : List Int} {p : Nat} (e : Bool) (h : p < D.length) (hc : D[p] = 34) : at' D p e = (e, true, p + 1) := by
  unfold at'; rw [List.drop_eq_getElem_cons h, hc, skp_quote, Nat.min_eq_left (by omega)]
theorem at_ctl {D : List Int} {p : Nat} (e : Bool) (h : p < D.length) (hc : D[p] < 32) : at' D p e = (e, false, p) := by
  unfold at'; rw [List.drop_eq_getElem_cons h, skp_ctl _ _ _ _ hc, Nat.min_eq_left (by omega)]
theorem at_plain {D : List Int} {p : Nat} (e : Bool) (h : p < D.length) (h1 : D[p] ≠ 34) (h2 : D[p] ≠ 92) (h3 : ¬ D[p] < 32) : at' D p e = at' D (p + 1) e := by
  unfold at'; rw [List.drop_eq_getElem_cons h, skp_plain _ _ _ _ h1 h2 h3, Nat.min_eq_left (by omega), Nat.min_eq_left (by omega)]
theorem at_back {D : List Int} {p : Nat} (e : Bool) (h : p < D.length) (hc : D[p] = 92) : at' D p e = at' D (p + 2) true := by
  unfold at'
  rw [List.drop_eq_getElem_cons h, hc, Nat.min_eq_left (show p ≤ D.length by omega)]
  by_cases h2 : p + 1 < D.length
  · rw [List.drop_eq_getElem_cons h2, skp_back, Nat.min_eq_left (by omega)]
  · rw [List.drop_eq_nil_of_le (by omega), List.drop_eq_nil_of_le (by omega), Nat.min_eq_right (by omega), skp.eq_def]
    have : D.length = p + 1 := by omega
    rw [this]; simp [skp_nil]
theorem at_end {D : List Int} {p : Nat} (e : Bool) (h : D.length ≤ p) : at' D p e = (e, false, D.length) := by
  unfold at'; rw [List.drop_eq_nil_of_le h, Nat.min_eq_right h]; rfl

/-- The block g is a scanner over v at place p. -/
structure Scan (w : World) (g : Nat) (v : Value) (p : Nat) : Prop where
  data : w.cell? ⟨g, 0, none⟩ = some v
  i : w.cell? ⟨g, 1, none⟩ = some (.int .i64 p)
  fr : w.frozen? ⟨g, 1, none⟩ = false
theorem Scan.set {w : World} {g : Nat} {v : Value} {p : Nat} (h : Scan w g v p) (q : Nat) : Scan (w.setCell ⟨g, 1, none⟩ (.int .i64 q)) g v q :=
  ⟨by rw [World.cell?_setCell_other _ _ _ _ (by simp)]; exact h.data, World.cell?_setCell_same _ _ _ h.i, by rw [World.frozen?_setCell]; exact h.fr⟩

theorem Scan.drewN {w : World} {g : Nat} {v : Value} {p : Nat} (h : Scan w g v p) (n : Nat) : Scan (w.drewN n) g v p := ⟨h.data, h.i, h.fr⟩
theorem Scan.step {w : World} {g : Nat} {v : Value} {p : Nat} (h : Scan w g v p) (n k : Nat) : Scan ((w.drewN n).setCell ⟨g, 1, none⟩ (.int .i64 ((p : Int) + (k : Int)))) g v (p + k) := by
  have := (h.drewN n).set (p + k)
  rw [Int.natCast_add] at this
  exact this
theorem below_step {g : Nat} {w0 w : World} (h : Below g w0 w) (n : Nat) (v : Value) : Below g w0 ((w.drewN n).setCell ⟨g, 1, none⟩ v) := (h.trans (below_drewN _ _ _)).setCell (Nat.le_refl _) _

/-- What the scanner holds, for the measure. -/
def place (w : World) (g : Nat) : Nat := (intOf ((w.cell? ⟨g, 1, none⟩).getD (.int .i64 0))).toNat
theorem Scan.place {w : World} {g : Nat} {v : Value} {p : Nat} (h : Scan w g v p) : place w g = p := by
  unfold Qxb6002691a.place; rw [h.i]; simp [intOf]

theorem meas {w : World} {g : Nat} {v : Value} {p : Nat} (h : Scan w g v p) (n k L : Nat) (hk : 0 < k) (hp : p < L) : L + 1 - Qxb6002691a.place ((w.drewN n).setCell ⟨g, 1, none⟩ (.int .i64 ((p : Int) + (k : Int)))) g < L + 1 - Qxb6002691a.place w g := by
  rw [(h.step n k).place, h.place]; omega

set_option maxHeartbeats 1000000 in
theorem skip_any (g : Nat) (a : Option Addr) (cap : Nat) (D : List Int) (i : Nat) (w : World) (hs : Scan w g (.slice a D.length cap) i) (hD : D.length = 0 ∨ ∃ b o, a = some ⟨b, o, none⟩ ∧ b < g ∧ w.rangeAt b o (D.map (Value.int .u8))) (hi : i ≤ D.length) (hm : D.length ≤ 1099511627776) :
    Calls Try.prog 35 #[.pointer (some ⟨g, 0, none⟩)] w fun e w' => e = .returned (.tuple #[.bool (at' D i false).1, .bool (at' D i false).2.1]) ∧ Scan w' g (.slice a D.length cap) (at' D i false).2.2 ∧ Below g w w' := by
  obtain ⟨R, hR⟩ : ∃ R, R = at' D i false := ⟨_, rfl⟩
  rw [← hR]
  go_enter Try.func35, Try.ntmps35
  go_wp2
  go_loopw [2] (fun ev wr => ∃ (p : Nat) (e : Bool), ev = .bool e ∧ p ≤ D.length + 1 ∧ Scan wr g (.slice a D.length cap) p ∧ Below g w wr ∧ at' D p e = R) (fun _ wr => D.length + 1 - place wr g)
  case atStart => exact ⟨i, false, rfl, by omega, hs, Below.refl _ _, hR.symm⟩
  case round =>
    obtain ⟨p, e, rfl, hp, hsc, hb, hat⟩ := hrel
    clear hR hs
    obtain ⟨c0, c1, fr⟩ := hsc
    have hsc : Hid (Scan wr g (.slice a D.length cap) p) := ⟨c0, c1, fr⟩
    have HA : Hid (at' D p e = R) := hat
    clear hat
    by_cases hlt : p < D.length
    · obtain ⟨b, o, rfl, hbg, hcell⟩ : ∃ b o, a = some ⟨b, o, none⟩ ∧ b < g ∧ w.rangeAt b o (D.map (Value.int .u8)) := by
        rcases hD with h | h
        · omega
        · exact h
      have hc0 : w.cell? ⟨b, o + p, none⟩ = some (.int .u8 D[p]) := hcell p _ (by simp [hlt])
      have hck : wr.cell? ⟨b, o + p, none⟩ = some (.int .u8 D[p]) := (hb.cell (by exact hbg)).trans hc0
      obtain ⟨c, hcc⟩ : ∃ c, c = D[p] := ⟨_, rfl⟩
      rw [← hcc] at hck
      have HC : Hid (c = D[p]) := hcc
      clear hc0 hcell hD hcc
      have hlt' : (p : Int) < (D.length : Int) := by omega
      go_wp2
      go_quiet (fail)
      go_wp2
      go_quiet (fail)
      go_wp2
      · have h34 : D[p] = 34 := by rw [← HC.out]; exact eq_of_beq (by assumption)
        have hr := at_quote e hlt h34
        rw [HA.out] at hr
        subst hr
        go_ret2
        exact ⟨rfl, hsc.out.step _ 1, below_step hb _ _⟩
      · have h92 : D[p] = 92 := by rw [← HC.out]; exact eq_of_beq (by assumption)
        have hr := at_back e hlt h92
        rw [HA.out] at hr
        exact ⟨⟨p + 2, true, rfl, by omega, hsc.out.step _ 2, below_step hb _ _, hr.symm⟩, meas hsc.out _ 2 _ (by omega) hlt⟩
      · have hr := at_ctl e hlt (by rw [← HC.out]; assumption)
        rw [HA.out] at hr
        subst hr
        go_ret2
        exact ⟨rfl, hsc.out.drewN _, hb.trans (below_drewN _ _ _)⟩
      · have h34 : D[p] ≠ 34 := by rw [← HC.out]; exact ne_of_beq_false (by assumption)
        have h92 : D[p] ≠ 92 := by rw [← HC.out]; exact ne_of_beq_false (by assumption)
        have hr := at_plain e hlt h34 h92 (by rw [← HC.out]; omega)
        rw [HA.out] at hr
        exact ⟨⟨p + 1, e, rfl, by omega, hsc.out.step _ 1, below_step hb _ _, hr.symm⟩, meas hsc.out _ 1 _ (by omega) hlt⟩
    · have hr := at_end e (show D.length ≤ p by omega)
      rw [HA.out] at hr
      subst hr
      go_wp2
      go_quiet (fail)
      go_wp2
      go_ret2
      exact ⟨rfl, (hsc.out.drewN _).set D.length, below_step hb _ _⟩

set_option maxHeartbeats 1000000 in
theorem zzskip_any (a : Option Addr) (cap : Nat) (D : List Int) (i : Nat) (w : World) (hD : bytesAt w (.slice a D.length cap) D) (hi : i ≤ D.length) (hm : D.length ≤ 1099511627776) :
    Calls Try.prog 24 #[.slice a D.length cap, .int .i64 i] w fun e w' => e = .returned (.tuple #[.bool (at' D i false).1, .bool (at' D i false).2.1, .int .i64 (at' D i false).2.2]) ∧ Below w.heap.size w w' := by
  have hD' : ∀ w', Below w.heap.size w w' → D.length = 0 ∨ ∃ b o, a = some ⟨b, o, none⟩ ∧ b < w.heap.size ∧ w'.rangeAt b o (D.map (Value.int .u8)) := by
    intro w' hb
    obtain ⟨a', cap', hv, h1, h2, h3⟩ := hD
    cases hv
    rcases h3 with h | ⟨b, o, rfl, h⟩
    · exact .inl h
    · by_cases h0 : D.length = 0
      · exact .inl h0
      · have hc := h 0 _ (List.getElem?_eq_getElem (by simp; omega))
        have hlt := World.block_lt_of_cell? _ _ hc
        exact .inr ⟨b, o, rfl, hlt, fun j v hv => (hb.cell (by exact hlt)).trans (h j v hv)⟩
  have HD : Hid (∀ w', Below w.heap.size w w' → D.length = 0 ∨ ∃ b o, a = some ⟨b, o, none⟩ ∧ b < w.heap.size ∧ w'.rangeAt b o (D.map (Value.int .u8))) := hD'
  clear hD hD'
  obtain ⟨R, hR⟩ : ∃ R, at' D i false = R := ⟨_, rfl⟩
  have hsk := fun W hsc hbW => skip_any w.heap.size a cap D i W hsc (HD.out W hbW) hi hm
  rw [hR] at hsk ⊢
  clear hR
  go_enter Try.func24, Try.ntmps24
  go_wp2_with fail
  generalize hW : w.alloc _ = W
  have hbW : Below w.heap.size w W := by rw [← hW]; exact (Below.refl _ _).alloc (Nat.le_refl _) _
  have hsc : Scan W w.heap.size (.slice a D.length cap) i := by
    have hh : W.heap[w.heap.size]? = some (.cells #[.slice a D.length cap, .int .i64 i] 54 (0, 0)) := by rw [← hW]; exact heap_alloc_new _ _
    refine ⟨?_, ?_, ?_⟩
    · rw [cell_of_row W _ 0 _ 54 (0, 0) hh]; rfl
    · rw [cell_of_row W _ 1 _ 54 (0, 0) hh]; rfl
    · exact frozen_of_row W _ 1 _ 54 hh
  clear hW
  refine (hsk W hsc hbW).mono ?_
  rintro e w1 ⟨rfl, ⟨c0, c1, fr⟩, hb1⟩
  have hb2 := hbW.trans hb1
  clear hsc hbW hb1 hsk
  go_wp2
  go_quiet (fail)
  go_wp2
  go_ret3
  exact ⟨rfl, hb2.trans (below_drewN _ _ _)⟩

end Go.Proofs.Qxb6002691a
