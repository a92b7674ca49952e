/-
  Seat b6604153a: the walks.
-/
import Derived.Test.Qxb6604153aScan
import Derived.WalkKit
import Derived.WalkSpells
import Derived.WalkLawsBesides
import Derived.Deep.QuietTactic
import Derived.BigQuiet
import Derived.Deep.MidRow
import Derived.Lib.Strings
namespace Go.Proofs.Qxb6604153a
open Go.RowKit
set_option linter.unusedSimpArgs false
set_option linter.unusedVariables false

set_option maxHeartbeats 1000000 in
theorem close_any (s : ByteArray) (hs : s.size ≤ 65536) : ∀ (n i : Nat) (w : World), s.size ≤ i + n → i < s.size →
    Calls Try.prog 9 #[.string s, .int .i64 i] w fun e w' => e = .returned (.int .i64 (ans (sc s (i + 1) 1))) ∧ w' = w := by
  intro n
  induction n with
  | zero => intro i w h hi; omega
  | succ n ih =>
    intro i w h hi
    obtain ⟨R, hR⟩ : ∃ R, R = sc s (i + 1) 1 := ⟨_, rfl⟩
    rw [← hR]
    go_enter Try.func9, Try.ntmps9
    go_wp2_with fail
    go_loopw [5] (fun jv wr => ∃ (j : Nat), jv = .int .i64 j ∧ i < j ∧ j ≤ s.size + 1 ∧ w = wr ∧ sc s j 1 = R) (fun jv _ => s.size + 1 - (intAt jv).toNat)
    case atStart => exact ⟨i + 1, by simp, by omega, by omega, rfl, hR.symm⟩
    case round =>
      obtain ⟨j, rfl, hj, hj2, rfl, hat⟩ := hrel
      have HA : Hid (sc s j 1 = R) := hid hat
      clear hat hR
      by_cases hlt : j < s.size
      · have hlt' : (j : Int) < (s.size : Int) := by omega
        go_wp2_with fail
        · have hc : s[j].toNat = 92 := by have := eq_of_beq ‹((s[j].toNat : Int) == 92) = true›; omega
          have hr := sc_back 1 hlt hc
          rw [HA.out] at hr
          exact ⟨⟨j + 2, by simp, by omega, by omega, trivial, hr.symm⟩, by simp only [intAt]; omega⟩
        · have hc : s[j].toNat = 40 := by have := eq_of_beq ‹((s[j].toNat : Int) == 40) = true›; omega
          have hr := sc_open 1 hlt hc
          rw [HA.out, sc_two] at hr
          refine (ih j w (by omega) hlt).mono ?_
          rintro e w' ⟨rfl, rfl⟩
          cases hk : sc s (j + 1) 1 with
          | none =>
            rw [hk] at hr
            simp only [Option.bind] at hr
            subst hr
            simp only [ans]
            go_wp2_with fail
            go_ret
            exact ⟨rfl, rfl⟩
          | some k =>
            obtain ⟨b1, b2⟩ := sc_bound s s.size (j + 1) 1 k (by omega) hk
            rw [hk] at hr
            simp only [Option.bind] at hr
            have HR : Hid (R = sc s k 1) := hid hr
            clear hr hk
            simp only [ans]
            go_wp2_with fail
            exact ⟨⟨k, rfl, by omega, by omega, trivial, HR.out.symm⟩, by simp only [intAt]; omega⟩
        · have hc : s[j].toNat = 41 := by have := eq_of_beq ‹((s[j].toNat : Int) == 41) = true›; omega
          have hr := sc_last hlt hc
          rw [HA.out] at hr
          subst hr
          go_ret
          exact ⟨by simp [ans], rfl⟩
        · have c1 : s[j].toNat ≠ 92 := by have := ne_of_beq_false ‹((s[j].toNat : Int) == 92) = false›; omega
          have c2 : s[j].toNat ≠ 40 := by have := ne_of_beq_false ‹((s[j].toNat : Int) == 40) = false›; omega
          have c3 : s[j].toNat ≠ 41 := by have := ne_of_beq_false ‹((s[j].toNat : Int) == 41) = false›; omega
          have hr := sc_plain 1 hlt c1 c2 c3
          rw [HA.out] at hr
          exact ⟨⟨j + 1, by simp, by omega, by omega, trivial, hr.symm⟩, by simp only [intAt]; omega⟩
      · have hr := sc_end 1 (show s.size ≤ j by omega)
        rw [HA.out] at hr
        subst hr
        go_wp2_with fail
        go_ret
        exact ⟨rfl, rfl⟩

set_option maxHeartbeats 1000000 in
theorem zzBytes_any (s : ByteArray) (b : Bool) (w : World) (hs : s.size ≤ 9223372036854775807) :
    Calls Try.prog 7 #[.string s, .bool b] w fun e w' => e = .returned (.bool (decide (s.size ≤ 1048576))) ∧ w' = w := by
  go_enter Try.func7, Try.ntmps7
  by_cases h : s.size ≤ 1048576
  · go_wp2_with fail
    go_ret
    exact ⟨by simp [h], rfl⟩
  · go_wp2_with fail
    go_ret
    exact ⟨by simp [h], rfl⟩

/-- Does s begin with "("? -/
def opens (s : ByteArray) : Bool := decide (∃ h : 0 < s.size, s[0].toNat = 40)

set_option maxHeartbeats 1000000 in
theorem prefix_any (s : ByteArray) (w : World) (hs : s.size ≤ 65536) :
    Calls Try.prog 11 #[.string s, .string ⟨#[40]⟩] w fun e w' => e = .returned (.bool (opens s)) ∧ w' = w := by
  go_enter Try.func11, Try.ntmps11
  by_cases h : 0 < s.size
  · go_wp2_with (go_in)
    go_ret
    refine ⟨?_, rfl⟩
    have e : ((s.extract 0 1).toList == [40]) = opens s := by
      have e1 : (s.extract 0 1).toList = [s[0]] := by
        rw [Lib.extract_toList, drop_at s 0 h]; rfl
      rw [e1]
      unfold opens
      by_cases hc : s[0].toNat = 40
      · have : s[0] = 40 := UInt8.toNat_inj.1 hc
        simp [this, h]
      · have : s[0] ≠ 40 := fun hh => hc (by rw [hh]; rfl)
        simp [this, h, hc]
    rw [← e]
    rfl
  · go_wp2_with (go_in)
    go_ret
    exact ⟨by simp [opens, h], rfl⟩

/-- What comment leaves in the world. -/
def left (g : Nat) (s : ByteArray) (w : World) : Option Nat → World
  | none => w
  | some k => w.setCell ⟨g, 0, none⟩ (.string (s.extract k s.size))

set_option maxHeartbeats 1000000 in
theorem comment_no (g : Nat) (s : ByteArray) (b : Bool) (w : World) (hs : s.size ≤ 65536) (c0 : w.cell? ⟨g, 0, none⟩ = some (.string s)) (c1 : w.cell? ⟨g, 1, none⟩ = some (.bool b)) (hb : (b || !opens s) = true) :
    Calls Try.prog 10 #[.pointer (some ⟨g, 0, none⟩)] w fun e w' => e = .returned (.bool false) ∧ w' = w := by
  go_enter Try.func10, Try.ntmps10
  cases b with
  | true =>
    go_wp2_with fail
    go_ret
    exact ⟨rfl, rfl⟩
  | false =>
    have ho : opens s = false := by simpa using hb
    go_wp2_with fail
    refine (prefix_any s w hs).mono ?_
    rintro e w' ⟨rfl, rfl⟩
    rw [ho]
    clear ho hb
    go_wp2_with fail
    go_ret
    exact ⟨rfl, rfl⟩

set_option maxHeartbeats 1000000 in
theorem comment_yes (g : Nat) (s : ByteArray) (w : World) (hs : s.size ≤ 65536) (c0 : w.cell? ⟨g, 0, none⟩ = some (.string s)) (c1 : w.cell? ⟨g, 1, none⟩ = some (.bool false)) (fr : w.frozen? ⟨g, 0, none⟩ = false) (ho : opens s = true) :
    Calls Try.prog 10 #[.pointer (some ⟨g, 0, none⟩)] w fun e w' => e = .returned (.bool (sc s 1 1).isSome) ∧ w' = left g s w (sc s 1 1) := by
  obtain ⟨R, hR⟩ : ∃ R, R = sc s 1 1 := ⟨_, rfl⟩
  rw [← hR]
  obtain ⟨h0, hc0⟩ : ∃ h : 0 < s.size, s[0].toNat = 40 := by simpa [opens] using ho
  go_enter Try.func10, Try.ntmps10
  go_wp2_with fail
  refine (prefix_any s w hs).mono ?_
  rintro e w ⟨rfl, rfl⟩
  rw [ho]
  clear ho
  have H0 : Hid (∃ h : 0 < s.size, s[0].toNat = 40) := hid ⟨h0, hc0⟩
  have HR : Hid (sc s 0 0 = R) := hid (by rw [hR]; exact sc_open 0 h0 hc0)
  clear h0 hc0 hR
  go_wp2_with fail
  go_loopw [3, 4] (fun dv jv wr => ∃ (d j : Nat), dv = .int .i64 d ∧ jv = .int .i64 j ∧ j ≤ s.size + 1 ∧ d ≤ j ∧ (d = 0 → j = 0) ∧ w = wr ∧ sc s j d = R) (fun _ jv _ => s.size + 1 - (intAt jv).toNat)
  case atStart => exact ⟨0, 0, rfl, rfl, by omega, by omega, by omega, rfl, HR.out⟩
  case round =>
    obtain ⟨d, j, rfl, rfl, hj2, hdj, hd0, rfl, hat⟩ := hrel
    have HA : Hid (sc s j d = R) := hid hat
    clear hat HR
    by_cases hlt : j < s.size
    · have hlt' : (j : Int) < (s.size : Int) := by omega
      go_wp2_with fail
      · have hc : s[j].toNat = 92 := by have := eq_of_beq ‹((s[j].toNat : Int) == 92) = true›; omega
        have hr := sc_back d hlt hc
        rw [HA.out] at hr
        exact ⟨⟨d, j + 2, rfl, by simp; omega, by omega, by omega, fun h => by have := hd0 h; subst this; obtain ⟨_, h2⟩ := H0.out; omega, trivial, hr.symm⟩, by simp only [intAt]; omega⟩
      · have hc : s[j].toNat = 40 := by have := eq_of_beq ‹((s[j].toNat : Int) == 40) = true›; omega
        have hr := sc_open d hlt hc
        rw [HA.out] at hr
        exact ⟨⟨d + 1, j + 1, by simp, by simp, by omega, by omega, fun h => by omega, trivial, hr.symm⟩, by simp only [intAt]; omega⟩
      · have hc : s[j].toNat = 41 := by have := eq_of_beq ‹((s[j].toNat : Int) == 41) = true›; omega
        have hd1 : d = 1 := by have := eq_of_beq ‹((d : Int) - 1 == 0) = true›; omega
        subst hd1
        have hr := sc_last hlt hc
        rw [HA.out] at hr
        subst hr
        go_ret
        exact ⟨rfl, rfl⟩
      · have hc : s[j].toNat = 41 := by have := eq_of_beq ‹((s[j].toNat : Int) == 41) = true›; omega
        have hd1 : d ≠ 1 := by have := ne_of_beq_false ‹((d : Int) - 1 == 0) = false›; omega
        have hd2 : d ≠ 0 := fun h => by have := hd0 h; subst this; obtain ⟨_, h2⟩ := H0.out; omega
        have hr := sc_close hlt hc hd1
        rw [HA.out] at hr
        exact ⟨⟨d - 1, j + 1, by rw [Int.natCast_sub (by omega)]; rfl, by simp, by omega, by omega, fun h => by omega, trivial, hr.symm⟩, by simp only [intAt]; omega⟩
      · have c1 : s[j].toNat ≠ 92 := by have := ne_of_beq_false ‹((s[j].toNat : Int) == 92) = false›; omega
        have c2 : s[j].toNat ≠ 40 := by have := ne_of_beq_false ‹((s[j].toNat : Int) == 40) = false›; omega
        have c3 : s[j].toNat ≠ 41 := by have := ne_of_beq_false ‹((s[j].toNat : Int) == 41) = false›; omega
        have hr := sc_plain d hlt c1 c2 c3
        rw [HA.out] at hr
        exact ⟨⟨d, j + 1, rfl, by simp, by omega, by omega, fun h => by have := hd0 h; subst this; obtain ⟨_, h2⟩ := H0.out; omega, trivial, hr.symm⟩, by simp only [intAt]; omega⟩
    · have hr := sc_end d (show s.size ≤ j by omega)
      rw [HA.out] at hr
      subst hr
      go_wp2_with fail
      go_ret
      exact ⟨rfl, rfl⟩

/-- What comment finds, at both answers of the head. -/
def found (s : ByteArray) (b : Bool) : Option Nat := if (b || !opens s) = true then none else sc s 1 1

/-- What is left of the text. -/
def rest (s : ByteArray) : Option Nat → ByteArray
  | none => s
  | some k => s.extract k s.size

theorem comment_any (g : Nat) (s : ByteArray) (b : Bool) (w : World) (hs : s.size ≤ 65536) (c0 : w.cell? ⟨g, 0, none⟩ = some (.string s)) (c1 : w.cell? ⟨g, 1, none⟩ = some (.bool b)) (fr : w.frozen? ⟨g, 0, none⟩ = false) :
    Calls Try.prog 10 #[.pointer (some ⟨g, 0, none⟩)] w fun e w' => e = .returned (.bool (found s b).isSome) ∧ w' = left g s w (found s b) := by
  unfold found
  by_cases h : (b || !opens s) = true
  · rw [if_pos h]
    exact comment_no g s b w hs c0 c1 h
  · rw [if_neg h]
    have hb : b = false := by revert h; cases b <;> simp
    have ho : opens s = true := by revert h; cases opens s <;> simp
    subst hb
    exact comment_yes g s w hs c0 c1 fr ho

theorem left_cell0 (g : Nat) (s : ByteArray) (w : World) (o : Option Nat) (c0 : w.cell? ⟨g, 0, none⟩ = some (.string s)) : (left g s w o).cell? ⟨g, 0, none⟩ = some (.string (rest s o)) := by
  cases o with
  | none => exact c0
  | some k => exact World.cell?_setCell_same _ _ _ c0
theorem left_cell1 (g : Nat) (s : ByteArray) (b : Bool) (w : World) (o : Option Nat) (c1 : w.cell? ⟨g, 1, none⟩ = some (.bool b)) : (left g s w o).cell? ⟨g, 1, none⟩ = some (.bool b) := by
  cases o with
  | none => exact c1
  | some k => exact (World.cell?_setCell_other _ _ _ _ (by simp)).trans c1
theorem left_below (g B : Nat) (s : ByteArray) (w0 w : World) (o : Option Nat) (h : Below B w0 w) (hB : B ≤ g) : Below B w0 (left g s w o) := by
  cases o with
  | none => exact h
  | some k => exact h.setCell hB _

theorem below_drewN (w : World) (B k : Nat) : Below B w (w.drewN k) := ⟨rfl, rfl, rfl, Nat.le_refl _, fun _ _ => rfl⟩

set_option maxHeartbeats 1000000 in
theorem zz_any (s : ByteArray) (b : Bool) (w : World) (hs : s.size ≤ 65536) :
    Calls Try.prog 8 #[.string s, .bool b] w fun e w' => e = .returned (.tuple #[.string (rest s (found s b)), .bool b, .bool (found s b).isSome]) ∧ Below w.heap.size w w' := by
  obtain ⟨F, hF⟩ : ∃ F, found s b = F := ⟨_, rfl⟩
  have hcm := fun g W a1 a2 a3 => comment_any g s b W hs a1 a2 a3
  rw [hF] at hcm ⊢
  clear hF
  go_enter Try.func8, Try.ntmps8
  go_wp2_with fail
  generalize hW : w.alloc _ = W
  have hbW : Below w.heap.size w W := by rw [← hW]; exact (Below.refl _ _).alloc (Nat.le_refl _) _
  have hh : W.heap[w.heap.size]? = some (.cells #[.string s, .bool b] 37 (0, 0)) := by rw [← hW]; exact heap_alloc_new _ _
  have k0 : W.cell? ⟨w.heap.size, 0, none⟩ = some (.string s) := by rw [cell_of_row W _ 0 _ 37 (0, 0) hh]; rfl
  have k1 : W.cell? ⟨w.heap.size, 1, none⟩ = some (.bool b) := by rw [cell_of_row W _ 1 _ 37 (0, 0) hh]; rfl
  have kf : W.frozen? ⟨w.heap.size, 0, none⟩ = false := frozen_of_row W _ 0 _ 37 hh
  clear hW hh
  refine (hcm _ W k0 k1 kf).mono ?_
  rintro e w1 ⟨rfl, hw1⟩
  have hb1 : Below w.heap.size w w1 := by rw [hw1]; exact left_below _ _ _ _ _ _ hbW (Nat.le_refl _)
  have l0 : w1.cell? ⟨w.heap.size, 0, none⟩ = some (.string (rest s F)) := by rw [hw1]; exact left_cell0 _ _ _ _ k0
  have l1 : w1.cell? ⟨w.heap.size, 1, none⟩ = some (.bool b) := by rw [hw1]; exact left_cell1 _ _ _ _ _ k1
  clear hcm hbW k0 k1 kf hw1
  go_wp2_with fail
  go_quiet (fail)
  go_wp2_with fail
  go_ret3
  exact ⟨rfl, hb1.trans (below_drewN _ _ _)⟩

end Go.Proofs.Qxb6604153a
