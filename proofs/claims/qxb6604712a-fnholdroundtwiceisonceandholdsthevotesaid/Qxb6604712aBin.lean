/-
  Seat b6604712a: slices.BinarySearchFunc over held rounds; its comparison.
-/
import Derived.Test.Qxb6604712aDel
import Derived.Test.Qxb6604712aRead2
namespace Go.Proofs.Qxb6604712a
open Go.RowKit
set_option linter.unusedSimpArgs false
set_option linter.unusedVariables false

theorem exec_load91 (ρ : Operand → Value) (xp : Operand) (dst : Option Tmp) (ty : TypeId) (pos : String) (af : Array Edge) (gd : Option (Nat × Bool)) (w : World)
    (hp : isPtr (ρ xp) = true) (hc : canRd w (ptrB (ρ xp)) (ptrO (ρ xp)) 73) :
    Sem.run Try.prog (execOp ρ ⟨dst, .load 91 xp, ty, pos, af, gd⟩) w = .ok (.value (.agg (rd w (ptrB (ρ xp)) (ptrO (ρ xp)) 73))) w := exec_load_of Try.siz91 Try.underlying91 rfl ρ xp dst ty pos af gd w hp hc

/-- cmp.Compare. -/
def cmpI (a b : Int) : Int := if a < b then -1 else if b < a then 1 else 0

set_option maxHeartbeats 400000 in
theorem compare_any (a b : Int) (w : World) : Calls Try.prog 76 #[.int .i64 a, .int .i64 b] w fun e w' => e = .returned (.int .i64 (cmpI a b)) ∧ w' = w := by
  go_enter Try.func76, Try.ntmps76
  rcases Int.lt_trichotomy a b with h | h | h
  · go_wp2_with (go_in)
    go_ret
    exact ⟨by simp [cmpI, h], rfl⟩
  · subst h
    go_wp2_with (go_in)
    go_ret
    exact ⟨by simp [cmpI], rfl⟩
  · have h2 : ¬ a < b := by omega
    go_wp2_with (go_in)
    go_ret
    exact ⟨by simp [cmpI, h, h2], rfl⟩

set_option maxHeartbeats 400000 in
theorem cmp75 (x : HrD) (r : Int) (w : World) : Calls Try.prog 75 #[.agg x.cells.toArray, .int .i64 r] w fun e w' => e = .returned (.int .i64 (cmpI x.rnd r)) ∧ Below w.heap.size w w' := by
  have h0 : x.cells[0]? = some (.int .i64 x.rnd) := rfl
  go_enter Try.func75, Try.ntmps75
  go_wp2_with fail
  refine (compare_any _ _ _).mono ?_
  rintro e w1 ⟨rfl, rfl⟩
  go_wp2_with fail
  go_ret
  exact ⟨rfl, (Below.refl _ _).alloc (Nat.le_refl _) _⟩

/-- The place where r stands or would stand. -/
def Cut (hs : List HrD) (r : Int) (i : Nat) : Prop := i ≤ hs.length ∧ (∀ k x, k < i → hs[k]? = some x → x.rnd < r) ∧ (∀ k x, i ≤ k → hs[k]? = some x → r ≤ x.rnd)
/-- Do the rounds grow? -/
def Grows (hs : List HrD) : Prop := ∀ k x y, hs[k]? = some x → hs[k + 1]? = some y → x.rnd < y.rnd
theorem Grows.lt {hs : List HrD} (h : Grows hs) : ∀ (d k : Nat) (x y : HrD), hs[k]? = some x → hs[k + d + 1]? = some y → x.rnd < y.rnd
  | 0, k, x, y, hx, hy => h k x y hx hy
  | d + 1, k, x, y, hx, hy => by
    have hl : k + d + 1 < hs.length := by have := (List.getElem?_eq_some_iff.1 hy).1; omega
    have hm := List.getElem?_eq_getElem hl
    exact Int.lt_trans (h.lt d k x _ hx hm) (h _ _ _ hm hy)
theorem Grows.lt' {hs : List HrD} (h : Grows hs) {k m : Nat} {x y : HrD} (hk : k < m) (hx : hs[k]? = some x) (hy : hs[m]? = some y) : x.rnd < y.rnd :=
  h.lt (m - k - 1) k x y hx (by rw [show k + (m - k - 1) + 1 = m by omega]; exact hy)
/-- Is it there? -/
def foundAt (hs : List HrD) (r : Int) (i : Nat) : Bool := match hs[i]? with | some x => x.rnd == r | none => false

/-- The k-th held round of a row. -/
theorem owns_at {w : World} {B g n cap : Nat} {hs : List HrD} (h : w.ownsRow B 91 73 (.slice (some ⟨g, 0, none⟩) n cap) n (hs.flatMap HrD.cells)) (hid : ∀ x ∈ hs, x.ids) {k : Nat} {x : HrD} (hx : hs[k]? = some x) : w.rangeAt g (k * 73) x.cells := fun j v hv => by
  have hk := (List.getElem?_eq_some_iff.1 hx).1
  have hxe : hs[k] = x := (List.getElem?_eq_some_iff.1 hx).2
  have hj : j < 73 := by
    have := (List.getElem?_eq_some_iff.1 hv).1
    rw [HrD.cells_len (hid x (List.mem_of_getElem? hx))] at this; exact this
  have hl := flat_len HrD.cells 73 hs (fun y hy => HrD.cells_len (hid y hy))
  have := flat_get HrD.cells 73 hs (fun y hy => HrD.cells_len (hid y hy)) k j hk hj
  have hlt : k * 73 + j < (hs.flatMap HrD.cells).length := by rw [hl]; omega
  rw [h.cellAt (k * 73 + j) (by rw [← h.1]; exact hlt), this, hxe, hv]

attribute [local go_sem ↓] exec_load91
attribute [local go_sem] ptrB ptrO isPtr

set_option maxRecDepth 100000 in
set_option maxHeartbeats 2000000 in
theorem bin_any (v : Value) (B : Nat) (hs : List HrD) (r : Int) (w : World) (hown : w.ownsRow B 91 73 v hs.length (hs.flatMap HrD.cells)) (hid : ∀ x ∈ hs, x.ids) (hn : hs.length ≤ 900) (hgr : Grows hs) :
    Calls Try.prog 74 #[v, .int .i64 r, .func (.func 75) #[] #[]] w fun e w' => ∃ i, e = .returned (.tuple #[.int .i64 (i : Nat), .bool (foundAt hs r i)]) ∧ Cut hs r i ∧ Below w.heap.size w w' := by
  obtain ⟨a, n, cap, rfl⟩ := owns_form hown
  have hnn : n = hs.length := by
    rcases hown.2 with ⟨h0, h1⟩ | ⟨g', cap', cur, hv, _⟩
    · cases h0; exact h1.symm
    · cases hv; rfl
  subst hnn
  have HO : Hid (w.ownsRow B 91 73 (.slice a hs.length cap) hs.length (hs.flatMap HrD.cells)) := hown
  have HG : Hid (Grows hs) := hgr
  clear hown hgr
  generalize hn0 : hs.length = n at *
  go_enter Try.func74, Try.ntmps74
  go_wp2_with fail
  go_loopw [9, 10] (fun iv jv wr => ∃ i j : Nat, iv = .int .i64 i ∧ jv = .int .i64 j ∧ i ≤ j ∧ j ≤ n ∧ (∀ k x, k < i → hs[k]? = some x → x.rnd < r) ∧ (∀ k x, j ≤ k → hs[k]? = some x → r ≤ x.rnd) ∧ Below w.heap.size w wr) (fun iv jv _ => (intOf jv).toNat - (intOf iv).toNat)
  case atStart => exact ⟨0, n, rfl, rfl, Nat.zero_le _, Nat.le_refl _, fun k x hk => by omega, fun k x hk hx => by have := (List.getElem?_eq_some_iff.1 hx).1; omega, Below.refl _ _⟩
  case round =>
    obtain ⟨i, j, rfl, rfl, hij, hjn, hlo, hhi, hb⟩ := hrel
    have HL : Hid (∀ k x, k < i → hs[k]? = some x → x.rnd < r) := hlo
    have HH : Hid (∀ k x, j ≤ k → hs[k]? = some x → r ≤ x.rnd) := hhi
    clear hlo hhi
    by_cases hlt : i < j
    · have hlt' : (i : Int) < (j : Int) := by omega
      have hm : (i + j) / 2 < n := by omega
      obtain ⟨m, hm0⟩ : ∃ m, m = (i + j) / 2 := ⟨_, rfl⟩
      have hmm : ((i : Int) + (j : Int)) / 2 = (m : Int) := by omega
      have him : i ≤ m := by omega
      have hmj : m < j := by omega
      clear hm hm0
      obtain ⟨x, hx⟩ : ∃ x, hs[m]? = some x := ⟨_, List.getElem?_eq_getElem (by omega)⟩
      obtain ⟨g, cap', hv, _, _⟩ := HO.out.form (by omega)
      cases hv
      have hr' : wr.rangeAt g (m * 73) x.cells := rangeAt_below (owns_at HO.out hid hx) hb
      have hxi := HrD.cells_len (hid x (List.mem_of_getElem? hx))
      have hrd := rd_of_range hr' hxi
      have hcr := canRd_of_range hr' hxi
      have HX : Hid (hs[m]? = some x) := hx
      have hmn : (m : Int) < (n : Int) := by omega
      clear hr' hx hxi
      go_wp2_with fail
      refine (cmp75 x r wr).mono ?_
      rintro e w1 ⟨rfl, hb1⟩
      have hb2 : Below w.heap.size w w1 := below_then hb (Nat.le_refl _) hb1
      clear hb1
      by_cases hc : x.rnd < r
      · have hcc : cmpI x.rnd r = -1 := by simp [cmpI, hc]
        go_wp2_with fail
        refine ⟨⟨m + 1, j, by simp, rfl, by omega, hjn, fun k y hk hy => ?_, HH.out, hb2⟩, by simp [intOf]; omega⟩
        by_cases hkm : k = m
        · subst hkm
          have e := HX.out
          rw [hy] at e; cases e; exact hc
        · exact Int.lt_trans (HG.out.lt' (show k < m by omega) hy HX.out) hc
      · have hcc : 0 ≤ cmpI x.rnd r := by unfold cmpI; rw [if_neg hc]; split <;> omega
        go_wp2_with fail
        refine ⟨⟨i, m, rfl, rfl, him, by omega, HL.out, fun k y hk hy => ?_, hb2⟩, by simp [intOf]; omega⟩
        by_cases hkm : k = m
        · subst hkm
          have e := HX.out
          rw [hy] at e; cases e; exact hc
        · exact Int.le_of_lt (Int.lt_of_le_of_lt hc (HG.out.lt' (show m < k by omega) HX.out hy))
    · have hij' : i = j := by omega
      subst hij'
      cases hx : hs[i]? with
      | none =>
        have hin : i = n := by
          have := List.getElem?_eq_none_iff.1 hx
          omega
        go_wp2_with fail
        go_ret2
        exact ⟨i, by simp [foundAt, hx], ⟨by omega, HL.out, HH.out⟩, hb⟩
      | some x =>
        have hin : i < n := by have := (List.getElem?_eq_some_iff.1 hx).1; omega
        obtain ⟨g, cap', hv, _, _⟩ := HO.out.form (by omega)
        cases hv
        have hr' : wr.rangeAt g (i * 73) x.cells := rangeAt_below (owns_at HO.out hid hx) hb
        have hxi := HrD.cells_len (hid x (List.mem_of_getElem? hx))
        have hrd := rd_of_range hr' hxi
        have hcr := canRd_of_range hr' hxi
        have HX : Hid (hs[i]? = some x) := hx
        have hmn : (i : Int) < (n : Int) := by omega
        clear hr' hx hxi
        go_wp2_with fail
        refine (cmp75 x r wr).mono ?_
        rintro e w1 ⟨rfl, hb1⟩
        have hb2 : Below w.heap.size w w1 := below_then hb (Nat.le_refl _) hb1
        clear hb1
        have hfe : (cmpI x.rnd r == 0) = foundAt hs r i := by
          unfold foundAt
          rw [HX.out]
          show (cmpI x.rnd r == 0) = (x.rnd == r)
          unfold cmpI
          rcases Int.lt_trichotomy x.rnd r with h | h | h
          · rw [if_pos h]; symm; simp; omega
          · rw [h]; simp
          · rw [if_neg (by omega), if_pos h]; symm; simp; omega
        have HFE : Hid ((cmpI x.rnd r == 0) = foundAt hs r i) := hfe
        clear hfe
        go_wp2_with fail
        go_ret2
        exact ⟨i, by rw [← HFE.out]; rfl, ⟨by omega, HL.out, HH.out⟩, hb2⟩

theorem Cut.unique {hs : List HrD} {r : Int} {i j : Nat} (h : Cut hs r i) (k : Cut hs r j) : i = j := by
  rcases Nat.lt_trichotomy i j with hlt | he | hlt
  · exfalso
    have hl : i < hs.length := by have := k.1; omega
    have h1 := h.2.2 i _ (Nat.le_refl _) (List.getElem?_eq_getElem hl)
    have h2 := k.2.1 i _ hlt (List.getElem?_eq_getElem hl)
    omega
  · exact he
  · exfalso
    have hl : j < hs.length := by have := h.1; omega
    have h1 := k.2.2 j _ (Nat.le_refl _) (List.getElem?_eq_getElem hl)
    have h2 := h.2.1 j _ hlt (List.getElem?_eq_getElem hl)
    omega
end Go.Proofs.Qxb6604712a
