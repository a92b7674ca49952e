/-
  Seat b6604712a: held rounds that came in as a slice; heldIncreasing, heldBytes.
-/
import Derived.Test.Qxb6604712aMake
namespace Go.Proofs.Qxb6604712a
open Go.RowKit
set_option linter.unusedSimpArgs false
set_option linter.unusedVariables false

/-- The slice value v reads, in world w, as the held rounds hs. -/
def heldAt (w : World) (v : Value) (hs : List HrD) : Prop := sliceAt w 73 v hs.length (hs.flatMap HrD.cells) ∧ ∀ x ∈ hs, x.ok w
theorem heldAt.below {w w' : World} {v : Value} {hs : List HrD} (h : heldAt w v hs) (hb : Below w.heap.size w w') : heldAt w' v hs := ⟨h.1.below hb, fun x hx => (h.2 x hx).below hb⟩

theorem heldAt.cellsAt {w : World} {a : Option Addr} {n cap : Nat} {hs : List HrD} (h : heldAt w (.slice a n cap) hs) (k : Nat) (hk : k < n) :
    ∃ b o x, a = some ⟨b, o, none⟩ ∧ hs[k]? = some x ∧ x.ok w ∧ w.rangeAt b (o + k * 73) x.cells := by
  obtain ⟨⟨a', cap', hv, hl, hm, hc⟩, hok⟩ := h
  cases hv
  have hkl : k < hs.length := hk
  have hids : ∀ x ∈ hs, x.cells.length = 73 := fun x hx => HrD.cells_len (hok x hx).fit.1
  rcases hc with h0 | ⟨b, o, rfl, hr⟩
  · omega
  · refine ⟨b, o, hs[k], rfl, List.getElem?_eq_getElem hkl, hok _ (List.getElem_mem hkl), fun j v hv => ?_⟩
    have hj : j < 73 := by
      have := (List.getElem?_eq_some_iff.1 hv).1
      rw [hids _ (List.getElem_mem hkl)] at this; exact this
    have := flat_get HrD.cells 73 hs hids k j hkl hj
    have := hr (k * 73 + j) v (by rw [this]; exact hv)
    rw [← Nat.add_assoc] at this; exact this

set_option maxHeartbeats 1000000 in
theorem heldIncreasing_any (v : Value) (hs : List HrD) (w : World) (h : heldAt w v hs) (hn : hs.length ≤ 1000000) :
    Calls Try.prog 9 #[v] w fun e w' => RetBool (Grows hs) e ∧ Below w.heap.size w w' := by
  have h0 := h
  obtain ⟨a, cap, rfl, _, _, _⟩ := h.1
  have HH : Hid (heldAt w (.slice a hs.length cap) hs) := h0
  clear h h0
  generalize hlen : hs.length = n at *
  go_enter Try.func9, Try.ntmps9
  go_wp2_with fail
  go_loopw [3] (fun iv wr => ∃ i : Nat, 1 ≤ i ∧ i ≤ n + 1 ∧ iv = .int .i64 i ∧ (∀ k x y, k + 1 < i → hs[k]? = some x → hs[k + 1]? = some y → x.rnd < y.rnd) ∧ Below w.heap.size w wr) (fun iv _ => n + 1 - (intOf iv).toNat)
  case atStart => exact ⟨1, Nat.le_refl _, by omega, rfl, fun k x y hk => by omega, Below.refl _ _⟩
  case round =>
    obtain ⟨i, hi1, hi2, rfl, hlo, hb⟩ := hrel
    have HL : Hid (∀ k x y, k + 1 < i → hs[k]? = some x → hs[k + 1]? = some y → x.rnd < y.rnd) := hlo
    clear hlo
    by_cases hlt : i < n
    · obtain ⟨b, o, x, hab, hx, _, hr⟩ := HH.out.cellsAt (i - 1) (by omega)
      cases hab
      obtain ⟨b', o', y, hab, hy, _, hr'⟩ := HH.out.cellsAt i hlt
      cases hab
      obtain ⟨m, hm⟩ : ∃ m, m = i - 1 := ⟨_, rfl⟩
      rw [← hm] at hx hr
      have hmi : ((i : Int) - 1) = (m : Int) := by omega
      have HI : Hid (i = m + 1) := by show _ = _; omega
      have hmn : (m : Int) < (n : Int) := by omega
      have c0 : wr.cell? ⟨b, o + m * 73, none⟩ = some (.int .i64 x.rnd) := by have := rangeAt_below hr hb 0 _ (HrD.cells_0 x); simpa using this
      have c1 : wr.cell? ⟨b, o + i * 73, none⟩ = some (.int .i64 y.rnd) := by have := rangeAt_below hr' hb 0 _ (HrD.cells_0 y); simpa using this
      have hlt' : (i : Int) < (n : Int) := by omega
      have HX : Hid (hs[m]? = some x) := hx
      have HY : Hid (hs[i]? = some y) := hy
      clear hx hy hr hr' hm hlen
      by_cases hc : y.rnd ≤ x.rnd
      · go_wp2_with fail
        go_quiet (fail)
        go_wp2_with fail
        go_ret
        exact ⟨RetBool.no, hb.trans (below_drewN _ _ _)⟩
      · go_wp2_with fail
        go_quiet (fail)
        go_wp2_with fail
        go_roundw
        case rel =>
          refine ⟨i + 1, by omega, by omega, by go_num, fun k x' y' hk hx' hy' => ?_, hb.trans (below_drewN _ _ _)⟩
          by_cases hke : k = m
          · subst hke
            rw [HX.out] at hx'; cases hx'
            rw [← HI.out, HY.out] at hy'; cases hy'
            omega
          · exact HL.out k x' y' (by have := HI.out; omega) hx' hy'
        case measure => simp [intOf]; omega
    · have hin : (n : Int) ≤ (i : Int) := by omega
      go_wp2_with fail
      go_ret
      exact ⟨RetBool.yes (fun k x y hx hy => HL.out k x y (by have := (List.getElem?_eq_some_iff.1 hy).1; omega) hx hy), hb⟩

end Go.Proofs.Qxb6604712a
