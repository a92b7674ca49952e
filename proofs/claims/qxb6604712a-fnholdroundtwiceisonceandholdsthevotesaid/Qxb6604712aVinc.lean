/-
  Seat b6604712a: votesIncreasing, with what it says; what the model's rounds read as.
-/
import Derived.Test.Qxb6604712aTal
import Derived.Test.Qxb6604712aAis
namespace Go.Proofs.Qxb6604712a
open Go.RowKit
set_option linter.unusedSimpArgs false
set_option linter.unusedVariables false

set_option maxHeartbeats 1000000 in
theorem vInc_any (v : Value) (hs : List VoteD) (w : World) (h : votesAt w v hs) (hn : hs.length ≤ 1000000) :
    Calls Try.prog 10 #[v] w fun e w' => RetBool (VGrows hs) e ∧ Below w.heap.size w w' := by
  have h0 := h
  obtain ⟨a, cap, rfl, _, _, _⟩ := h.1
  have HH : Hid (votesAt w (.slice a hs.length cap) hs) := h0
  clear h h0
  generalize hlen : hs.length = n at *
  go_enter Try.func10, Try.ntmps10
  go_wp2_with fail
  go_loopw [3] (fun iv wr => ∃ i : Nat, 1 ≤ i ∧ i ≤ n + 1 ∧ iv = .int .i64 i ∧ (∀ k x y, k + 1 < i → hs[k]? = some x → hs[k + 1]? = some y → x.frm < y.frm) ∧ Below w.heap.size w wr) (fun iv _ => n + 1 - (intOf iv).toNat)
  case atStart => exact ⟨1, Nat.le_refl _, by omega, rfl, fun k x y hk => by omega, Below.refl _ _⟩
  case round =>
    obtain ⟨i, hi1, hi2, rfl, hlo, hb⟩ := hrel
    have HL : Hid (∀ k x y, k + 1 < i → hs[k]? = some x → hs[k + 1]? = some y → x.frm < y.frm) := hlo
    clear hlo
    by_cases hlt : i < n
    · obtain ⟨b, o, x, hab, hx, _, hr⟩ := HH.out.cellsAt (i - 1) (by omega)
      cases hab
      obtain ⟨b', o', y, hab, hy, _, hr'⟩ := HH.out.cellsAt i hlt
      cases hab
      obtain ⟨m, hm⟩ : ∃ m, m = i - 1 := ⟨_, rfl⟩
      rw [← hm] at hx hr
      have hmi : ((i : Int) - 1) = (m : Int) := by omega
      have HI : Hid (i = m + 1) := by show _ = _; omega
      have hmn : (m : Int) < (n : Int) := by omega
      have c0 : wr.cell? ⟨b, o + m * 35, none⟩ = some (.int .i64 x.frm) := by have := rangeAt_below hr hb 0 _ (VoteD.cells_0 x); simpa using this
      have c1 : wr.cell? ⟨b, o + i * 35, none⟩ = some (.int .i64 y.frm) := by have := rangeAt_below hr' hb 0 _ (VoteD.cells_0 y); simpa using this
      have hlt' : (i : Int) < (n : Int) := by omega
      have HX : Hid (hs[m]? = some x) := hx
      have HY : Hid (hs[i]? = some y) := hy
      clear hx hy hr hr' hm hlen
      by_cases hc : y.frm ≤ x.frm
      · go_wp2_with fail
        go_quiet (fail)
        go_wp2_with fail
        go_ret
        exact ⟨RetBool.no, hb.trans (below_drewN _ _ _)⟩
      · go_wp2_with fail
        go_quiet (fail)
        go_wp2_with fail
        go_roundw
        case rel =>
          refine ⟨i + 1, by omega, by omega, by go_num, fun k x' y' hk hx' hy' => ?_, hb.trans (below_drewN _ _ _)⟩
          by_cases hke : k = m
          · subst hke
            rw [HX.out] at hx'; cases hx'
            rw [← HI.out, HY.out] at hy'; cases hy'
            omega
          · exact HL.out k x' y' (by have := HI.out; omega) hx' hy'
        case measure => simp [intOf]; omega
    · have hin : (n : Int) ≤ (i : Int) := by omega
      go_wp2_with fail
      go_ret
      exact ⟨RetBool.yes (fun k x y hx hy => HL.out k x y (by have := (List.getElem?_eq_some_iff.1 hy).1; omega) hx hy), hb⟩

theorem grows_of_map {hs us : List HrD} (h : us.map HrD.rnd = hs.map HrD.rnd) (hg : Grows hs) : Grows us := fun k x y hx hy => by
  have e1 : (us.map HrD.rnd)[k]? = some x.rnd := by simp [hx]
  have e2 : (us.map HrD.rnd)[k + 1]? = some y.rnd := by simp [hy]
  rw [h] at e1 e2
  simp only [List.getElem?_map, Option.map_eq_some_iff] at e1 e2
  obtain ⟨x', hx', ex⟩ := e1
  obtain ⟨y', hy', ey⟩ := e2
  have := hg k x' y' hx' hy'
  omega
theorem vgrows_of_map {hs us : List VoteD} (h : us.map VoteD.frm = hs.map VoteD.frm) (hg : VGrows hs) : VGrows us := fun k x y hx hy => by
  have e1 : (us.map VoteD.frm)[k]? = some x.frm := by simp [hx]
  have e2 : (us.map VoteD.frm)[k + 1]? = some y.frm := by simp [hy]
  rw [h] at e1 e2
  simp only [List.getElem?_map, Option.map_eq_some_iff] at e1 e2
  obtain ⟨x', hx', ex⟩ := e1
  obtain ⟨y', hy', ey⟩ := e2
  have := hg k x' y' hx' hy'
  omega

theorem upd_ok {w : World} {y : HrD} {x : VoteD} (st : Int) (hy : y.ok w) (hx : x.ok w) : (y.upd st x).ok w := by
  unfold HrD.upd
  split
  · exact ⟨hy.1, hx⟩
  · exact ⟨hx, hy.2⟩
theorem fold_mem (r : Int) : ∀ (hs : List HrD) (s : List HrD × Bool) (x : HrD), x ∈ (hs.foldl (stepI r) s).1 → x ∈ s.1 ∨ x ∈ hs ∨ x = fresh r
  | [], s, x, h => .inl h
  | y :: t, s, x, h => by
    rcases fold_mem r t (stepI r s y) x h with h | h | h
    · unfold stepI at h
      rcases List.mem_append.1 h with h | h
      · split at h
        · rcases List.mem_append.1 h with h | h
          · exact .inl h
          · simp at h; exact .inr (.inr h)
        · exact .inl h
      · simp at h; subst h; exact .inr (.inl (by simp))
    · exact .inr (.inl (by simp [h]))
    · exact .inr (.inr h)
theorem modelL_ok {w : World} (hs : List HrD) (r : Int) (o1 o2 : Option VoteD) (h : ∀ x ∈ hs, x.ok w) (h1 : ∀ x, o1 = some x → x.ok w) (h2 : ∀ x, o2 = some x → x.ok w) : ∀ x ∈ modelL hs r o1 o2, x.ok w := by
  intro x hx
  unfold modelL at hx
  obtain ⟨y, hy, rfl⟩ := List.mem_map.1 hx
  have hy' : y ∈ insM hs r (o1.isNone && o2.isNone) := by
    unfold keep3 at hy
    split at hy
    · exact List.mem_of_mem_drop hy
    · exact hy
  have hyo : y.ok w := by
    unfold insM at hy'
    have hm : ∀ z, z ∈ (hs.foldl (stepI r) ([], (o1.isNone && o2.isNone))).1 → z.ok w := fun z hz => by
      rcases fold_mem r hs _ z hz with h' | h' | h'
      · simp at h'
      · exact h z h'
      · rw [h']; exact fresh_ok w r
    simp only at hy'
    split at hy'
    · exact hm y hy'
    · rcases List.mem_append.1 hy' with h' | h'
      · exact hm y h'
      · simp at h'; rw [h']; exact fresh_ok w r
  unfold finM
  split
  · cases o1 with
    | none =>
      cases o2 with
      | none => exact hyo
      | some b => exact upd_ok _ hyo (h2 b rfl)
    | some a =>
      cases o2 with
      | none => exact upd_ok _ hyo (h1 a rfl)
      | some b => exact upd_ok _ (upd_ok _ hyo (h1 a rfl)) (h2 b rfl)
  · exact hyo
theorem findV_mem {vs : List VoteD} {f : Int} {x : VoteD} (h : findV vs f = some x) : x ∈ vs := List.mem_of_find?_eq_some h

end Go.Proofs.Qxb6604712a
