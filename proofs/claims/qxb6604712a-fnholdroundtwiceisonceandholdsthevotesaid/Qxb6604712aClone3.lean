/-
  Seat b6604712a: cloneVotes at every slice, clonePowers.
-/
import Derived.Test.Qxb6604712aClone2
namespace Go.Proofs.Qxb6604712a
open Go.RowKit
set_option linter.unusedSimpArgs false
set_option linter.unusedVariables false
attribute [local go_sem ↓] exec_load110 exec_store110
attribute [local go_sem] ptrB ptrO isPtr

theorem cloneVotes_any (v : Value) (vs : List VoteD) (w : World) (h : votesAt w v vs) (hm : vs.length ≤ 65536) (hsm : ∀ x ∈ vs, lenV x.ext ≤ 1048576 ∧ lenV x.sig ≤ 1048576) :
    Calls Try.prog 12 #[v] w fun e w' => ∃ v' us, e = .returned v' ∧ votesAt w' v' us ∧ us.map VoteD.frm = vs.map VoteD.frm ∧ us.map VoteD.id = vs.map VoteD.id ∧ (fromB w.heap.size v' ∧ ∀ x ∈ us, fromB w.heap.size x.ext ∧ fromB w.heap.size x.sig) ∧ Below w.heap.size w w' := by
  obtain ⟨a, cap, rfl, hl, hm', hc⟩ := h.1
  cases a with
  | none =>
    have h0 : vs = [] := by
      rcases hc with h | ⟨b, o, h, _⟩
      · exact List.eq_nil_of_length_eq_zero h
      · cases h
    subst h0
    refine (cloneVotes_nil w _ cap).mono ?_
    rintro e w' ⟨rfl, rfl⟩
    exact ⟨_, [], rfl, ⟨⟨none, 0, rfl, rfl, by simp, .inl rfl⟩, by simp⟩, rfl, rfl, ⟨trivial, by simp⟩, Below.refl _ _⟩
  | some a =>
    refine (cloneVotes_some a vs.length cap vs w h rfl hm hsm).mono ?_
    rintro e w' ⟨rfl, us, zs, hu, hz, hown, hok, hf, hi, hb⟩
    have hz0 : zs = [] := List.eq_nil_of_length_eq_zero (by simpa using hz)
    subst hz0
    rw [List.append_nil] at hown
    have hs := sliceAt_of_owns hown (by omega)
    refine ⟨_, us, rfl, ⟨by rw [hu]; exact hs, fun x hx => (hok x hx).1⟩, by simpa using hf, by simpa using hi, ⟨Nat.le_refl _, fun x hx => ⟨(hok x hx).2.1.mono (by omega), (hok x hx).2.2.mono (by omega)⟩⟩, hb⟩

/-- A power as its cells hold it. -/
structure PowD where
  id : List Int
  pw : Int
def PowD.cells (x : PowD) : List Value := x.id.map (Value.int .u8) ++ [.int .i64 x.pw]
theorem PowD.cells_len {x : PowD} (h : x.id.length = 32) : x.cells.length = 33 := by simp [PowD.cells, h]
theorem PowD.oneAll (x : PowD) : oneAll (.agg x.cells.toArray) = true := by
  have e : ∀ n : Int, (Value.int .i64 n).oneCell' = true := fun _ => rfl
  simp only [Qxb6604712a.oneAll, Value.cells, PowD.cells, List.all_toArray, List.all_cons, List.all_append, oneAll_bytes, e, List.all_nil, Bool.and_self]

def powersAt (w : World) (v : Value) (ps : List PowD) : Prop := sliceAt w 33 v ps.length (ps.flatMap PowD.cells) ∧ ∀ x ∈ ps, x.id.length = 32
theorem powersAt.below {w w' : World} {v : Value} {vs : List PowD} (h : powersAt w v vs) (hb : Below w.heap.size w w') : powersAt w' v vs := ⟨h.1.below hb, h.2⟩

theorem powersAt.cellsAt {w : World} {a : Option Addr} {n cap : Nat} {vs : List PowD} (h : powersAt w (.slice a n cap) vs) (k : Nat) (hk : k < n) :
    ∃ b o x, a = some ⟨b, o, none⟩ ∧ vs[k]? = some x ∧ x.id.length = 32 ∧ w.rangeAt b (o + k * 33) x.cells := by
  obtain ⟨⟨a', cap', hv, hl, hm, hc⟩, hok⟩ := h
  cases hv
  rcases hc with h | ⟨b, o, rfl, hr⟩
  · omega
  · have hx : vs[k]? = some (vs[k]) := by simp
    refine ⟨b, o, vs[k], rfl, hx, hok _ (by simp), fun j v hv => ?_⟩
    have h33 : (vs[k]).cells.length = 33 := PowD.cells_len (hok _ (by simp))
    have hj : j < 33 := by rw [← h33]; exact (List.getElem?_eq_some_iff.1 hv).1
    rw [Nat.add_assoc]
    refine hr (k * 33 + j) v ?_
    rw [flat_get PowD.cells 33 vs (fun x hx => PowD.cells_len (hok x hx)) k j hk hj]
    exact hv

theorem q57 (w : World) (a : Option Addr) (n c n' c' : Nat) : (binOp .eql 57 (.slice a n c) (.slice none n' c')).run Try.prog w = .ok (.bool a.isNone) w := Lib.run_eql_slice_nil w _ _ a n c n' c' Try.underlying57
theorem Try.inf110 : (Try.prog.info? 110).map (fun i => (i.zero.isSome, i.size, i.bytes)) = some (true, 33, 40) := by kernel_rfl

set_option maxHeartbeats 400000 in
theorem clonePowers_nil (w : World) (n c : Nat) : Calls Try.prog 46 #[.slice none n c] w fun e w' => e = .returned (.slice none 0 0) ∧ w' = w := by
  have q := q57
  go_enter Try.func46, Try.ntmps46
  go_wp2
  go_ret
  exact ⟨rfl, rfl⟩

def CP (w : World) (len : Nat) (vs : List PowD) (k : Nat) (wr : World) : Prop :=
  ∃ (zs : List Value), zs.length = (len - k) * 33 ∧ wr.ownsRow w.heap.size 110 33 (.slice (some ⟨w.heap.size, 0, none⟩) len len) len ((vs.take k).flatMap PowD.cells ++ zs) ∧ Below w.heap.size w wr

theorem CP.there' {w : World} {len : Nat} {vs : List PowD} {k : Nat} {wr : World} (h : CP w len vs k wr) (hk : k < len) : wr.there w.heap.size (k * 33) 33 := by
  obtain ⟨zs, hz, hown, _⟩ := h
  exact owns_there hown (k * 33) 33 (by omega)
theorem CP.step {w : World} {len : Nat} {vs : List PowD} {k : Nat} {wr : World} (h : CP w len vs k wr) (hk : k < len) {x : PowD} (hx : vs[k]? = some x) (hok : ∀ x ∈ vs, x.id.length = 32) :
    CP w len vs (k + 1) (wr.setCells w.heap.size (k * 33) x.cells) := by
  obtain ⟨zs, hz, hown, hbw⟩ := h
  have hk' : k < vs.length := (List.getElem?_eq_some_iff.1 hx).1
  have hx' : vs[k] = x := by rw [List.getElem?_eq_getElem hk'] at hx; exact Option.some.inj hx
  have hlu : ((vs.take k).flatMap PowD.cells).length = k * 33 := by
    rw [flat_len PowD.cells 33 _ (fun x hx => PowD.cells_len (hok x (List.mem_of_mem_take hx)))]
    simp; omega
  have hc : x.cells.length = 33 := PowD.cells_len (hok x (List.mem_of_getElem? hx))
  refine ⟨zs.drop 33, by rw [List.length_drop, hz]; omega, ?_, below_setCells' hbw (Nat.le_refl _) _ _⟩
  have := owns_setCells x.cells (k * 33) hown (by omega)
  have e : overlay ((vs.take k).flatMap PowD.cells ++ zs) x.cells (k * 33) = (vs.take (k + 1)).flatMap PowD.cells ++ zs.drop 33 := by
    unfold overlay
    rw [List.take_append_of_le_length (by omega), List.take_of_length_le (by omega), hc, List.drop_append, List.drop_eq_nil_of_le (by omega), hlu, show k * 33 + 33 - k * 33 = 33 by omega]
    simp [List.take_succ_eq_append_getElem hk', hx', List.flatMap_append]
  rwa [e] at this

set_option maxHeartbeats 800000 in
theorem clonePowers_some (a : Addr) (len cap : Nat) (vs : List PowD) (w : World) (h : powersAt w (.slice (some a) len cap) vs) (hl : vs.length = len) (hm : len ≤ 65536) :
    Calls Try.prog 46 #[.slice (some a) len cap] w fun e w' => e = .returned (.slice (some ⟨w.heap.size, 0, none⟩) len len) ∧ CP w len vs len w' := by
  have q := q57
  go_enter Try.func46, Try.ntmps46
  go_wp2_with (first | (at_make; refine make_any _ rfl _ _ 57 rfl w.heap.size 110 33 40 Try.underlying57 Try.inf110 len rfl rfl ?b2 ?b3 (Nat.le_refl _) ?_) | go_in)
  case b2 => omega
  case b3 => unfold maxLen; omega
  intro w1 xs hown hgrow
  have hb1 : Below w.heap.size w w1 := (Below.refl _ _).grown hgrow (Nat.le_refl _) (by simp)
  have hcv : CP w len vs 0 w1 := ⟨xs, by simpa using hown.1, by simpa using hown, hb1⟩
  clear hown hgrow q hb1
  go_wp2
  go_loopw [4] (fun i wr => ∃ k : Nat, k ≤ len ∧ i = .int .i64 k ∧ CP w len vs k wr) (fun i _ => len - (intOf i).toNat)
  case atStart => exact ⟨0, Nat.zero_le _, rfl, hcv⟩
  case round =>
    obtain ⟨k, hk, rfl, hcv⟩ := hrel
    by_cases hlt : k < len
    · obtain ⟨b, o, x, hab, hx, hid, hr⟩ := h.cellsAt k hlt
      cases hab
      have hbw : Below w.heap.size w wr := by obtain ⟨_, _, _, h⟩ := hcv; exact h
      have hr' : wr.rangeAt b (o + k * 33) x.cells := rangeAt_below hr hbw
      have hrd := rd_of_range hr' (PowD.cells_len hid)
      have hcr := canRd_of_range hr' (PowD.cells_len hid)
      have hone := x.oneAll
      have hcs := PowD.cells_len hid
      have hth := hcv.there' hlt
      have hlt' : (k : Int) < (len : Int) := by omega
      have HS : Hid (CP w len vs (k + 1) (wr.setCells w.heap.size (k * 33) x.cells)) := hcv.step hlt hx h.2
      clear hx hcv h hr' hr
      go_wp2
      go_roundw
      case rel => exact ⟨k + 1, by omega, by go_num, HS.out⟩
      case measure => simp [intOf]; omega
    · have hke : k = len := by omega
      subst hke
      go_wp2
      go_ret
      exact ⟨rfl, hcv⟩

theorem clonePowers_any (v : Value) (vs : List PowD) (w : World) (h : powersAt w v vs) (hm : vs.length ≤ 65536) :
    Calls Try.prog 46 #[v] w fun e w' => ∃ v', e = .returned v' ∧ powersAt w' v' vs ∧ fromB w.heap.size v' ∧ Below w.heap.size w w' := by
  obtain ⟨a, cap, rfl, hl, hm', hc⟩ := h.1
  cases a with
  | none =>
    have h0 : vs = [] := by
      rcases hc with h | ⟨b, o, h, _⟩
      · exact List.eq_nil_of_length_eq_zero h
      · cases h
    subst h0
    refine (clonePowers_nil w _ cap).mono ?_
    rintro e w' ⟨rfl, rfl⟩
    exact ⟨_, rfl, ⟨⟨none, 0, rfl, rfl, by simp, .inl rfl⟩, by simp⟩, trivial, Below.refl _ _⟩
  | some a =>
    refine (clonePowers_some a vs.length cap vs w h rfl hm).mono ?_
    rintro e w' ⟨rfl, zs, hz, hown, hb⟩
    have hz0 : zs = [] := List.eq_nil_of_length_eq_zero (by simpa using hz)
    subst hz0
    rw [List.append_nil, List.take_of_length_le (Nat.le_refl _)] at hown
    exact ⟨_, rfl, ⟨sliceAt_of_owns hown (by omega), h.2⟩, Nat.le_refl _, hb⟩

end Go.Proofs.Qxb6604712a
