/-
  Seat b6604712a: cloneVotes, clonePowers.
-/
import Derived.Test.Qxb6604712aClone
namespace Go.Proofs.Qxb6604712a
open Go.RowKit
set_option linter.unusedSimpArgs false
set_option linter.unusedVariables false
attribute [local go_sem ↓] exec_load43 exec_store43
attribute [local go_sem] ptrB ptrO isPtr

theorem Try.info43 : (Try.prog.info? 43).map (fun i => (i.size, i.bytes)) = some (35, 88) := by kernel_rfl

theorem q23 (w : World) (a : Option Addr) (n c n' c' : Nat) : (binOp .eql 23 (.slice a n c) (.slice none n' c')).run Try.prog w = .ok (.bool a.isNone) w := Lib.run_eql_slice_nil w _ _ a n c n' c' Try.underlying23

theorem oneAll_vote (x : VoteD) (h1 : x.ext.oneCell' = true) (h2 : x.sig.oneCell' = true) : oneAll (.agg x.cells.toArray) = true := by
  have e : ∀ n : Int, (Value.int .i64 n).oneCell' = true := fun _ => rfl
  simp only [oneAll, Value.cells, VoteD.cells, List.all_toArray, List.all_cons, List.all_append, oneAll_bytes, h1, h2, e, List.all_nil, Bool.and_self]
/-- The row of a copy, as the store asks for it. -/
theorem owns_there {w : World} {base e s g n cap : Nat} {xs : List Value} (h : w.ownsRow base e s (.slice (some ⟨g, 0, none⟩) n cap) n xs) (o m : Nat) (hm : o + m ≤ n * s) : w.there g o m := fun j hj => by
  refine ⟨?_, h.frozenAt _⟩
  rw [h.cellAt (o + j) (by omega), List.getElem?_eq_getElem (by rw [h.1]; omega)]
  rfl
/-- What a row owns behind a store of many cells. -/
theorem owns_setCells {base e s g n cap : Nat} : ∀ (vs : List Value) (o : Nat) {w : World} {xs : List Value}, w.ownsRow base e s (.slice (some ⟨g, 0, none⟩) n cap) n xs → o + vs.length ≤ n * s →
    (w.setCells g o vs).ownsRow base e s (.slice (some ⟨g, 0, none⟩) n cap) n (overlay xs vs o)
  | [], o, w, xs, h, _ => by simpa [overlay, World.setCells] using h
  | v :: r, o, w, xs, h, hl => by
    rw [World.setCells]
    have h1 := (h.stored o v).1
    have := owns_setCells r (o + 1) h1 (by simp at hl; omega)
    have hx : xs.length = n * s := h.1
    have e : overlay (xs.set o v) r (o + 1) = overlay xs (v :: r) o := by
      unfold overlay
      simp only [List.length_cons] at hl ⊢
      rw [List.drop_set_of_lt (by omega), List.take_set, List.take_succ_eq_append_getElem (show o < xs.length by omega)]
      rw [List.set_append_right _ _ (by simp; omega), show o - (List.take o xs).length = 0 by simp; omega]
      simp only [List.set_cons_zero, List.append_assoc, List.cons_append, List.nil_append]
      rw [show o + 1 + r.length = o + (r.length + 1) by omega]
    rwa [e] at this
theorem owns_below {w w' : World} {base e s g n cap : Nat} {xs : List Value} (h : w.ownsRow base e s (.slice (some ⟨g, 0, none⟩) n cap) n xs) (hb : Below w.heap.size w w') : w'.ownsRow base e s (.slice (some ⟨g, 0, none⟩) n cap) n xs := by
  refine ⟨h.1, ?_⟩
  rcases h.2 with ⟨h', _⟩ | ⟨g', cap', cur, h', h1, hg, r⟩
  · cases h'
  · refine .inr ⟨g', cap', cur, h', h1, ?_, r⟩
    rw [hb.block g' (Array.getElem?_eq_some_iff.1 hg).1]; exact hg

theorem oneCell_of_slice {w : World} {s : Nat} {v : Value} {n : Nat} {cs : List Value} (h : sliceAt w s v n cs) : v.oneCell' = true := by
  obtain ⟨a, cap, rfl, _⟩ := h; rfl

/-- Make a row of n elements, whatever its element type's zero. -/
theorem make_any {P : Program} (w : World) {ops : Array Oper} {rest : List Oper} {o : Oper} {a : Act} {Q : Exit → Act → World → Prop}
    (hg : o.guard = none) (l c : Operand) (t : TypeId) (hop : o.op = Op.makeSlice t l c)
    (base : Nat) (e : TypeId) (size bytes : Nat) (h1 : P.underlying t = some (.slice e)) (h2 : (P.info? e).map (fun i => (i.zero.isSome, i.size, i.bytes)) = some (true, size, bytes))
    (n : Nat) (hl : a.eval l = .int .i64 n) (hc : a.eval c = .int .i64 n) (b2 : bytes * n ≤ 281474976710656) (b3 : n ≤ maxLen) (b4 : base ≤ w.heap.size)
    (hK : ∀ w' xs, w'.ownsRow base e size (.slice (some ⟨w.heap.size, 0, none⟩) n n) n xs → w.grownBy w' none → wpList P ops Q rest (a.put o.dst (.slice (some ⟨w.heap.size, 0, none⟩) n n)) w') :
    wpList P ops Q (o :: rest) a w := by
  obtain ⟨i, hi, hzz⟩ := Option.map_eq_some_iff.1 h2
  simp only [Prod.mk.injEq] at hzz
  obtain ⟨hz0, hz1, hz2⟩ := hzz
  obtain ⟨z, hz⟩ := Option.isSome_iff_exists.1 hz0
  exact wpList_make_full w hg l c t hop base e i z size h1 hi hz hz1 _ _ _ _ n hl hc rfl rfl (by rw [hz2]; exact b2) b3 b4 (fun w' r1 r2 => hK w' _ r1 r2)
theorem Try.inf43 : (Try.prog.info? 43).map (fun i => (i.zero.isSome, i.size, i.bytes)) = some (true, 35, 88) := by kernel_rfl

set_option maxHeartbeats 400000 in
theorem cloneVotes_nil (w : World) (n c : Nat) : Calls Try.prog 12 #[.slice none n c] w fun e w' => e = .returned (.slice none 0 0) ∧ w' = w := by
  have q := q23
  go_enter Try.func12, Try.ntmps12
  go_wp2
  go_ret
  exact ⟨rfl, rfl⟩

/-- How far a copy of votes has come: us are copied, the rest is whatever it is. -/
def CV (w : World) (len : Nat) (vs : List VoteD) (k : Nat) (wr : World) : Prop :=
  ∃ (us : List VoteD) (zs : List Value), us.length = k ∧ zs.length = (len - k) * 35 ∧ wr.ownsRow w.heap.size 43 35 (.slice (some ⟨w.heap.size, 0, none⟩) len len) len (us.flatMap VoteD.cells ++ zs) ∧
    (∀ x ∈ us, x.ok wr ∧ fromB (w.heap.size + 1) x.ext ∧ fromB (w.heap.size + 1) x.sig) ∧ us.map VoteD.frm = (vs.take k).map VoteD.frm ∧ us.map VoteD.id = (vs.take k).map VoteD.id ∧ Below w.heap.size w wr

theorem CV.there' {w : World} {len : Nat} {vs : List VoteD} {k : Nat} {wr w' : World} (h : CV w len vs k wr) (hb : Below wr.heap.size wr w') (hk : k < len) : w'.there w.heap.size (k * 35) 35 := by
  obtain ⟨us, zs, hu, hz, hown, _⟩ := h
  exact owns_there (owns_below hown hb) (k * 35) 35 (by omega)

theorem CV.step {w : World} {len : Nat} {vs : List VoteD} {k : Nat} {wr w' : World} (h : CV w len vs k wr) (hk : k < len) {x : VoteD} (hx : vs[k]? = some x) (hid : x.id.length = 32) {e' s' : Value} {bs1 bs2 : List Int}
    (he : bytesAt w' e' bs1) (hs : bytesAt w' s' bs2) (hfe : fromB wr.heap.size e') (hfs : fromB wr.heap.size s') (hb : Below wr.heap.size wr w') :
    CV w len vs (k + 1) (w'.setCells w.heap.size (k * 35) (VoteD.mk x.frm x.id e' s').cells) := by
  obtain ⟨us, zs, hu, hz, hown, hok, hf, hi, hbw⟩ := h
  have hsz : w.heap.size + 1 ≤ wr.heap.size := by
    rcases hown.2 with ⟨h', _⟩ | ⟨g', cap', cur, h', h1, hg, r⟩
    · cases h'
    · simp only [Value.slice.injEq, Option.some.injEq, Addr.mk.injEq, and_true, true_and] at h'
      obtain ⟨rfl, _⟩ := h'
      exact (Array.getElem?_eq_some_iff.1 hg).1
  have hlu : (us.flatMap VoteD.cells).length = k * 35 := by rw [flat_len VoteD.cells 35 us (fun x hx => VoteD.cells_len (hok x hx).1.1), hu]
  have hc35 : (VoteD.mk x.frm x.id e' s').cells.length = 35 := VoteD.cells_len (x := ⟨x.frm, x.id, e', s'⟩) hid
  refine ⟨us ++ [⟨x.frm, x.id, e', s'⟩], zs.drop 35, by simp [hu], by rw [List.length_drop, hz]; omega, ?_, ?_, ?_, ?_, below_setCells' (below_then hbw (Nat.le_refl _) hb) (Nat.le_refl _) _ _⟩
  · have := owns_setCells (VoteD.mk x.frm x.id e' s').cells (k * 35) (owns_below hown hb) (by omega)
    have e : overlay (us.flatMap VoteD.cells ++ zs) (VoteD.mk x.frm x.id e' s').cells (k * 35) = (us ++ [VoteD.mk x.frm x.id e' s']).flatMap VoteD.cells ++ zs.drop 35 := by
      unfold overlay
      rw [List.take_append_of_le_length (by omega), List.take_of_length_le (by omega), hc35, List.drop_append, List.drop_eq_nil_of_le (by omega), hlu, show k * 35 + 35 - k * 35 = 35 by omega]
      simp [List.flatMap_append]
    rwa [e] at this
  · intro y hy
    rcases List.mem_append.1 hy with hy | hy
    · obtain ⟨⟨q1, ⟨b1, q2⟩, ⟨b2, q3⟩⟩, q4, q5⟩ := hok y hy
      exact ⟨⟨q1, ⟨b1, (q2.below hb).setCells q4 (by omega) _ _⟩, ⟨b2, (q3.below hb).setCells q5 (by omega) _ _⟩⟩, q4, q5⟩
    · simp at hy; subst hy
      exact ⟨⟨hid, ⟨bs1, he.setCells hfe (by omega) _ _⟩, ⟨bs2, hs.setCells hfs (by omega) _ _⟩⟩, hfe.mono hsz, hfs.mono hsz⟩
  · have hk' : k < vs.length := (List.getElem?_eq_some_iff.1 hx).1
    have hx' : vs[k] = x := by rw [List.getElem?_eq_getElem hk'] at hx; exact Option.some.inj hx
    simp [List.take_succ_eq_append_getElem hk', hf, hx']
  · have hk' : k < vs.length := (List.getElem?_eq_some_iff.1 hx).1
    have hx' : vs[k] = x := by rw [List.getElem?_eq_getElem hk'] at hx; exact Option.some.inj hx
    simp [List.take_succ_eq_append_getElem hk', hi, hx']

set_option maxHeartbeats 800000 in
theorem cloneVotes_some (a : Addr) (len cap : Nat) (vs : List VoteD) (w : World) (h : votesAt w (.slice (some a) len cap) vs) (hl : vs.length = len) (hm : len ≤ 65536) (hsm : ∀ x ∈ vs, lenV x.ext ≤ 1048576 ∧ lenV x.sig ≤ 1048576) :
    Calls Try.prog 12 #[.slice (some a) len cap] w fun e w' => e = .returned (.slice (some ⟨w.heap.size, 0, none⟩) len len) ∧ CV w len vs len w' := by
  have q := q23
  go_enter Try.func12, Try.ntmps12
  go_wp2_with (first | (at_make; refine make_any _ rfl _ _ 23 rfl w.heap.size 43 35 88 Try.underlying23 Try.inf43 len rfl rfl ?b2 ?b3 (Nat.le_refl _) ?_) | go_in)
  case b2 => omega
  case b3 => unfold maxLen; omega
  intro w1 xs hown hgrow
  have hb1 : Below w.heap.size w w1 := (Below.refl _ _).grown hgrow (Nat.le_refl _) (by simp)
  have hcv : CV w len vs 0 w1 := ⟨[], xs, rfl, by simpa using hown.1, by simpa using hown, by simp, by simp, by simp, hb1⟩
  clear hown hgrow q hb1
  go_wp2
  go_loopw [4] (fun i wr => ∃ k : Nat, k ≤ len ∧ i = .int .i64 k ∧ CV w len vs k wr) (fun i _ => len - (intOf i).toNat)
  case atStart => exact ⟨0, Nat.zero_le _, rfl, hcv⟩
  case round =>
    obtain ⟨k, hk, rfl, hcv⟩ := hrel
    by_cases hlt : k < len
    · obtain ⟨b, o, x, hab, hx, hok, hr⟩ := h.cellsAt k hlt
      cases hab
      have hxm : x ∈ vs := List.mem_of_getElem? hx
      obtain ⟨bs1, hb1⟩ := hok.2.1
      obtain ⟨bs2, hb2⟩ := hok.2.2
      have hl1 : bs1.length ≤ 1048576 := by rw [← hb1.len]; exact (hsm x hxm).1
      have hl2 : bs2.length ≤ 1048576 := by rw [← hb2.len]; exact (hsm x hxm).2
      have hbw : Below w.heap.size w wr := by obtain ⟨_, _, _, _, _, _, _, _, h⟩ := hcv; exact h
      have hr' : wr.rangeAt b (o + k * 35) x.cells := rangeAt_below hr hbw
      have hrd := rd_of_range hr' (VoteD.cells_len hok.1)
      have hcr := canRd_of_range hr' (VoteD.cells_len hok.1)
      have hlt' : (k : Int) < (len : Int) := by omega
      have HX : Hid (vs[k]? = some x) := hx
      have HC : Hid (CV w len vs k wr) := hcv
      clear hx hcv h hsm hr' hr
      go_wp2_with (go_at_call 37; refine (cloneVote_any x bs1 bs2 _ hok.1 (hb1.below hbw) (hb2.below hbw) hl1 hl2).mono ?_; rintro e w' ⟨e', s', rfl, he', hs', hfe, hfs, hbel⟩; have hcs : (VoteD.mk x.frm x.id e' s').cells.length = 35 := VoteD.cells_len (x := ⟨x.frm, x.id, e', s'⟩) hok.1; have hone := oneAll_vote ⟨x.frm, x.id, e', s'⟩ (oneCell_of_slice he') (oneCell_of_slice hs'); have hth := CV.there' HC.out hbel hlt)
      go_roundw
      case rel => exact ⟨k + 1, by omega, by go_num, CV.step HC.out hlt HX.out hok.1 he' hs' hfe hfs hbel⟩
      case measure => simp [intOf]; omega
    · have hke : k = len := by omega
      subst hke
      go_wp2
      go_ret
      exact ⟨rfl, hcv⟩

end Go.Proofs.Qxb6604712a
