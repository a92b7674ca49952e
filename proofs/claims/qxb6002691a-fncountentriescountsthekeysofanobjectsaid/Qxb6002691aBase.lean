/-
  Seat b6002691a: how byte slices read in memory; zzCloneBytes.
-/
import Derived.Test.Qxb6002691aRows
import Derived.WalkKit
import Derived.WalkSpells
import Derived.WalkLawsBesides
import Derived.Deep.MidRow
import Derived.Deep.QuietTactic
import Derived.BigQuiet
import Derived.Lib.SliceRun
namespace Go.Proofs.Qxb6002691a
open Go.RowKit
set_option linter.unusedSimpArgs false
set_option linter.unusedVariables false

theorem Try.info5 : (Try.prog.info? 5).map (fun i => (i.zero, i.size, i.bytes)) = some (some (.int .u8 0), 1, 1) := by kernel_rfl

/-- The slice value v of n elements, s cells each, reads in world w as the cells cs. -/
def sliceAt (w : World) (s : Nat) (v : Value) (n : Nat) (cs : List Value) : Prop :=
  ∃ a cap, v = .slice a n cap ∧ cs.length = n * s ∧ n ≤ 9223372036854775807 ∧ (n = 0 ∨ ∃ b o, a = some ⟨b, o, none⟩ ∧ w.rangeAt b o cs)

/-- The slice value v reads, in world w, as the bytes bs. -/
def bytesAt (w : World) (v : Value) (bs : List Int) : Prop := sliceAt w 1 v bs.length (bs.map (Value.int .u8))

/-- How long a slice value is. -/
def lenV : Value → Nat
  | .slice _ n _ => n
  | _ => 0

theorem sliceAt.len {w : World} {s : Nat} {v : Value} {n : Nat} {cs : List Value} (h : sliceAt w s v n cs) : lenV v = n := by
  obtain ⟨a, cap, rfl, _⟩ := h; rfl

/-- The slice's array lies in block n or behind it (or there is none). -/
def fromB (n : Nat) : Value → Prop
  | .slice (some a) _ _ => n ≤ a.block
  | _ => True
theorem fromB.mono {n m : Nat} {v : Value} (h : fromB n v) (hm : m ≤ n) : fromB m v := by
  match v, h with
  | .slice (some a) _ _, h => exact Nat.le_trans hm h
  | .slice none _ _, _ => trivial
  | .bool _, _ | .int _ _, _ | .float _ _, _ | .complex _ _ _, _ | .string _, _ | .pointer _, _ | .map _, _ | .chan _, _ | .func _ _ _, _ | .nilFunc, _ | .iface _ _, _ | .nilIface, _ | .agg _, _ | .tuple _, _ => trivial

theorem sliceAt.form {w : World} {s : Nat} {v : Value} {n : Nat} {cs : List Value} (h : sliceAt w s v n cs) : ∃ a m cap, v = .slice a m cap := by
  obtain ⟨a, cap, rfl, _⟩ := h; exact ⟨_, _, _, rfl⟩

theorem sliceAt.below {w w' : World} {s : Nat} {v : Value} {n : Nat} {cs : List Value} (h : sliceAt w s v n cs) (hb : Below w.heap.size w w') : sliceAt w' s v n cs := by
  obtain ⟨a, cap, rfl, h1, h2, h3⟩ := h
  refine ⟨a, cap, rfl, h1, h2, ?_⟩
  rcases h3 with h | ⟨b, o, rfl, h⟩
  · exact .inl h
  · refine .inr ⟨b, o, rfl, fun j v hv => ?_⟩
    have hc := h j v hv
    exact (hb.cell (World.block_lt_of_cell? _ _ hc)).trans hc

theorem sliceAt.drewN {w : World} {s : Nat} {v : Value} {n : Nat} {cs : List Value} (h : sliceAt w s v n cs) (k : Nat) : sliceAt (w.drewN k) s v n cs := h
theorem sliceAt.alloc {w : World} {s : Nat} {v : Value} {n : Nat} {cs : List Value} (h : sliceAt w s v n cs) (o : Obj) : sliceAt (w.alloc o) s v n cs := h.below ((Below.refl _ _).alloc (Nat.le_refl _) _)

/-- Out of a list of rows of one length the j-th cell of the i-th row. -/
theorem flat_get {α : Type} (f : α → List Value) (s : Nat) : ∀ (xs : List α) (_ : ∀ x ∈ xs, (f x).length = s) (i j : Nat) (hi : i < xs.length) (_ : j < s), (xs.flatMap f)[i * s + j]? = (f (xs[i]))[j]?
  | [], _, i, _, hi, _ => by simp at hi
  | x :: xs, hs, 0, j, _, hj => by
    have := hs x (by simp)
    simp [List.flatMap_cons, List.getElem?_append_left (show j < (f x).length by omega)]
  | x :: xs, hs, i + 1, j, hi, hj => by
    have hx := hs x (by simp)
    have e : (i + 1) * s + j = (f x).length + (i * s + j) := by rw [hx, Nat.succ_mul]; omega
    rw [List.flatMap_cons, e, List.getElem?_append_right (by omega)]
    simpa using flat_get f s xs (fun y hy => hs y (by simp [hy])) i j (by simpa using hi) hj

theorem flat_len {α : Type} (f : α → List Value) (s : Nat) : ∀ (xs : List α) (_ : ∀ x ∈ xs, (f x).length = s), (xs.flatMap f).length = xs.length * s
  | [], _ => by simp
  | x :: xs, hs => by
    rw [List.flatMap_cons, List.length_append, hs x (by simp), flat_len f s xs (fun y hy => hs y (by simp [hy]))]
    simp [Nat.succ_mul]; omega

theorem below_drewN (w : World) (B k : Nat) : Below B w (w.drewN k) := ⟨rfl, rfl, rfl, Nat.le_refl _, fun _ _ => rfl⟩

/-- What a copy of bs that has come as far as k holds. -/
def part (z : Value) (bs : List Value) (k : Nat) : List Value := bs.take k ++ List.replicate (bs.length - k) z
theorem part_zero (z : Value) (bs : List Value) : part z bs 0 = List.replicate bs.length z := by simp [part]
theorem part_all (z : Value) (bs : List Value) (k : Nat) (h : bs.length ≤ k) : part z bs k = bs := by simp [part, List.take_of_length_le h, show bs.length - k = 0 by omega]
theorem part_set (z : Value) (bs : List Value) (k : Nat) (h : k < bs.length) : (part z bs k).set k bs[k] = part z bs (k + 1) := by
  unfold part
  have e : bs.length - k = (bs.length - (k + 1)) + 1 := by omega
  rw [e, List.replicate_succ, List.set_append_right _ _ (by simp; omega)]
  have e2 : k - (List.take k bs).length = 0 := by simp; omega
  rw [e2, List.set_cons_zero, List.take_succ_eq_append_getElem h, List.append_assoc]
  rfl
theorem part_length (z : Value) (bs : List Value) (k : Nat) : (part z bs k).length = bs.length := by simp [part]; omega

theorem sliceAt_of_owns {w : World} {base e s g n cap : Nat} {xs : List Value} (h : w.ownsRow base e s (.slice (some ⟨g, 0, none⟩) n cap) n xs) (hn : n ≤ 9223372036854775807) :
    sliceAt w s (.slice (some ⟨g, 0, none⟩) n cap) n xs := by
  refine ⟨_, _, rfl, h.1, hn, .inr ⟨g, 0, rfl, fun j v hv => ?_⟩⟩
  have hj : j < n * s := by rw [← h.1]; exact (List.getElem?_eq_some_iff.1 hv).1
  rw [Nat.zero_add, h.cellAt j hj, hv]

/-- The call hands back a bool; where that is true, p holds. -/
def RetBool (p : Prop) (e : Ending) : Prop := ∃ b : Bool, e = .returned (.bool b) ∧ (b = true → p)
theorem RetBool.no {p : Prop} : RetBool p (.returned (.bool false)) := ⟨false, rfl, fun h => by cases h⟩
theorem RetBool.yes {p : Prop} (h : p) : RetBool p (.returned (.bool true)) := ⟨true, rfl, fun _ => h⟩
theorem RetBool.of {p : Prop} (b : Bool) (h : b = true → p) : RetBool p (.returned (.bool b)) := ⟨b, rfl, h⟩

theorem cell_alloc1 {w : World} {a : Addr} {v : Value} (h : w.cell? a = some v) (o : Obj) : (w.alloc o).cell? a = some v := (World.cell?_alloc_lt w o a (World.block_lt_of_cell? _ _ h)).trans h
theorem cell_alloc2 {w : World} {a : Addr} {v : Value} (h : w.cell? a = some v) (o o' : Obj) : ((w.alloc o).alloc o').cell? a = some v := cell_alloc1 (cell_alloc1 h o) o'

theorem q36 (w : World) (a : Option Addr) (n c n' c' : Nat) : (binOp .eql 36 (.slice a n c) (.slice none n' c')).run Try.prog w = .ok (.bool a.isNone) w := Lib.run_eql_slice_nil w _ _ a n c n' c' Try.underlying36

set_option maxHeartbeats 400000 in
theorem cloneBytes_nil (w : World) (n c : Nat) : Calls Try.prog 23 #[.slice none n c] w fun e w' => e = .returned (.slice none 0 0) ∧ w' = w := by
  have q := q36
  go_enter Try.func23, Try.ntmps23
  go_wp2
  go_ret
  exact ⟨rfl, rfl⟩

set_option maxHeartbeats 400000 in
theorem cloneBytes_some (a : Addr) (len cap : Nat) (bs : List Int) (w : World) (hl : bs.length = len) (hm : len ≤ 1048576)
    (hc : len = 0 ∨ ∃ b o, a = ⟨b, o, none⟩ ∧ w.rangeAt b o (bs.map (Value.int .u8))) :
    Calls Try.prog 23 #[.slice (some a) len cap] w fun e w' => e = .returned (.slice (some ⟨w.heap.size, 0, none⟩) len len) ∧ w'.ownsRow w.heap.size 5 1 (.slice (some ⟨w.heap.size, 0, none⟩) len len) len (bs.map (Value.int .u8)) ∧ Below w.heap.size w w' := by
  obtain ⟨i5, hi, hz0, hz1, hz2⟩ := info_parts Try.info5
  have q := q36
  go_enter Try.func23, Try.ntmps23
  go_wp2_with (first | (at_make; refine wpList_make_full _ rfl _ _ 36 rfl w.heap.size 5 i5 (.int .u8 0) 1 Try.underlying36 hi hz0 hz1 _ _ _ _ len rfl rfl rfl rfl ?b2 ?b3 (Nat.le_refl _) ?_) | go_in)
  case b2 => rw [hz2]; omega
  case b3 => unfold maxLen; omega
  intro w1 hown hgrow
  have hb1 : Below w.heap.size w w1 := (Below.refl _ _).grown hgrow (Nat.le_refl _) (by simp)
  have hown1 : w1.ownsRow w.heap.size 5 1 (.slice (some ⟨w.heap.size, 0, none⟩) len len) len (part (.int .u8 0) (bs.map (Value.int .u8)) 0) := by
    rw [part_zero]; simpa [toList_madeCells_one, Value.cells, hl] using hown
  clear hown hgrow q hi hz0 hz1 hz2
  go_wp2
  go_loopw [4] (fun i wr => ∃ k : Nat, k ≤ len ∧ i = .int .i64 k ∧ wr.ownsRow w.heap.size 5 1 (.slice (some ⟨w.heap.size, 0, none⟩) len len) len (part (.int .u8 0) (bs.map (Value.int .u8)) k) ∧ Below w.heap.size w wr) (fun i _ => len - (intOf i).toNat)
  case atStart => exact ⟨0, Nat.zero_le _, rfl, hown1, hb1⟩
  case round =>
    obtain ⟨k, hk, rfl, hown, hb⟩ := hrel
    by_cases hlt : k < len
    · obtain ⟨b, o, rfl, hcell⟩ : ∃ b o, a = ⟨b, o, none⟩ ∧ w.rangeAt b o (bs.map (Value.int .u8)) := by
        rcases hc with h | h
        · omega
        · exact h
      have hck0 : w.cell? ⟨b, o + k, none⟩ = some (.int .u8 (bs[k]'(by omega))) := hcell k _ (by simp [hl, hlt])
      have hck : wr.cell? ⟨b, o + k, none⟩ = some (.int .u8 (bs[k]'(by omega))) := (hb.cell (World.block_lt_of_cell? _ _ hck0)).trans hck0
      have hdst : ∃ u, wr.cell? ⟨w.heap.size, k, none⟩ = some u := by
        rw [hown.cellAt k (by omega)]
        exact ⟨_, List.getElem?_eq_getElem (by rw [part_length]; simp; omega)⟩
      obtain ⟨u, hdst⟩ := hdst
      have hfr := hown.frozenAt k
      have hst := hown.stored k (.int .u8 (bs[k]'(by omega)))
      have HS : Hid ((wr.setCell ⟨w.heap.size, k, none⟩ (.int .u8 (bs[k]'(by omega)))).ownsRow w.heap.size 5 1 (.slice (some ⟨w.heap.size, 0, none⟩) len len) len (part (.int .u8 0) (bs.map (Value.int .u8)) (k + 1))) := by
        have e := part_set (.int .u8 0) (bs.map (Value.int .u8)) k (by simp; omega)
        rw [← e]
        show World.ownsRow _ _ _ _ _ _ _
        simpa using hst.1
      clear hst hcell hc hown hown1 hb1 hck0
      go_wp2
      go_roundw
      case rel => exact ⟨k + 1, by omega, by go_num, by simpa using HS.out, hb.setCell (Nat.le_refl _) _⟩
      case measure => simp [intOf]; omega
    · have hke : k = len := by omega
      subst hke
      rw [part_all _ _ _ (by simp; omega)] at hown
      go_wp2
      go_ret
      exact ⟨rfl, hown, hb⟩

theorem cloneBytes_any (v : Value) (bs : List Int) (w : World) (h : bytesAt w v bs) (hm : bs.length ≤ 1048576) :
    Calls Try.prog 23 #[v] w fun e w' => ∃ v', e = .returned v' ∧ bytesAt w' v' bs ∧ fromB w.heap.size v' ∧ Below w.heap.size w w' := by
  obtain ⟨a, cap, rfl, hl, hm', hc⟩ := h
  cases a with
  | none =>
    have h0 : bs = [] := by
      rcases hc with h | ⟨b, o, h, _⟩
      · exact List.eq_nil_of_length_eq_zero h
      · cases h
    subst h0
    refine (cloneBytes_nil w _ cap).mono ?_
    rintro e w' ⟨rfl, rfl⟩
    exact ⟨_, rfl, ⟨none, 0, rfl, rfl, by simp, .inl rfl⟩, trivial, Below.refl _ _⟩
  | some a =>
    refine (cloneBytes_some a bs.length cap bs w rfl hm ?_).mono ?_
    · rcases hc with h | ⟨b, o, h, h'⟩
      · exact .inl h
      · exact .inr ⟨b, o, by simpa using h, h'⟩
    · rintro e w' ⟨rfl, hown, hb⟩
      exact ⟨_, rfl, sliceAt_of_owns hown (by omega), Nat.le_refl _, hb⟩

end Go.Proofs.Qxb6002691a
