/-
  Seat b6002912a: how slices read in memory; (*Walk).Take; zzBytes of the script's law.
-/
import Derived.Test.Qxb6002912aRows
import Derived.WalkKit
import Derived.WalkSpells
import Derived.WalkLawsBesides
import Derived.Deep.MidRow
import Derived.Deep.QuietTactic
import Derived.BigQuiet
import Derived.Lib.SliceRun
import Derived.Laws.CopyOwn
namespace Go.Proofs.Qxb6002912a
open Go.RowKit
set_option linter.unusedSimpArgs false
set_option linter.unusedVariables false

/-- The slice value v of n elements, s cells each, reads in world w as the cells cs. -/
def sliceAt (w : World) (s : Nat) (v : Value) (n : Nat) (cs : List Value) : Prop :=
  ∃ a cap, v = .slice a n cap ∧ cs.length = n * s ∧ n ≤ 9223372036854775807 ∧ (n = 0 ∨ ∃ b o, a = some ⟨b, o, none⟩ ∧ w.rangeAt b o cs)

/-- The slice value v reads, in world w, as the bytes bs. -/
def bytesAt (w : World) (v : Value) (bs : List Int) : Prop := sliceAt w 1 v bs.length (bs.map (Value.int .u8))

/-- How long a slice value is. -/
def lenV : Value → Nat
  | .slice _ n _ => n
  | _ => 0

theorem sliceAt.len {w : World} {s : Nat} {v : Value} {n : Nat} {cs : List Value} (h : sliceAt w s v n cs) : lenV v = n := by
  obtain ⟨a, cap, rfl, _⟩ := h; rfl

/-- The slice's array lies in block n or behind it (or there is none). -/
def fromB (n : Nat) : Value → Prop
  | .slice (some a) _ _ => n ≤ a.block
  | _ => True
theorem fromB.mono {n m : Nat} {v : Value} (h : fromB n v) (hm : m ≤ n) : fromB m v := by
  match v, h with
  | .slice (some a) _ _, h => exact Nat.le_trans hm h
  | .slice none _ _, _ => trivial
  | .bool _, _ | .int _ _, _ | .float _ _, _ | .complex _ _ _, _ | .string _, _ | .pointer _, _ | .map _, _ | .chan _, _ | .func _ _ _, _ | .nilFunc, _ | .iface _ _, _ | .nilIface, _ | .agg _, _ | .tuple _, _ => trivial

theorem sliceAt.form {w : World} {s : Nat} {v : Value} {n : Nat} {cs : List Value} (h : sliceAt w s v n cs) : ∃ a m cap, v = .slice a m cap := by
  obtain ⟨a, cap, rfl, _⟩ := h; exact ⟨_, _, _, rfl⟩

theorem sliceAt.below {w w' : World} {s : Nat} {v : Value} {n : Nat} {cs : List Value} (h : sliceAt w s v n cs) (hb : Below w.heap.size w w') : sliceAt w' s v n cs := by
  obtain ⟨a, cap, rfl, h1, h2, h3⟩ := h
  refine ⟨a, cap, rfl, h1, h2, ?_⟩
  rcases h3 with h | ⟨b, o, rfl, h⟩
  · exact .inl h
  · refine .inr ⟨b, o, rfl, fun j v hv => ?_⟩
    have hc := h j v hv
    exact (hb.cell (World.block_lt_of_cell? _ _ hc)).trans hc

theorem sliceAt.drewN {w : World} {s : Nat} {v : Value} {n : Nat} {cs : List Value} (h : sliceAt w s v n cs) (k : Nat) : sliceAt (w.drewN k) s v n cs := h
theorem sliceAt.alloc {w : World} {s : Nat} {v : Value} {n : Nat} {cs : List Value} (h : sliceAt w s v n cs) (o : Obj) : sliceAt (w.alloc o) s v n cs := h.below ((Below.refl _ _).alloc (Nat.le_refl _) _)

/-- Out of a list of rows of one length the j-th cell of the i-th row. -/
theorem flat_get {α : Type} (f : α → List Value) (s : Nat) : ∀ (xs : List α) (_ : ∀ x ∈ xs, (f x).length = s) (i j : Nat) (hi : i < xs.length) (_ : j < s), (xs.flatMap f)[i * s + j]? = (f (xs[i]))[j]?
  | [], _, i, _, hi, _ => by simp at hi
  | x :: xs, hs, 0, j, _, hj => by
    have := hs x (by simp)
    simp [List.flatMap_cons, List.getElem?_append_left (show j < (f x).length by omega)]
  | x :: xs, hs, i + 1, j, hi, hj => by
    have hx := hs x (by simp)
    have e : (i + 1) * s + j = (f x).length + (i * s + j) := by rw [hx, Nat.succ_mul]; omega
    rw [List.flatMap_cons, e, List.getElem?_append_right (by omega)]
    simpa using flat_get f s xs (fun y hy => hs y (by simp [hy])) i j (by simpa using hi) hj

theorem flat_len {α : Type} (f : α → List Value) (s : Nat) : ∀ (xs : List α) (_ : ∀ x ∈ xs, (f x).length = s), (xs.flatMap f).length = xs.length * s
  | [], _ => by simp
  | x :: xs, hs => by
    rw [List.flatMap_cons, List.length_append, hs x (by simp), flat_len f s xs (fun y hy => hs y (by simp [hy]))]
    simp [Nat.succ_mul]; omega

theorem below_drewN (w : World) (B k : Nat) : Below B w (w.drewN k) := ⟨rfl, rfl, rfl, Nat.le_refl _, fun _ _ => rfl⟩

/-- What a copy of bs that has come as far as k holds. -/
def part (z : Value) (bs : List Value) (k : Nat) : List Value := bs.take k ++ List.replicate (bs.length - k) z
theorem part_zero (z : Value) (bs : List Value) : part z bs 0 = List.replicate bs.length z := by simp [part]
theorem part_all (z : Value) (bs : List Value) (k : Nat) (h : bs.length ≤ k) : part z bs k = bs := by simp [part, List.take_of_length_le h, show bs.length - k = 0 by omega]
theorem part_set (z : Value) (bs : List Value) (k : Nat) (h : k < bs.length) : (part z bs k).set k bs[k] = part z bs (k + 1) := by
  unfold part
  have e : bs.length - k = (bs.length - (k + 1)) + 1 := by omega
  rw [e, List.replicate_succ, List.set_append_right _ _ (by simp; omega)]
  have e2 : k - (List.take k bs).length = 0 := by simp; omega
  rw [e2, List.set_cons_zero, List.take_succ_eq_append_getElem h, List.append_assoc]
  rfl
theorem part_length (z : Value) (bs : List Value) (k : Nat) : (part z bs k).length = bs.length := by simp [part]; omega

theorem sliceAt_of_owns {w : World} {base e s g n cap : Nat} {xs : List Value} (h : w.ownsRow base e s (.slice (some ⟨g, 0, none⟩) n cap) n xs) (hn : n ≤ 9223372036854775807) :
    sliceAt w s (.slice (some ⟨g, 0, none⟩) n cap) n xs := by
  refine ⟨_, _, rfl, h.1, hn, .inr ⟨g, 0, rfl, fun j v hv => ?_⟩⟩
  have hj : j < n * s := by rw [← h.1]; exact (List.getElem?_eq_some_iff.1 hv).1
  rw [Nat.zero_add, h.cellAt j hj, hv]

/-- The call hands back a bool; where that is true, p holds. -/
def RetBool (p : Prop) (e : Ending) : Prop := ∃ b : Bool, e = .returned (.bool b) ∧ (b = true → p)
theorem RetBool.no {p : Prop} : RetBool p (.returned (.bool false)) := ⟨false, rfl, fun h => by cases h⟩
theorem RetBool.yes {p : Prop} (h : p) : RetBool p (.returned (.bool true)) := ⟨true, rfl, fun _ => h⟩
theorem RetBool.of {p : Prop} (b : Bool) (h : b = true → p) : RetBool p (.returned (.bool b)) := ⟨b, rfl, h⟩

theorem cell_alloc1 {w : World} {a : Addr} {v : Value} (h : w.cell? a = some v) (o : Obj) : (w.alloc o).cell? a = some v := (World.cell?_alloc_lt w o a (World.block_lt_of_cell? _ _ h)).trans h
theorem cell_alloc2 {w : World} {a : Addr} {v : Value} (h : w.cell? a = some v) (o o' : Obj) : ((w.alloc o).alloc o').cell? a = some v := cell_alloc1 (cell_alloc1 h o) o'


theorem Try.info9 : (Try.prog.info? 9).map (fun i => (i.zero, i.size, i.bytes)) = some (some (.string ByteArray.empty), 1, 16) := by kernel_rfl
def strsAt (w : World) (v : Value) (bs : List ByteArray) : Prop := sliceAt w 1 v bs.length (bs.map Value.string)
theorem strsAt.cellAt {w : World} {a : Option Addr} {n cap : Nat} {ss : List ByteArray} (h : strsAt w (.slice a n cap) ss) {k : Nat} (hk : k < ss.length) : ∃ b o, a = some ⟨b, o, none⟩ ∧ w.cell? ⟨b, o + k, none⟩ = some (.string ss[k]) := by
  obtain ⟨a', cap', hv, h1, h2, h3⟩ := h
  cases hv
  rcases h3 with h | ⟨b, o, rfl, h⟩
  · omega
  · exact ⟨b, o, rfl, h k _ (by simp [hk])⟩

/-- The walk's record in block g: events e, head h, seq s. -/
structure WK (w : World) (g : Nat) (e : Int) (h : ByteArray) (s : Int) : Prop where
  c1 : w.cell? ⟨g, 1, none⟩ = some (.int .i64 e)
  c2 : w.cell? ⟨g, 2, none⟩ = some (.string h)
  c4 : w.cell? ⟨g, 4, none⟩ = some (.int .i64 s)
  f1 : w.frozen? ⟨g, 1, none⟩ = false
  f2 : w.frozen? ⟨g, 2, none⟩ = false
  f4 : w.frozen? ⟨g, 4, none⟩ = false
theorem WK.set {w : World} {g : Nat} {e : Int} {h : ByteArray} {s : Int} (k : WK w g e h s) (e' : Int) (h' : ByteArray) (s' : Int) : WK (((w.setCell ⟨g, 4, none⟩ (.int .i64 s')).setCell ⟨g, 1, none⟩ (.int .i64 e')).setCell ⟨g, 2, none⟩ (.string h')) g e' h' s' := by
  have a1 : (w.setCell ⟨g, 4, none⟩ (.int .i64 s')).cell? ⟨g, 1, none⟩ = some (.int .i64 e) := by rw [World.cell?_setCell_other _ _ _ _ (by simp)]; exact k.c1
  have a2 : ((w.setCell ⟨g, 4, none⟩ (.int .i64 s')).setCell ⟨g, 1, none⟩ (.int .i64 e')).cell? ⟨g, 2, none⟩ = some (.string h) := by rw [World.cell?_setCell_other _ _ _ _ (by simp), World.cell?_setCell_other _ _ _ _ (by simp)]; exact k.c2
  refine ⟨?_, World.cell?_setCell_same _ _ _ a2, ?_, ?_, ?_, ?_⟩
  · rw [World.cell?_setCell_other _ _ _ _ (by simp)]; exact World.cell?_setCell_same _ _ _ a1
  · rw [World.cell?_setCell_other _ _ _ _ (by simp), World.cell?_setCell_other _ _ _ _ (by simp)]; exact World.cell?_setCell_same _ _ _ k.c4
  · simp only [World.frozen?_setCell]; exact k.f1
  · simp only [World.frozen?_setCell]; exact k.f2
  · simp only [World.frozen?_setCell]; exact k.f4
theorem WK.drewN {w : World} {g : Nat} {e : Int} {h : ByteArray} {s : Int} (k : WK w g e h s) (n : Nat) : WK (w.drewN n) g e h s := ⟨k.c1, k.c2, k.c4, k.f1, k.f2, k.f4⟩

theorem below3 (w : World) (g : Nat) (a b c : Value) : Below g w (((w.setCell ⟨g, 4, none⟩ a).setCell ⟨g, 1, none⟩ b).setCell ⟨g, 2, none⟩ c) := by
  have h1 : Below g w (w.setCell ⟨g, 4, none⟩ a) := (Below.refl g w).setCell (p := ⟨g, 4, none⟩) (Nat.le_refl g) a
  have h2 : Below g w ((w.setCell ⟨g, 4, none⟩ a).setCell ⟨g, 1, none⟩ b) := h1.setCell (p := ⟨g, 1, none⟩) (Nat.le_refl g) b
  exact h2.setCell (p := ⟨g, 2, none⟩) (Nat.le_refl g) c

set_option maxHeartbeats 1000000 in
theorem take_any (g : Nat) (e : Int) (h hash : ByteArray) (s : Int) (w : World) (k : WK w g e h s) :
    Calls Try.prog 15 #[.pointer (some ⟨g, 0, none⟩), .string hash] w fun r w' => r = .returned (.tuple #[]) ∧ WK w' g (IntKind.i64.wrap (e + 1)) hash (IntKind.i64.wrap (s + 1)) ∧ Below g w w' := by
  have K : Hid (WK w g e h s) := k
  obtain ⟨c1, c2, c4, f1, f2, f4⟩ := k
  obtain ⟨e', he⟩ : ∃ x, IntKind.i64.wrap (e + 1) = x := ⟨_, rfl⟩
  obtain ⟨s', hs⟩ : ∃ x, IntKind.i64.wrap (s + 1) = x := ⟨_, rfl⟩
  rw [he, hs]
  go_enter Try.func15, Try.ntmps15
  go_wp2
  go_end0
  exact ⟨rfl, K.out.set e' hash s', below3 w g _ _ _⟩

def ZbRel (ss : List ByteArray) (w : World) (n i : Value) (wr : World) : Prop := ∃ (k m : Nat), k ≤ ss.length ∧ i = .int .i64 k ∧ n = .int .i64 m ∧ m ≤ 1048576 ∧ (∀ j s, j < k → ss[j]? = some s → s.size ≤ 1048576) ∧ wr = w

set_option maxHeartbeats 1000000 in
theorem bytes14 (a : Option Addr) (cap : Nat) (sq ev : Int) (hd : ByteArray) (ss : List ByteArray) (w : World) (h : strsAt w (.slice a ss.length cap) ss) :
    Calls Try.prog 14 #[.int .i64 sq, .int .i64 ev, .string hd, .slice a ss.length cap] w fun e w' => RetBool (∀ s ∈ ss, s.size ≤ 1048576) e ∧ w' = w := by
  have hsl : ss.length ≤ 9223372036854775807 := by obtain ⟨_, _, _, _, h, _⟩ := h; exact h
  by_cases hh : hd.size ≤ 1048576
  · have hh1 : ¬ (1048576 : Int) < (hd.size : Int) := by omega
    have hh2 : (hd.size : Int) ≤ 1048576 := by omega
    by_cases hbig : ss.length ≤ 1048576
    · have hbig' : ¬ (1048576 : Int) < (ss.length : Int) := by omega
      have hbig2 : (ss.length : Int) ≤ 1048576 := by omega
      go_enter Try.func14, Try.ntmps14
      go_wp2
      · go_ret
        exact ⟨RetBool.no, rfl⟩
      go_loopw [9, 10] (fun n i wr => ZbRel ss w n i wr) (fun _ i _ => ss.length - (intOf i).toNat)
      case atStart => exact ⟨0, hd.size + ss.length, Nat.zero_le _, rfl, by go_num, by omega, by intro j s hj; omega, rfl⟩
      case round =>
        obtain ⟨k, m, hk, rfl, rfl, hn, hall, rfl⟩ := hrel
        have HALL : Hid (∀ j s, j < k → ss[j]? = some s → s.size ≤ 1048576) := hall
        clear hall
        by_cases hlt : k < ss.length
        · obtain ⟨b, o, rfl, hck⟩ := h.cellAt hlt
          obtain ⟨s, hs⟩ : ∃ s, ss[k] = s := ⟨_, rfl⟩
          rw [hs] at hck
          have HSS : Hid (ss[k]? = some s) := by show _ = _; rw [List.getElem?_eq_getElem hlt, hs]
          clear hs
          have hlt' : (k : Int) < (ss.length : Int) := by omega
          by_cases hz : s.size ≤ 1048576
          · have hz2 : ¬ (1048576 : Int) < (s.size : Int) := by omega
            have hz3 : (s.size : Int) ≤ 1048576 := by omega
            go_wp2
            · go_ret
              exact ⟨RetBool.no, rfl⟩
            · go_roundw
              case rel => exact ⟨k + 1, m + s.size, hlt, by go_num, by go_num, by omega, (by
                intro j x hj hx
                by_cases hjk : j = k
                · rw [hjk, HSS.out] at hx
                  injection hx with hx
                  rw [← hx]; exact hz
                · exact HALL.out j x (by omega) hx), rfl⟩
              case measure => simp [intOf]; omega
          · have hz2 : (1048576 : Int) < (s.size : Int) := by omega
            go_wp2
            go_ret
            exact ⟨RetBool.no, rfl⟩
        · have hlt' : ¬ (k : Int) < (ss.length : Int) := by omega
          go_wp2
          all_goals
            go_ret
            exact ⟨⟨_, rfl, fun _ s hs => by
              obtain ⟨j, hj⟩ := List.getElem?_of_mem hs
              have hjl := (List.getElem?_eq_some_iff.1 hj).1
              exact HALL.out j s (by omega) hj⟩, rfl⟩
    · have hbig' : (1048576 : Int) < (ss.length : Int) := by omega
      go_enter Try.func14, Try.ntmps14
      go_wp2
      all_goals
        go_ret
        exact ⟨RetBool.no, rfl⟩
  · have hh1 : (1048576 : Int) < (hd.size : Int) := by omega
    go_enter Try.func14, Try.ntmps14
    go_wp2
    go_ret
    exact ⟨RetBool.no, rfl⟩

end Go.Proofs.Qxb6002912a
