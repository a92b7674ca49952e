/-
  Seat b6604712a: two senders' records side by side.
-/
import Derived.Test.Qxb6604712aVinc
import Derived.Test.Qxb6604712aShp
namespace Go.Proofs.Qxb6604712a
open Go.RowKit
set_option linter.unusedSimpArgs false
set_option linter.unusedVariables false

/-- A record that another's step leaves alone. -/
theorem AH.moved {w w' : World} {B2 g1 g2 : Nat} {v1 v1' v2 : Value} {hs : List HrD} (h : AH w B2 g2 v2 hs) (m : Moved w w' g1 v1 v1') (hg : g2 ≠ g1) (hv1 : v1.ownBlock ≠ some g2) (hv2 : ∀ k, v2.ownBlock = some k → k ≠ g1 ∧ v1.ownBlock ≠ some k) : AH w' B2 g2 v2 hs := by
  refine ⟨by rw [m.keep g2 h.lt hg hv1]; exact h.blk, h.base, ⟨h.own.1, ?_⟩, h.fit⟩
  rcases h.own.2 with ⟨h0, h1⟩ | ⟨k, cap, cur, hv, hb, hk, r⟩
  · exact .inl ⟨h0, h1⟩
  · refine .inr ⟨k, cap, cur, hv, hb, ?_, r⟩
    have hlt := (Array.getElem?_eq_some_iff.1 hk).1
    obtain ⟨q1, q2⟩ := hv2 k (by rw [hv]; rfl)
    rw [m.keep k hlt q1 q2]; exact hk
theorem AH.own_lt {w : World} {B g : Nat} {v : Value} {hs : List HrD} (h : AH w B g v hs) : ∀ k, v.ownBlock = some k → B ≤ k ∧ k < w.heap.size := owns_block h.own

/-- Two records, the second made behind the first: what stands between their steps. -/
structure Both (w : World) (B1 B2 g1 g2 : Nat) (v1 v2 : Value) (hs1 hs2 : List HrD) : Prop where
  a1 : AH w B1 g1 v1 hs1
  a2 : AH w B2 g2 v2 hs2
  g : g1 ≠ g2
  s : sep v1 v2

theorem sep_ne {u v : Value} (h : sep u v) : ∀ k, v.ownBlock = some k → u.ownBlock ≠ some k := fun k hk e => by
  rcases h with h | h
  · rw [h] at e; cases e
  · exact h (e.trans hk.symm)

theorem Both.ne1 {w : World} {B1 B2 g1 g2 : Nat} {v1 v2 : Value} {hs1 hs2 : List HrD} (h : Both w B1 B2 g1 g2 v1 v2 hs1 hs2) : v1.ownBlock ≠ some g2 := owns_ne h.a1.own h.a2.blk (by decide)
theorem Both.ne2 {w : World} {B1 B2 g1 g2 : Nat} {v1 v2 : Value} {hs1 hs2 : List HrD} (h : Both w B1 B2 g1 g2 v1 v2 hs1 hs2) : v2.ownBlock ≠ some g1 := owns_ne h.a2.own h.a1.blk (by decide)
theorem sep_turn {u v v' : Value} {n : Nat} (h : sep u v) (hu : ∀ k, u.ownBlock = some k → k < n) (hl : v'.ownBlock = v.ownBlock ∨ ∃ k, v'.ownBlock = some k ∧ n ≤ k) : sep u v' := by
  rcases hl with e | ⟨k, e, hk⟩
  · unfold sep at *; rw [e]; exact h
  · cases hq : u.ownBlock with
    | none => exact .inl hq
    | some m =>
      right
      rw [e, hq]
      have := hu m hq
      intro hh; cases hh; omega
/-- The first has moved. -/
theorem Both.step1 {w w' : World} {B1 B2 g1 g2 : Nat} {v1 v1' v2 : Value} {hs1 hs1' hs2 : List HrD} (h : Both w B1 B2 g1 g2 v1 v2 hs1 hs2) (a : AH w' B1 g1 v1' hs1') (m : Moved w w' g1 v1 v1') : Both w' B1 B2 g1 g2 v1' v2 hs1' hs2 :=
  ⟨a, h.a2.moved m (Ne.symm h.g) h.ne1 (fun k hk => ⟨fun e => h.ne2 (by rw [hk, e]), sep_ne h.s k hk⟩), h.g, (sep_turn h.s.symm (fun k hk => (h.a2.own_lt k hk).2) m.lies).symm⟩
/-- The second has moved. -/
theorem Both.step2 {w w' : World} {B1 B2 g1 g2 : Nat} {v1 v2 v2' : Value} {hs1 hs2 hs2' : List HrD} (h : Both w B1 B2 g1 g2 v1 v2 hs1 hs2) (a : AH w' B2 g2 v2' hs2') (m : Moved w w' g2 v2 v2') : Both w' B1 B2 g1 g2 v1 v2' hs1 hs2' :=
  ⟨h.a1.moved m h.g h.ne2 (fun k hk => ⟨fun e => h.ne1 (by rw [hk, e]), sep_ne h.s.symm k hk⟩), a, h.g, sep_turn h.s (fun k hk => (h.a1.own_lt k hk).2) m.lies⟩
theorem Both.below {w w' : World} {B1 B2 g1 g2 : Nat} {v1 v2 : Value} {hs1 hs2 : List HrD} (h : Both w B1 B2 g1 g2 v1 v2 hs1 hs2) (hb : Below w.heap.size w w') : Both w' B1 B2 g1 g2 v1 v2 hs1 hs2 := ⟨h.a1.below hb, h.a2.below hb, h.g, h.s⟩
/-- The second has just been made, all of it from block B2 on, where the first lay below B2. -/
theorem Both.made {w1 w : World} {B1 B2 g1 g2 : Nat} {v1 v2 : Value} {hs1 hs2 : List HrD} (h1 : AH w1 B1 g1 v1 hs1) (hs : w1.heap.size = B2) (hb : Below w1.heap.size w1 w) (h2 : AH w B2 g2 v2 hs2) : Both w B1 B2 g1 g2 v1 v2 hs1 hs2 := by
  refine ⟨h1.below hb, h2, ?_, ?_⟩
  · have := h1.lt; have := h2.base; omega
  · cases hq : v1.ownBlock with
    | none => exact .inl hq
    | some k =>
      right
      intro e
      have q1 := (h1.own_lt k hq).2
      have q2 := (h2.own_lt k (e ▸ hq)).1
      omega

/-- The held rounds' list as the twice-held one. -/
theorem stage_twice (us : List HrD) (a : StD) (f : Int) (hn : us.length ≤ 3) (hg : Grows us) : stage (stage us a f 2) a f 2 = stage us a f 2 := twice_law us a.round (findV a.vs1 f) (findV a.vs2 f) hn hg
theorem stage_shape (us : List HrD) (a : StD) (f : Int) (hn : us.length ≤ 3) (hg : Grows us) : (stage us a f 2).length ≤ 3 ∧ Grows (stage us a f 2) := by
  obtain ⟨h1, h2⟩ := hold_shape' us a.round 1 (findV a.vs1 f) hn hg
  exact hold_shape' _ _ _ _ h1 h2
end Go.Proofs.Qxb6604712a
