/-
  Seat b6002691a: how many entries the scan counts in a text that is made piece by piece. No Go here.
-/
import Derived.Test.Qxb6002691aCnt
import Derived.Test.Qxb6002691aPlain4
namespace Go.Proofs.Qxb6002691a
open Go.RowKit
set_option linter.unusedSimpArgs false
set_option linter.unusedVariables false

/-- The text r is counted as k, whatever the scan's room. -/
def Counts (r : List Int) (k : Nat) : Prop := ∀ f, r.length ≤ f → cnt f r = k
/-- Ahead of any text, t adds k. -/
def Adds (t : List Int) (k : Nat) : Prop := ∀ r j, Counts r j → Counts (t ++ r) (k + j)

theorem Counts.nil : Counts [] 0 := fun f _ => cnt_nil f
theorem Counts.plain {s r : List Int} {k : Nat} (hs : ∀ c ∈ s, c ≠ 34) (h : Counts r k) : Counts (s ++ r) k := by
  induction s with
  | nil => exact h
  | cons c s ih =>
    intro f hf
    obtain ⟨f, rfl⟩ : ∃ n, f = n + 1 := ⟨f - 1, by simp at hf; omega⟩
    rw [List.cons_append, cnt_plain _ _ _ (hs c (by simp))]
    exact ih (fun x hx => hs x (by simp [hx])) f (by simp at hf ⊢; omega)
theorem dropWhile_sp {s r : List Int} (hs : ∀ c ∈ s, isSp c = true) : (s ++ 58 :: r).dropWhile isSp = 58 :: r := by
  induction s with
  | nil => rw [List.nil_append, List.dropWhile_cons_of_neg (by decide)]
  | cons c s ih => rw [List.cons_append, List.dropWhile_cons_of_pos (hs c (by simp)), ih (fun x hx => hs x (by simp [hx]))]
theorem aft_entry {bs s r : List Int} (hb : ∀ c ∈ bs, 0 ≤ c ∧ c ≤ 255) (hs : ∀ c ∈ s, isSp c = true) : aft (bs.flatMap esc1 ++ 34 :: (s ++ 58 :: r)) = 58 :: r := by
  unfold aft
  rw [skp_esc _ bs false 0 hb]
  have e : List.drop (0 + (bs.flatMap esc1).length + 1) (bs.flatMap esc1 ++ 34 :: (s ++ 58 :: r)) = s ++ 58 :: r := by
    rw [Nat.zero_add, ← List.drop_drop, List.drop_left]; rfl
  rw [e]
  exact dropWhile_sp hs
theorem Counts.entry {bs s r : List Int} {k : Nat} (hb : ∀ c ∈ bs, 0 ≤ c ∧ c ≤ 255) (hs : ∀ c ∈ s, isSp c = true) (h : Counts r k) : Counts ([34] ++ bs.flatMap esc1 ++ [34] ++ s ++ [58] ++ r) (k + 1) := by
  intro f hf
  obtain ⟨f, rfl⟩ : ∃ n, f = n + 1 := ⟨f - 1, by simp at hf; omega⟩
  have e : [34] ++ bs.flatMap esc1 ++ [34] ++ s ++ [58] ++ r = 34 :: (bs.flatMap esc1 ++ 34 :: (s ++ 58 :: r)) := by simp
  rw [e] at hf ⊢
  rw [cnt_hit _ _ r (aft_entry hb hs), h f (by simp only [List.length_cons, List.length_append] at hf; omega)]

theorem Adds.nil : Adds [] 0 := fun r j h => by rw [List.nil_append, Nat.zero_add]; exact h
theorem Adds.plain {t s : List Int} {k : Nat} (h : Adds t k) (hs : ∀ c ∈ s, c ≠ 34) : Adds (t ++ s) k := fun r j hr => by
  rw [List.append_assoc]; exact h _ _ (hr.plain hs)
theorem Adds.entry {t bs s : List Int} {k : Nat} (h : Adds t k) (hb : ∀ c ∈ bs, 0 ≤ c ∧ c ≤ 255) (hs : ∀ c ∈ s, isSp c = true) : Adds (t ++ [34] ++ bs.flatMap esc1 ++ [34] ++ s ++ [58]) (k + 1) := fun r j hr => by
  have e : t ++ [34] ++ bs.flatMap esc1 ++ [34] ++ s ++ [58] ++ r = t ++ ([34] ++ bs.flatMap esc1 ++ [34] ++ s ++ [58] ++ r) := by simp
  rw [e, show k + 1 + j = k + (j + 1) by omega]
  exact h _ _ (hr.entry hb hs)
theorem Adds.all {t : List Int} {k : Nat} (h : Adds t k) (f : Nat) (hf : t.length ≤ f) : cnt f t = k := by
  have := h [] 0 Counts.nil f (by simpa using hf)
  simpa using this
theorem sp_plain {s : List Int} (hs : ∀ c ∈ s, isSp c = true) : ∀ c ∈ s, c ≠ 34 := fun c hc e => by
  have := hs c hc
  rw [e] at this
  exact absurd this (by decide)

end Go.Proofs.Qxb6002691a
