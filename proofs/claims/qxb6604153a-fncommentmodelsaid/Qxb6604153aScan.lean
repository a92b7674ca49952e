/-
  Seat b6604153a: the plain law: a comment's end, by depth and by descent.
-/
import Derived.Test.Qxb6604153aRows
import Derived.WalkKit
namespace Go.Proofs.Qxb6604153a
set_option linter.unusedSimpArgs false
set_option linter.unusedVariables false

/-- A fact that the walk's simp does not see. -/
structure Hid (p : Prop) : Prop where
  out : p
theorem hid {p : Prop} (h : p) : Hid p := ⟨h⟩

/-- Where the comment that stands open d deep at place p, with the bytes l to come, is closed. -/
def scn : List UInt8 → Nat → Nat → Option Nat
  | [], _, _ => none
  | c :: r, d, p => if c.toNat = 92 then (match r with | [] => none | _ :: r2 => scn r2 d (p + 2)) else if c.toNat = 40 then scn r (d + 1) (p + 1) else if c.toNat = 41 then (if d = 1 then some (p + 1) else scn r (d - 1) (p + 1)) else scn r d (p + 1)

/-- The same from place p of s. -/
def sc (s : ByteArray) (p d : Nat) : Option Nat := scn (s.data.toList.drop p) d p

theorem drop_at (s : ByteArray) (p : Nat) (h : p < s.size) : s.data.toList.drop p = s[p] :: s.data.toList.drop (p + 1) := by
  rw [List.drop_eq_getElem_cons (by simpa using h)]; rfl

theorem sc_end {s : ByteArray} {p : Nat} (d : Nat) (h : s.size ≤ p) : sc s p d = none := by
  unfold sc; rw [List.drop_eq_nil_of_le (by simpa using h)]; rfl
theorem sc_back {s : ByteArray} {p : Nat} (d : Nat) (h : p < s.size) (hc : s[p].toNat = 92) : sc s p d = sc s (p + 2) d := by
  unfold sc
  rw [drop_at s p h, scn.eq_def]
  simp only [hc, if_true]
  by_cases h2 : p + 1 < s.size
  · rw [drop_at s (p + 1) h2]
  · rw [List.drop_eq_nil_of_le (by simpa using h2), List.drop_eq_nil_of_le (by simp; omega)]; rfl
theorem sc_open {s : ByteArray} {p : Nat} (d : Nat) (h : p < s.size) (hc : s[p].toNat = 40) : sc s p d = sc s (p + 1) (d + 1) := by
  unfold sc
  rw [drop_at s p h, scn.eq_def]
  simp only [hc]
  simp
theorem sc_last {s : ByteArray} {p : Nat} (h : p < s.size) (hc : s[p].toNat = 41) : sc s p 1 = some (p + 1) := by
  unfold sc
  rw [drop_at s p h, scn.eq_def]
  simp only [hc]
  simp
theorem sc_close {s : ByteArray} {p : Nat} {d : Nat} (h : p < s.size) (hc : s[p].toNat = 41) (hd : d ≠ 1) : sc s p d = sc s (p + 1) (d - 1) := by
  unfold sc
  rw [drop_at s p h, scn.eq_def]
  simp only [hc]
  simp [hd]
theorem sc_plain {s : ByteArray} {p : Nat} (d : Nat) (h : p < s.size) (h1 : s[p].toNat ≠ 92) (h2 : s[p].toNat ≠ 40) (h3 : s[p].toNat ≠ 41) : sc s p d = sc s (p + 1) d := by
  unfold sc
  rw [drop_at s p h, scn.eq_def]
  simp only []
  rw [if_neg h1, if_neg h2, if_neg h3]

theorem sc_step (s : ByteArray) (p d : Nat) (h : p < s.size) :
    (s[p].toNat = 92 ∧ sc s p d = sc s (p + 2) d) ∨ (s[p].toNat = 40 ∧ sc s p d = sc s (p + 1) (d + 1)) ∨ (s[p].toNat = 41 ∧ d = 1 ∧ sc s p d = some (p + 1)) ∨ (s[p].toNat = 41 ∧ d ≠ 1 ∧ sc s p d = sc s (p + 1) (d - 1)) ∨ (s[p].toNat ≠ 92 ∧ s[p].toNat ≠ 40 ∧ s[p].toNat ≠ 41 ∧ sc s p d = sc s (p + 1) d) := by
  by_cases h1 : s[p].toNat = 92
  · exact .inl ⟨h1, sc_back d h h1⟩
  by_cases h2 : s[p].toNat = 40
  · exact .inr (.inl ⟨h2, sc_open d h h2⟩)
  by_cases h3 : s[p].toNat = 41
  · by_cases hd : d = 1
    · subst hd; exact .inr (.inr (.inl ⟨h3, rfl, sc_last h h3⟩))
    · exact .inr (.inr (.inr (.inl ⟨h3, hd, sc_close h h3 hd⟩)))
  · exact .inr (.inr (.inr (.inr ⟨h1, h2, h3, sc_plain d h h1 h2 h3⟩)))

theorem sc_bound (s : ByteArray) : ∀ (n p d k : Nat), s.size ≤ p + n → sc s p d = some k → p < k ∧ k ≤ s.size := by
  intro n
  induction n with
  | zero => intro p d k h he; rw [sc_end d (by omega)] at he; cases he
  | succ n ih =>
    intro p d k h he
    by_cases hp : p < s.size
    · rcases sc_step s p d hp with ⟨_, h1⟩ | ⟨_, h1⟩ | ⟨_, _, h1⟩ | ⟨_, _, h1⟩ | ⟨_, _, _, h1⟩
      · have := ih (p + 2) d k (by omega) (h1 ▸ he); omega
      · have := ih (p + 1) _ k (by omega) (h1 ▸ he); omega
      · rw [h1] at he; cases he; omega
      · have := ih (p + 1) _ k (by omega) (h1 ▸ he); omega
      · have := ih (p + 1) _ k (by omega) (h1 ▸ he); omega
    · rw [sc_end d (by omega)] at he; cases he

theorem sc_split (s : ByteArray) : ∀ (n p e d : Nat), s.size ≤ p + n → 1 ≤ e → 1 ≤ d → sc s p (e + d) = (sc s p e).bind fun k => sc s k d := by
  intro n
  induction n with
  | zero => intro p e d h _ _; rw [sc_end _ (by omega), sc_end _ (by omega)]; rfl
  | succ n ih =>
    intro p e d h he hd
    by_cases hp : p < s.size
    · rcases sc_step s p e hp with ⟨hc, h1⟩ | ⟨hc, h1⟩ | ⟨hc, h0, h1⟩ | ⟨hc, h0, h1⟩ | ⟨c1, c2, c3, h1⟩
      · rw [h1, sc_back _ hp hc]; exact ih _ _ _ (by omega) he hd
      · rw [h1, sc_open _ hp hc, show e + d + 1 = (e + 1) + d by omega]; exact ih _ _ _ (by omega) (by omega) hd
      · rw [h1, sc_close hp hc (by omega), show e + d - 1 = d by omega]; rfl
      · rw [h1, sc_close hp hc (by omega), show e + d - 1 = (e - 1) + d by omega]; exact ih _ _ _ (by omega) (by omega) hd
      · rw [h1, sc_plain _ hp c1 c2 c3]; exact ih _ _ _ (by omega) he hd
    · rw [sc_end _ (by omega), sc_end _ (by omega)]; rfl

theorem sc_two (s : ByteArray) (p : Nat) : sc s p 2 = (sc s p 1).bind fun k => sc s k 1 := sc_split s s.size p 1 1 (by omega) (by omega) (by omega)

/-- The answer as an int: -1 where it is left open. -/
def ans : Option Nat → Int
  | none => -1
  | some k => k

/-- How far the int is from the end. -/
def intAt : Value → Int
  | .int _ x => x
  | _ => 0
end Go.Proofs.Qxb6604153a
