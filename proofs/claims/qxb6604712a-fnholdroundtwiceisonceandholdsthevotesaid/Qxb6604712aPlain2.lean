/-
  Seat b6604712a: the plain law of statements 2 and 3. No Go here.
-/
import Derived.Test.Qxb6604712aFind
namespace Go.Proofs.Qxb6604712a
set_option linter.unusedSimpArgs false
set_option linter.unusedVariables false

/-- Where r stands or would stand. -/
def lb : List HrD → Int → Nat
  | [], _ => 0
  | x :: t, r => if x.rnd < r then lb t r + 1 else 0

theorem Grows.tail {x : HrD} {t : List HrD} (h : Grows (x :: t)) : Grows t := fun k a b ha hb => h (k + 1) a b (by simpa using ha) (by simpa using hb)
theorem lb_cut : ∀ (hs : List HrD) (r : Int), Grows hs → Cut hs r (lb hs r)
  | [], r, _ => ⟨Nat.le_refl _, fun k x hk => by simp [lb] at hk, fun k x _ hx => by simp at hx⟩
  | x :: t, r, hg => by
    obtain ⟨h1, h2, h3⟩ := lb_cut t r hg.tail
    unfold lb
    by_cases hx : x.rnd < r
    · rw [if_pos hx]
      refine ⟨by simp; exact h1, fun k y hk hy => ?_, fun k y hk hy => ?_⟩
      · cases k with
        | zero => simp at hy; rw [← hy]; exact hx
        | succ k => exact h2 k y (by omega) (by simpa using hy)
      · cases k with
        | zero => omega
        | succ k => exact h3 k y (by omega) (by simpa using hy)
    · rw [if_neg hx]
      refine ⟨by simp, fun k y hk hy => by omega, fun k y hk hy => ?_⟩
      cases k with
      | zero => simp at hy; rw [← hy]; omega
      | succ k =>
        have := hg.lt' (show 0 < k + 1 by omega) (by rfl) hy
        omega

/-- hold, as a plain function. -/
def holdP (hs : List HrD) (r : Int) (st : Int) (o : Option VoteD) : List HrD := match o with | none => hs | some x => holdAt hs r (lb hs r) st x
/-- A sender's vote in a tally. -/
def findV (vs : List VoteD) (f : Int) : Option VoteD := vs.find? fun x => x.frm == f

def stepI (r : Int) (s : List HrD × Bool) (h : HrD) : List HrD × Bool :=
  ((if !s.2 && decide (r < h.rnd) then s.1 ++ [fresh r] else s.1) ++ [h], s.2 || decide (r < h.rnd) || (h.rnd == r))
def insM (hs : List HrD) (r : Int) (p : Bool) : List HrD := let s := hs.foldl (stepI r) ([], p); if s.2 then s.1 else s.1 ++ [fresh r]
def keep3 (l : List HrD) : List HrD := if 3 < l.length then l.drop (l.length - 3) else l
def upO (y : HrD) (st : Int) : Option VoteD → HrD
  | none => y
  | some x => y.upd st x
def finM (r : Int) (pv cv : Option VoteD) (y : HrD) : HrD := if y.rnd = r then upO (upO y 1 pv) 2 cv else y
/-- What modelHold says. -/
def modelL (hs : List HrD) (r : Int) (pv cv : Option VoteD) : List HrD := (keep3 (insM hs r (pv.isNone && cv.isNone))).map (finM r pv cv)

theorem grows_nil : Grows [] := fun k x y h => by simp at h
theorem grows_cons (x : HrD) (t : List HrD) (h : Grows t) (hx : ∀ y, t[0]? = some y → x.rnd < y.rnd) : Grows (x :: t) := fun k a b ha hb => by
  cases k with
  | zero => simp at ha; subst ha; exact hx b (by simpa using hb)
  | succ k => exact h k a b (by simpa using ha) (by simpa using hb)
theorem grows1 (a : HrD) : Grows [a] := grows_cons a [] grows_nil (by simp)
theorem grows2 (a b : HrD) (h : a.rnd < b.rnd) : Grows [a, b] := grows_cons a _ (grows1 b) (by simpa using h)
theorem grows3 (a b c : HrD) (h : a.rnd < b.rnd) (h2 : b.rnd < c.rnd) : Grows [a, b, c] := grows_cons a _ (grows2 b c h2) (by simpa using h)

theorem upd_rnd (y : HrD) (st : Int) (x : VoteD) : (y.upd st x).rnd = y.rnd := by unfold HrD.upd; split <;> rfl

/-- A list of at most three rounds that grow. -/
theorem three {hs : List HrD} (hn : hs.length ≤ 3) (hg : Grows hs) : hs = [] ∨ (∃ a, hs = [a]) ∨ (∃ a b, hs = [a, b] ∧ a.rnd < b.rnd) ∨ ∃ a b c, hs = [a, b, c] ∧ a.rnd < b.rnd ∧ b.rnd < c.rnd := by
  match hs, hn with
  | [], _ => exact .inl rfl
  | [a], _ => exact .inr (.inl ⟨a, rfl⟩)
  | [a, b], _ => exact .inr (.inr (.inl ⟨a, b, rfl, hg 0 a b rfl rfl⟩))
  | [a, b, c], _ => exact .inr (.inr (.inr ⟨a, b, c, rfl, hg 0 a b rfl rfl, hg 1 b c rfl rfl⟩))
  | _ :: _ :: _ :: _ :: _, h => simp at h

/-- What one hold makes of at most three rounds. -/
theorem hold_shape (hs : List HrD) (r st : Int) (x : VoteD) (hn : hs.length ≤ 3) (hg : Grows hs) :
    (holdP hs r st (some x)).length ≤ 3 ∧ Grows (holdP hs r st (some x)) := by
  rcases three hn hg with rfl | ⟨a, rfl⟩ | ⟨a, b, rfl, hab⟩ | ⟨a, b, c, rfl, hab, hbc⟩
  · simp only [holdP, lb]
    have : holdAt [] r 0 st x = [(fresh r).upd st x] := by simp [holdAt, foundAt, insAt, setAt]
    rw [this]
    exact ⟨by simp, grows1 _⟩
  · rcases Int.lt_trichotomy a.rnd r with h | h | h
    · have : holdP [a] r st (some x) = [a, (fresh r).upd st x] := by simp [holdP, lb, h, holdAt, foundAt, insAt, setAt]
      rw [this]
      exact ⟨by simp, grows2 _ _ (by rw [upd_rnd]; exact h)⟩
    · have : holdP [a] r st (some x) = [a.upd st x] := by simp [holdP, lb, h, holdAt, foundAt, insAt, setAt]
      rw [this]
      exact ⟨by simp, grows1 _⟩
    · have h1 : ¬ a.rnd < r := by omega
      have h2 : ¬ a.rnd = r := by omega
      have : holdP [a] r st (some x) = [(fresh r).upd st x, a] := by simp [holdP, lb, h1, h2, holdAt, foundAt, insAt, setAt]
      rw [this]
      exact ⟨by simp, grows2 _ _ (by rw [upd_rnd]; exact h)⟩
  · rcases Int.lt_trichotomy a.rnd r with h | h | h
    · rcases Int.lt_trichotomy b.rnd r with k | k | k
      · have : holdP [a, b] r st (some x) = [a, b, (fresh r).upd st x] := by simp [holdP, lb, h, k, holdAt, foundAt, insAt, setAt]
        rw [this]
        exact ⟨by simp, grows3 _ _ _ hab (by rw [upd_rnd]; exact k)⟩
      · have : holdP [a, b] r st (some x) = [a, b.upd st x] := by simp [holdP, lb, h, k, holdAt, foundAt, insAt, setAt]
        rw [this]
        exact ⟨by simp, grows2 _ _ (by rw [upd_rnd]; exact hab)⟩
      · have k1 : ¬ b.rnd < r := by omega
        have k2 : ¬ b.rnd = r := by omega
        have : holdP [a, b] r st (some x) = [a, (fresh r).upd st x, b] := by simp [holdP, lb, h, k1, k2, holdAt, foundAt, insAt, setAt]
        rw [this]
        exact ⟨by simp, grows3 _ _ _ (by rw [upd_rnd]; exact h) (by rw [upd_rnd]; exact k)⟩
    · have : holdP [a, b] r st (some x) = [a.upd st x, b] := by simp [holdP, lb, h, holdAt, foundAt, insAt, setAt]
      rw [this]
      exact ⟨by simp, grows2 _ _ (by rw [upd_rnd]; exact hab)⟩
    · have h1 : ¬ a.rnd < r := by omega
      have h2 : ¬ a.rnd = r := by omega
      have : holdP [a, b] r st (some x) = [(fresh r).upd st x, a, b] := by simp [holdP, lb, h1, h2, holdAt, foundAt, insAt, setAt]
      rw [this]
      exact ⟨by simp, grows3 _ _ _ (by rw [upd_rnd]; exact h) hab⟩
  · rcases Int.lt_trichotomy a.rnd r with h | h | h
    · rcases Int.lt_trichotomy b.rnd r with k | k | k
      · rcases Int.lt_trichotomy c.rnd r with l | l | l
        · have : holdP [a, b, c] r st (some x) = [b, c, (fresh r).upd st x] := by simp [holdP, lb, h, k, l, holdAt, foundAt, insAt, setAt]
          rw [this]
          exact ⟨by simp, grows3 _ _ _ hbc (by rw [upd_rnd]; exact l)⟩
        · have : holdP [a, b, c] r st (some x) = [a, b, c.upd st x] := by simp [holdP, lb, h, k, l, holdAt, foundAt, insAt, setAt]
          rw [this]
          exact ⟨by simp, grows3 _ _ _ hab (by rw [upd_rnd]; exact hbc)⟩
        · have l1 : ¬ c.rnd < r := by omega
          have l2 : ¬ c.rnd = r := by omega
          have : holdP [a, b, c] r st (some x) = [b, (fresh r).upd st x, c] := by simp [holdP, lb, h, k, l1, l2, holdAt, foundAt, insAt, setAt]
          rw [this]
          exact ⟨by simp, grows3 _ _ _ (by rw [upd_rnd]; exact k) (by rw [upd_rnd]; exact l)⟩
      · have : holdP [a, b, c] r st (some x) = [a, b.upd st x, c] := by simp [holdP, lb, h, k, holdAt, foundAt, insAt, setAt]
        rw [this]
        exact ⟨by simp, grows3 _ _ _ (by rw [upd_rnd]; exact hab) (by rw [upd_rnd]; exact hbc)⟩
      · have k1 : ¬ b.rnd < r := by omega
        have k2 : ¬ b.rnd = r := by omega
        have : holdP [a, b, c] r st (some x) = [(fresh r).upd st x, b, c] := by simp [holdP, lb, h, k1, k2, holdAt, foundAt, insAt, setAt]
        rw [this]
        exact ⟨by simp, grows3 _ _ _ (by rw [upd_rnd]; exact k) hbc⟩
    · have : holdP [a, b, c] r st (some x) = [a.upd st x, b, c] := by simp [holdP, lb, h, holdAt, foundAt, insAt, setAt]
      rw [this]
      exact ⟨by simp, grows3 _ _ _ (by rw [upd_rnd]; exact hab) hbc⟩
    · have h1 : ¬ a.rnd < r := by omega
      have h2 : ¬ a.rnd = r := by omega
      have : holdP [a, b, c] r st (some x) = [a, b, c] := by simp [holdP, lb, h1, h2, holdAt, foundAt, insAt, setAt]
      rw [this]
      exact ⟨by simp, hg⟩
theorem hold_shape' (hs : List HrD) (r st : Int) (o : Option VoteD) (hn : hs.length ≤ 3) (hg : Grows hs) : (holdP hs r st o).length ≤ 3 ∧ Grows (holdP hs r st o) := by
  cases o with
  | none => exact ⟨hn, hg⟩
  | some x => exact hold_shape hs r st x hn hg

/-- THE PLAIN LAW of statement 2: holding the prevote, then the precommit, leaves what the model says. -/
theorem model_law (hs : List HrD) (r : Int) (pv cv : Option VoteD) (hn : hs.length ≤ 3) (hg : Grows hs) : holdP (holdP hs r 1 pv) r 2 cv = modelL hs r pv cv := by
  rcases three hn hg with rfl | ⟨a, rfl⟩ | ⟨a, b, rfl, hab⟩ | ⟨a, b, c, rfl, hab, hbc⟩
  · first | (exfalso; omega) | (cases pv <;> cases cv <;> simp [holdP, lb, holdAt, foundAt, insAt, setAt, modelL, insM, stepI, keep3, finM, upO, HrD.upd, fresh])
  · rcases Int.lt_trichotomy a.rnd r with ha | ha | ha
    · have a1 : ¬ a.rnd = r := by omega
      have a2 : ¬ r < a.rnd := by omega
      first | (exfalso; omega) | (cases pv <;> cases cv <;> simp [holdP, lb, holdAt, foundAt, insAt, setAt, modelL, insM, stepI, keep3, finM, upO, HrD.upd, fresh, ha, a1, a2])
    · first | (exfalso; omega) | (cases pv <;> cases cv <;> simp [holdP, lb, holdAt, foundAt, insAt, setAt, modelL, insM, stepI, keep3, finM, upO, HrD.upd, fresh, ha])
    · have a1 : ¬ a.rnd = r := by omega
      have a2 : ¬ a.rnd < r := by omega
      first | (exfalso; omega) | (cases pv <;> cases cv <;> simp [holdP, lb, holdAt, foundAt, insAt, setAt, modelL, insM, stepI, keep3, finM, upO, HrD.upd, fresh, ha, a1, a2])
  · rcases Int.lt_trichotomy a.rnd r with ha | ha | ha
    · have a1 : ¬ a.rnd = r := by omega
      have a2 : ¬ r < a.rnd := by omega
      rcases Int.lt_trichotomy b.rnd r with hb | hb | hb
      · have b1 : ¬ b.rnd = r := by omega
        have b2 : ¬ r < b.rnd := by omega
        first | (exfalso; omega) | (cases pv <;> cases cv <;> simp [holdP, lb, holdAt, foundAt, insAt, setAt, modelL, insM, stepI, keep3, finM, upO, HrD.upd, fresh, ha, a1, a2, hb, b1, b2])
      · first | (exfalso; omega) | (cases pv <;> cases cv <;> simp [holdP, lb, holdAt, foundAt, insAt, setAt, modelL, insM, stepI, keep3, finM, upO, HrD.upd, fresh, ha, a1, a2, hb])
      · have b1 : ¬ b.rnd = r := by omega
        have b2 : ¬ b.rnd < r := by omega
        first | (exfalso; omega) | (cases pv <;> cases cv <;> simp [holdP, lb, holdAt, foundAt, insAt, setAt, modelL, insM, stepI, keep3, finM, upO, HrD.upd, fresh, ha, a1, a2, hb, b1, b2])
    · rcases Int.lt_trichotomy b.rnd r with hb | hb | hb
      · have b1 : ¬ b.rnd = r := by omega
        have b2 : ¬ r < b.rnd := by omega
        first | (exfalso; omega) | (cases pv <;> cases cv <;> simp [holdP, lb, holdAt, foundAt, insAt, setAt, modelL, insM, stepI, keep3, finM, upO, HrD.upd, fresh, ha, hb, b1, b2])
      · first | (exfalso; omega) | (cases pv <;> cases cv <;> simp [holdP, lb, holdAt, foundAt, insAt, setAt, modelL, insM, stepI, keep3, finM, upO, HrD.upd, fresh, ha, hb])
      · have b1 : ¬ b.rnd = r := by omega
        have b2 : ¬ b.rnd < r := by omega
        first | (exfalso; omega) | (cases pv <;> cases cv <;> simp [holdP, lb, holdAt, foundAt, insAt, setAt, modelL, insM, stepI, keep3, finM, upO, HrD.upd, fresh, ha, hb, b1, b2])
    · have a1 : ¬ a.rnd = r := by omega
      have a2 : ¬ a.rnd < r := by omega
      rcases Int.lt_trichotomy b.rnd r with hb | hb | hb
      · have b1 : ¬ b.rnd = r := by omega
        have b2 : ¬ r < b.rnd := by omega
        first | (exfalso; omega) | (cases pv <;> cases cv <;> simp [holdP, lb, holdAt, foundAt, insAt, setAt, modelL, insM, stepI, keep3, finM, upO, HrD.upd, fresh, ha, a1, a2, hb, b1, b2])
      · first | (exfalso; omega) | (cases pv <;> cases cv <;> simp [holdP, lb, holdAt, foundAt, insAt, setAt, modelL, insM, stepI, keep3, finM, upO, HrD.upd, fresh, ha, a1, a2, hb])
      · have b1 : ¬ b.rnd = r := by omega
        have b2 : ¬ b.rnd < r := by omega
        first | (exfalso; omega) | (cases pv <;> cases cv <;> simp [holdP, lb, holdAt, foundAt, insAt, setAt, modelL, insM, stepI, keep3, finM, upO, HrD.upd, fresh, ha, a1, a2, hb, b1, b2])
  · rcases Int.lt_trichotomy a.rnd r with ha | ha | ha
    · have a1 : ¬ a.rnd = r := by omega
      have a2 : ¬ r < a.rnd := by omega
      rcases Int.lt_trichotomy b.rnd r with hb | hb | hb
      · have b1 : ¬ b.rnd = r := by omega
        have b2 : ¬ r < b.rnd := by omega
        rcases Int.lt_trichotomy c.rnd r with hc | hc | hc
        · have c1 : ¬ c.rnd = r := by omega
          have c2 : ¬ r < c.rnd := by omega
          first | (exfalso; omega) | (cases pv <;> cases cv <;> simp [holdP, lb, holdAt, foundAt, insAt, setAt, modelL, insM, stepI, keep3, finM, upO, HrD.upd, fresh, ha, a1, a2, hb, b1, b2, hc, c1, c2])
        · first | (exfalso; omega) | (cases pv <;> cases cv <;> simp [holdP, lb, holdAt, foundAt, insAt, setAt, modelL, insM, stepI, keep3, finM, upO, HrD.upd, fresh, ha, a1, a2, hb, b1, b2, hc])
        · have c1 : ¬ c.rnd = r := by omega
          have c2 : ¬ c.rnd < r := by omega
          first | (exfalso; omega) | (cases pv <;> cases cv <;> simp [holdP, lb, holdAt, foundAt, insAt, setAt, modelL, insM, stepI, keep3, finM, upO, HrD.upd, fresh, ha, a1, a2, hb, b1, b2, hc, c1, c2])
      · rcases Int.lt_trichotomy c.rnd r with hc | hc | hc
        · have c1 : ¬ c.rnd = r := by omega
          have c2 : ¬ r < c.rnd := by omega
          first | (exfalso; omega) | (cases pv <;> cases cv <;> simp [holdP, lb, holdAt, foundAt, insAt, setAt, modelL, insM, stepI, keep3, finM, upO, HrD.upd, fresh, ha, a1, a2, hb, hc, c1, c2])
        · first | (exfalso; omega) | (cases pv <;> cases cv <;> simp [holdP, lb, holdAt, foundAt, insAt, setAt, modelL, insM, stepI, keep3, finM, upO, HrD.upd, fresh, ha, a1, a2, hb, hc])
        · have c1 : ¬ c.rnd = r := by omega
          have c2 : ¬ c.rnd < r := by omega
          first | (exfalso; omega) | (cases pv <;> cases cv <;> simp [holdP, lb, holdAt, foundAt, insAt, setAt, modelL, insM, stepI, keep3, finM, upO, HrD.upd, fresh, ha, a1, a2, hb, hc, c1, c2])
      · have b1 : ¬ b.rnd = r := by omega
        have b2 : ¬ b.rnd < r := by omega
        rcases Int.lt_trichotomy c.rnd r with hc | hc | hc
        · have c1 : ¬ c.rnd = r := by omega
          have c2 : ¬ r < c.rnd := by omega
          first | (exfalso; omega) | (cases pv <;> cases cv <;> simp [holdP, lb, holdAt, foundAt, insAt, setAt, modelL, insM, stepI, keep3, finM, upO, HrD.upd, fresh, ha, a1, a2, hb, b1, b2, hc, c1, c2])
        · first | (exfalso; omega) | (cases pv <;> cases cv <;> simp [holdP, lb, holdAt, foundAt, insAt, setAt, modelL, insM, stepI, keep3, finM, upO, HrD.upd, fresh, ha, a1, a2, hb, b1, b2, hc])
        · have c1 : ¬ c.rnd = r := by omega
          have c2 : ¬ c.rnd < r := by omega
          first | (exfalso; omega) | (cases pv <;> cases cv <;> simp [holdP, lb, holdAt, foundAt, insAt, setAt, modelL, insM, stepI, keep3, finM, upO, HrD.upd, fresh, ha, a1, a2, hb, b1, b2, hc, c1, c2])
    · rcases Int.lt_trichotomy b.rnd r with hb | hb | hb
      · have b1 : ¬ b.rnd = r := by omega
        have b2 : ¬ r < b.rnd := by omega
        rcases Int.lt_trichotomy c.rnd r with hc | hc | hc
        · have c1 : ¬ c.rnd = r := by omega
          have c2 : ¬ r < c.rnd := by omega
          first | (exfalso; omega) | (cases pv <;> cases cv <;> simp [holdP, lb, holdAt, foundAt, insAt, setAt, modelL, insM, stepI, keep3, finM, upO, HrD.upd, fresh, ha, hb, b1, b2, hc, c1, c2])
        · first | (exfalso; omega) | (cases pv <;> cases cv <;> simp [holdP, lb, holdAt, foundAt, insAt, setAt, modelL, insM, stepI, keep3, finM, upO, HrD.upd, fresh, ha, hb, b1, b2, hc])
        · have c1 : ¬ c.rnd = r := by omega
          have c2 : ¬ c.rnd < r := by omega
          first | (exfalso; omega) | (cases pv <;> cases cv <;> simp [holdP, lb, holdAt, foundAt, insAt, setAt, modelL, insM, stepI, keep3, finM, upO, HrD.upd, fresh, ha, hb, b1, b2, hc, c1, c2])
      · rcases Int.lt_trichotomy c.rnd r with hc | hc | hc
        · have c1 : ¬ c.rnd = r := by omega
          have c2 : ¬ r < c.rnd := by omega
          first | (exfalso; omega) | (cases pv <;> cases cv <;> simp [holdP, lb, holdAt, foundAt, insAt, setAt, modelL, insM, stepI, keep3, finM, upO, HrD.upd, fresh, ha, hb, hc, c1, c2])
        · first | (exfalso; omega) | (cases pv <;> cases cv <;> simp [holdP, lb, holdAt, foundAt, insAt, setAt, modelL, insM, stepI, keep3, finM, upO, HrD.upd, fresh, ha, hb, hc])
        · have c1 : ¬ c.rnd = r := by omega
          have c2 : ¬ c.rnd < r := by omega
          first | (exfalso; omega) | (cases pv <;> cases cv <;> simp [holdP, lb, holdAt, foundAt, insAt, setAt, modelL, insM, stepI, keep3, finM, upO, HrD.upd, fresh, ha, hb, hc, c1, c2])
      · have b1 : ¬ b.rnd = r := by omega
        have b2 : ¬ b.rnd < r := by omega
        rcases Int.lt_trichotomy c.rnd r with hc | hc | hc
        · have c1 : ¬ c.rnd = r := by omega
          have c2 : ¬ r < c.rnd := by omega
          first | (exfalso; omega) | (cases pv <;> cases cv <;> simp [holdP, lb, holdAt, foundAt, insAt, setAt, modelL, insM, stepI, keep3, finM, upO, HrD.upd, fresh, ha, hb, b1, b2, hc, c1, c2])
        · first | (exfalso; omega) | (cases pv <;> cases cv <;> simp [holdP, lb, holdAt, foundAt, insAt, setAt, modelL, insM, stepI, keep3, finM, upO, HrD.upd, fresh, ha, hb, b1, b2, hc])
        · have c1 : ¬ c.rnd = r := by omega
          have c2 : ¬ c.rnd < r := by omega
          first | (exfalso; omega) | (cases pv <;> cases cv <;> simp [holdP, lb, holdAt, foundAt, insAt, setAt, modelL, insM, stepI, keep3, finM, upO, HrD.upd, fresh, ha, hb, b1, b2, hc, c1, c2])
    · have a1 : ¬ a.rnd = r := by omega
      have a2 : ¬ a.rnd < r := by omega
      rcases Int.lt_trichotomy b.rnd r with hb | hb | hb
      · have b1 : ¬ b.rnd = r := by omega
        have b2 : ¬ r < b.rnd := by omega
        rcases Int.lt_trichotomy c.rnd r with hc | hc | hc
        · have c1 : ¬ c.rnd = r := by omega
          have c2 : ¬ r < c.rnd := by omega
          first | (exfalso; omega) | (cases pv <;> cases cv <;> simp [holdP, lb, holdAt, foundAt, insAt, setAt, modelL, insM, stepI, keep3, finM, upO, HrD.upd, fresh, ha, a1, a2, hb, b1, b2, hc, c1, c2])
        · first | (exfalso; omega) | (cases pv <;> cases cv <;> simp [holdP, lb, holdAt, foundAt, insAt, setAt, modelL, insM, stepI, keep3, finM, upO, HrD.upd, fresh, ha, a1, a2, hb, b1, b2, hc])
        · have c1 : ¬ c.rnd = r := by omega
          have c2 : ¬ c.rnd < r := by omega
          first | (exfalso; omega) | (cases pv <;> cases cv <;> simp [holdP, lb, holdAt, foundAt, insAt, setAt, modelL, insM, stepI, keep3, finM, upO, HrD.upd, fresh, ha, a1, a2, hb, b1, b2, hc, c1, c2])
      · rcases Int.lt_trichotomy c.rnd r with hc | hc | hc
        · have c1 : ¬ c.rnd = r := by omega
          have c2 : ¬ r < c.rnd := by omega
          first | (exfalso; omega) | (cases pv <;> cases cv <;> simp [holdP, lb, holdAt, foundAt, insAt, setAt, modelL, insM, stepI, keep3, finM, upO, HrD.upd, fresh, ha, a1, a2, hb, hc, c1, c2])
        · first | (exfalso; omega) | (cases pv <;> cases cv <;> simp [holdP, lb, holdAt, foundAt, insAt, setAt, modelL, insM, stepI, keep3, finM, upO, HrD.upd, fresh, ha, a1, a2, hb, hc])
        · have c1 : ¬ c.rnd = r := by omega
          have c2 : ¬ c.rnd < r := by omega
          first | (exfalso; omega) | (cases pv <;> cases cv <;> simp [holdP, lb, holdAt, foundAt, insAt, setAt, modelL, insM, stepI, keep3, finM, upO, HrD.upd, fresh, ha, a1, a2, hb, hc, c1, c2])
      · have b1 : ¬ b.rnd = r := by omega
        have b2 : ¬ b.rnd < r := by omega
        rcases Int.lt_trichotomy c.rnd r with hc | hc | hc
        · have c1 : ¬ c.rnd = r := by omega
          have c2 : ¬ r < c.rnd := by omega
          first | (exfalso; omega) | (cases pv <;> cases cv <;> simp [holdP, lb, holdAt, foundAt, insAt, setAt, modelL, insM, stepI, keep3, finM, upO, HrD.upd, fresh, ha, a1, a2, hb, b1, b2, hc, c1, c2])
        · first | (exfalso; omega) | (cases pv <;> cases cv <;> simp [holdP, lb, holdAt, foundAt, insAt, setAt, modelL, insM, stepI, keep3, finM, upO, HrD.upd, fresh, ha, a1, a2, hb, b1, b2, hc])
        · have c1 : ¬ c.rnd = r := by omega
          have c2 : ¬ c.rnd < r := by omega
          first | (exfalso; omega) | (cases pv <;> cases cv <;> simp [holdP, lb, holdAt, foundAt, insAt, setAt, modelL, insM, stepI, keep3, finM, upO, HrD.upd, fresh, ha, a1, a2, hb, b1, b2, hc, c1, c2])

/-- The plain law of statement 3: twice is once. -/
theorem twice_law (hs : List HrD) (r : Int) (pv cv : Option VoteD) (hn : hs.length ≤ 3) (hg : Grows hs) : holdP (holdP (holdP (holdP hs r 1 pv) r 2 cv) r 1 pv) r 2 cv = holdP (holdP hs r 1 pv) r 2 cv := by
  rcases three hn hg with rfl | ⟨a, rfl⟩ | ⟨a, b, rfl, hab⟩ | ⟨a, b, c, rfl, hab, hbc⟩
  · first | (exfalso; omega) | (cases pv <;> cases cv <;> simp [holdP, lb, holdAt, foundAt, insAt, setAt, modelL, insM, stepI, keep3, finM, upO, HrD.upd, fresh])
  · rcases Int.lt_trichotomy a.rnd r with ha | ha | ha
    · have a1 : ¬ a.rnd = r := by omega
      have a2 : ¬ r < a.rnd := by omega
      first | (exfalso; omega) | (cases pv <;> cases cv <;> simp [holdP, lb, holdAt, foundAt, insAt, setAt, modelL, insM, stepI, keep3, finM, upO, HrD.upd, fresh, ha, a1, a2])
    · first | (exfalso; omega) | (cases pv <;> cases cv <;> simp [holdP, lb, holdAt, foundAt, insAt, setAt, modelL, insM, stepI, keep3, finM, upO, HrD.upd, fresh, ha])
    · have a1 : ¬ a.rnd = r := by omega
      have a2 : ¬ a.rnd < r := by omega
      first | (exfalso; omega) | (cases pv <;> cases cv <;> simp [holdP, lb, holdAt, foundAt, insAt, setAt, modelL, insM, stepI, keep3, finM, upO, HrD.upd, fresh, ha, a1, a2])
  · rcases Int.lt_trichotomy a.rnd r with ha | ha | ha
    · have a1 : ¬ a.rnd = r := by omega
      have a2 : ¬ r < a.rnd := by omega
      rcases Int.lt_trichotomy b.rnd r with hb | hb | hb
      · have b1 : ¬ b.rnd = r := by omega
        have b2 : ¬ r < b.rnd := by omega
        first | (exfalso; omega) | (cases pv <;> cases cv <;> simp [holdP, lb, holdAt, foundAt, insAt, setAt, modelL, insM, stepI, keep3, finM, upO, HrD.upd, fresh, ha, a1, a2, hb, b1, b2])
      · first | (exfalso; omega) | (cases pv <;> cases cv <;> simp [holdP, lb, holdAt, foundAt, insAt, setAt, modelL, insM, stepI, keep3, finM, upO, HrD.upd, fresh, ha, a1, a2, hb])
      · have b1 : ¬ b.rnd = r := by omega
        have b2 : ¬ b.rnd < r := by omega
        first | (exfalso; omega) | (cases pv <;> cases cv <;> simp [holdP, lb, holdAt, foundAt, insAt, setAt, modelL, insM, stepI, keep3, finM, upO, HrD.upd, fresh, ha, a1, a2, hb, b1, b2])
    · rcases Int.lt_trichotomy b.rnd r with hb | hb | hb
      · have b1 : ¬ b.rnd = r := by omega
        have b2 : ¬ r < b.rnd := by omega
        first | (exfalso; omega) | (cases pv <;> cases cv <;> simp [holdP, lb, holdAt, foundAt, insAt, setAt, modelL, insM, stepI, keep3, finM, upO, HrD.upd, fresh, ha, hb, b1, b2])
      · first | (exfalso; omega) | (cases pv <;> cases cv <;> simp [holdP, lb, holdAt, foundAt, insAt, setAt, modelL, insM, stepI, keep3, finM, upO, HrD.upd, fresh, ha, hb])
      · have b1 : ¬ b.rnd = r := by omega
        have b2 : ¬ b.rnd < r := by omega
        first | (exfalso; omega) | (cases pv <;> cases cv <;> simp [holdP, lb, holdAt, foundAt, insAt, setAt, modelL, insM, stepI, keep3, finM, upO, HrD.upd, fresh, ha, hb, b1, b2])
    · have a1 : ¬ a.rnd = r := by omega
      have a2 : ¬ a.rnd < r := by omega
      rcases Int.lt_trichotomy b.rnd r with hb | hb | hb
      · have b1 : ¬ b.rnd = r := by omega
        have b2 : ¬ r < b.rnd := by omega
        first | (exfalso; omega) | (cases pv <;> cases cv <;> simp [holdP, lb, holdAt, foundAt, insAt, setAt, modelL, insM, stepI, keep3, finM, upO, HrD.upd, fresh, ha, a1, a2, hb, b1, b2])
      · first | (exfalso; omega) | (cases pv <;> cases cv <;> simp [holdP, lb, holdAt, foundAt, insAt, setAt, modelL, insM, stepI, keep3, finM, upO, HrD.upd, fresh, ha, a1, a2, hb])
      · have b1 : ¬ b.rnd = r := by omega
        have b2 : ¬ b.rnd < r := by omega
        first | (exfalso; omega) | (cases pv <;> cases cv <;> simp [holdP, lb, holdAt, foundAt, insAt, setAt, modelL, insM, stepI, keep3, finM, upO, HrD.upd, fresh, ha, a1, a2, hb, b1, b2])
  · rcases Int.lt_trichotomy a.rnd r with ha | ha | ha
    · have a1 : ¬ a.rnd = r := by omega
      have a2 : ¬ r < a.rnd := by omega
      rcases Int.lt_trichotomy b.rnd r with hb | hb | hb
      · have b1 : ¬ b.rnd = r := by omega
        have b2 : ¬ r < b.rnd := by omega
        rcases Int.lt_trichotomy c.rnd r with hc | hc | hc
        · have c1 : ¬ c.rnd = r := by omega
          have c2 : ¬ r < c.rnd := by omega
          first | (exfalso; omega) | (cases pv <;> cases cv <;> simp [holdP, lb, holdAt, foundAt, insAt, setAt, modelL, insM, stepI, keep3, finM, upO, HrD.upd, fresh, ha, a1, a2, hb, b1, b2, hc, c1, c2])
        · first | (exfalso; omega) | (cases pv <;> cases cv <;> simp [holdP, lb, holdAt, foundAt, insAt, setAt, modelL, insM, stepI, keep3, finM, upO, HrD.upd, fresh, ha, a1, a2, hb, b1, b2, hc])
        · have c1 : ¬ c.rnd = r := by omega
          have c2 : ¬ c.rnd < r := by omega
          first | (exfalso; omega) | (cases pv <;> cases cv <;> simp [holdP, lb, holdAt, foundAt, insAt, setAt, modelL, insM, stepI, keep3, finM, upO, HrD.upd, fresh, ha, a1, a2, hb, b1, b2, hc, c1, c2])
      · rcases Int.lt_trichotomy c.rnd r with hc | hc | hc
        · have c1 : ¬ c.rnd = r := by omega
          have c2 : ¬ r < c.rnd := by omega
          first | (exfalso; omega) | (cases pv <;> cases cv <;> simp [holdP, lb, holdAt, foundAt, insAt, setAt, modelL, insM, stepI, keep3, finM, upO, HrD.upd, fresh, ha, a1, a2, hb, hc, c1, c2])
        · first | (exfalso; omega) | (cases pv <;> cases cv <;> simp [holdP, lb, holdAt, foundAt, insAt, setAt, modelL, insM, stepI, keep3, finM, upO, HrD.upd, fresh, ha, a1, a2, hb, hc])
        · have c1 : ¬ c.rnd = r := by omega
          have c2 : ¬ c.rnd < r := by omega
          first | (exfalso; omega) | (cases pv <;> cases cv <;> simp [holdP, lb, holdAt, foundAt, insAt, setAt, modelL, insM, stepI, keep3, finM, upO, HrD.upd, fresh, ha, a1, a2, hb, hc, c1, c2])
      · have b1 : ¬ b.rnd = r := by omega
        have b2 : ¬ b.rnd < r := by omega
        rcases Int.lt_trichotomy c.rnd r with hc | hc | hc
        · have c1 : ¬ c.rnd = r := by omega
          have c2 : ¬ r < c.rnd := by omega
          first | (exfalso; omega) | (cases pv <;> cases cv <;> simp [holdP, lb, holdAt, foundAt, insAt, setAt, modelL, insM, stepI, keep3, finM, upO, HrD.upd, fresh, ha, a1, a2, hb, b1, b2, hc, c1, c2])
        · first | (exfalso; omega) | (cases pv <;> cases cv <;> simp [holdP, lb, holdAt, foundAt, insAt, setAt, modelL, insM, stepI, keep3, finM, upO, HrD.upd, fresh, ha, a1, a2, hb, b1, b2, hc])
        · have c1 : ¬ c.rnd = r := by omega
          have c2 : ¬ c.rnd < r := by omega
          first | (exfalso; omega) | (cases pv <;> cases cv <;> simp [holdP, lb, holdAt, foundAt, insAt, setAt, modelL, insM, stepI, keep3, finM, upO, HrD.upd, fresh, ha, a1, a2, hb, b1, b2, hc, c1, c2])
    · rcases Int.lt_trichotomy b.rnd r with hb | hb | hb
      · have b1 : ¬ b.rnd = r := by omega
        have b2 : ¬ r < b.rnd := by omega
        rcases Int.lt_trichotomy c.rnd r with hc | hc | hc
        · have c1 : ¬ c.rnd = r := by omega
          have c2 : ¬ r < c.rnd := by omega
          first | (exfalso; omega) | (cases pv <;> cases cv <;> simp [holdP, lb, holdAt, foundAt, insAt, setAt, modelL, insM, stepI, keep3, finM, upO, HrD.upd, fresh, ha, hb, b1, b2, hc, c1, c2])
        · first | (exfalso; omega) | (cases pv <;> cases cv <;> simp [holdP, lb, holdAt, foundAt, insAt, setAt, modelL, insM, stepI, keep3, finM, upO, HrD.upd, fresh, ha, hb, b1, b2, hc])
        · have c1 : ¬ c.rnd = r := by omega
          have c2 : ¬ c.rnd < r := by omega
          first | (exfalso; omega) | (cases pv <;> cases cv <;> simp [holdP, lb, holdAt, foundAt, insAt, setAt, modelL, insM, stepI, keep3, finM, upO, HrD.upd, fresh, ha, hb, b1, b2, hc, c1, c2])
      · rcases Int.lt_trichotomy c.rnd r with hc | hc | hc
        · have c1 : ¬ c.rnd = r := by omega
          have c2 : ¬ r < c.rnd := by omega
          first | (exfalso; omega) | (cases pv <;> cases cv <;> simp [holdP, lb, holdAt, foundAt, insAt, setAt, modelL, insM, stepI, keep3, finM, upO, HrD.upd, fresh, ha, hb, hc, c1, c2])
        · first | (exfalso; omega) | (cases pv <;> cases cv <;> simp [holdP, lb, holdAt, foundAt, insAt, setAt, modelL, insM, stepI, keep3, finM, upO, HrD.upd, fresh, ha, hb, hc])
        · have c1 : ¬ c.rnd = r := by omega
          have c2 : ¬ c.rnd < r := by omega
          first | (exfalso; omega) | (cases pv <;> cases cv <;> simp [holdP, lb, holdAt, foundAt, insAt, setAt, modelL, insM, stepI, keep3, finM, upO, HrD.upd, fresh, ha, hb, hc, c1, c2])
      · have b1 : ¬ b.rnd = r := by omega
        have b2 : ¬ b.rnd < r := by omega
        rcases Int.lt_trichotomy c.rnd r with hc | hc | hc
        · have c1 : ¬ c.rnd = r := by omega
          have c2 : ¬ r < c.rnd := by omega
          first | (exfalso; omega) | (cases pv <;> cases cv <;> simp [holdP, lb, holdAt, foundAt, insAt, setAt, modelL, insM, stepI, keep3, finM, upO, HrD.upd, fresh, ha, hb, b1, b2, hc, c1, c2])
        · first | (exfalso; omega) | (cases pv <;> cases cv <;> simp [holdP, lb, holdAt, foundAt, insAt, setAt, modelL, insM, stepI, keep3, finM, upO, HrD.upd, fresh, ha, hb, b1, b2, hc])
        · have c1 : ¬ c.rnd = r := by omega
          have c2 : ¬ c.rnd < r := by omega
          first | (exfalso; omega) | (cases pv <;> cases cv <;> simp [holdP, lb, holdAt, foundAt, insAt, setAt, modelL, insM, stepI, keep3, finM, upO, HrD.upd, fresh, ha, hb, b1, b2, hc, c1, c2])
    · have a1 : ¬ a.rnd = r := by omega
      have a2 : ¬ a.rnd < r := by omega
      rcases Int.lt_trichotomy b.rnd r with hb | hb | hb
      · have b1 : ¬ b.rnd = r := by omega
        have b2 : ¬ r < b.rnd := by omega
        rcases Int.lt_trichotomy c.rnd r with hc | hc | hc
        · have c1 : ¬ c.rnd = r := by omega
          have c2 : ¬ r < c.rnd := by omega
          first | (exfalso; omega) | (cases pv <;> cases cv <;> simp [holdP, lb, holdAt, foundAt, insAt, setAt, modelL, insM, stepI, keep3, finM, upO, HrD.upd, fresh, ha, a1, a2, hb, b1, b2, hc, c1, c2])
        · first | (exfalso; omega) | (cases pv <;> cases cv <;> simp [holdP, lb, holdAt, foundAt, insAt, setAt, modelL, insM, stepI, keep3, finM, upO, HrD.upd, fresh, ha, a1, a2, hb, b1, b2, hc])
        · have c1 : ¬ c.rnd = r := by omega
          have c2 : ¬ c.rnd < r := by omega
          first | (exfalso; omega) | (cases pv <;> cases cv <;> simp [holdP, lb, holdAt, foundAt, insAt, setAt, modelL, insM, stepI, keep3, finM, upO, HrD.upd, fresh, ha, a1, a2, hb, b1, b2, hc, c1, c2])
      · rcases Int.lt_trichotomy c.rnd r with hc | hc | hc
        · have c1 : ¬ c.rnd = r := by omega
          have c2 : ¬ r < c.rnd := by omega
          first | (exfalso; omega) | (cases pv <;> cases cv <;> simp [holdP, lb, holdAt, foundAt, insAt, setAt, modelL, insM, stepI, keep3, finM, upO, HrD.upd, fresh, ha, a1, a2, hb, hc, c1, c2])
        · first | (exfalso; omega) | (cases pv <;> cases cv <;> simp [holdP, lb, holdAt, foundAt, insAt, setAt, modelL, insM, stepI, keep3, finM, upO, HrD.upd, fresh, ha, a1, a2, hb, hc])
        · have c1 : ¬ c.rnd = r := by omega
          have c2 : ¬ c.rnd < r := by omega
          first | (exfalso; omega) | (cases pv <;> cases cv <;> simp [holdP, lb, holdAt, foundAt, insAt, setAt, modelL, insM, stepI, keep3, finM, upO, HrD.upd, fresh, ha, a1, a2, hb, hc, c1, c2])
      · have b1 : ¬ b.rnd = r := by omega
        have b2 : ¬ b.rnd < r := by omega
        rcases Int.lt_trichotomy c.rnd r with hc | hc | hc
        · have c1 : ¬ c.rnd = r := by omega
          have c2 : ¬ r < c.rnd := by omega
          first | (exfalso; omega) | (cases pv <;> cases cv <;> simp [holdP, lb, holdAt, foundAt, insAt, setAt, modelL, insM, stepI, keep3, finM, upO, HrD.upd, fresh, ha, a1, a2, hb, b1, b2, hc, c1, c2])
        · first | (exfalso; omega) | (cases pv <;> cases cv <;> simp [holdP, lb, holdAt, foundAt, insAt, setAt, modelL, insM, stepI, keep3, finM, upO, HrD.upd, fresh, ha, a1, a2, hb, b1, b2, hc])
        · have c1 : ¬ c.rnd = r := by omega
          have c2 : ¬ c.rnd < r := by omega
          first | (exfalso; omega) | (cases pv <;> cases cv <;> simp [holdP, lb, holdAt, foundAt, insAt, setAt, modelL, insM, stepI, keep3, finM, upO, HrD.upd, fresh, ha, a1, a2, hb, b1, b2, hc, c1, c2])

theorem low_law (hs : List HrD) (r : Int) (pv cv : Option VoteD) (hn : hs.length ≤ 3) (hg : Grows hs) (h3 : hs.length = 3) (hl : ∀ y, hs[0]? = some y → r < y.rnd) : holdP (holdP hs r 1 pv) r 2 cv = hs := by
  rcases three hn hg with rfl | ⟨a, rfl⟩ | ⟨a, b, rfl, hab⟩ | ⟨a, b, c, rfl, hab, hbc⟩
  · simp at h3
  · simp at h3
  · simp at h3
  · have ha := hl a rfl
    have a1 : ¬ a.rnd = r := by omega
    have a2 : ¬ a.rnd < r := by omega
    cases pv <;> cases cv <;> simp [holdP, lb, holdAt, foundAt, insAt, setAt, ha, a1, a2]

theorem upO_rnd (y : HrD) (st : Int) (o : Option VoteD) : (upO y st o).rnd = y.rnd := by
  cases o with
  | none => rfl
  | some x => exact upd_rnd y st x
theorem finM_rnd (r : Int) (pv cv : Option VoteD) (y : HrD) : (finM r pv cv y).rnd = y.rnd := by
  unfold finM; split
  · rw [upO_rnd, upO_rnd]
  · rfl
/-- Whatever entry of the round is held, it bears the sender's votes. -/
theorem bears_law (hs : List HrD) (r : Int) (pv cv : Option VoteD) (hn : hs.length ≤ 3) (hg : Grows hs) (y : HrD) (hy : y ∈ holdP (holdP hs r 1 pv) r 2 cv) (hr : y.rnd = r) :
    (∀ x, pv = some x → y.h0 = true ∧ y.v0 = x) ∧ (∀ x, cv = some x → y.h1 = true ∧ y.v1 = x) := by
  rw [model_law hs r pv cv hn hg] at hy
  unfold modelL at hy
  obtain ⟨z, hz, rfl⟩ := List.mem_map.1 hy
  rw [finM_rnd] at hr
  unfold finM
  rw [if_pos hr]
  cases pv <;> cases cv <;> simp [upO, HrD.upd]
set_option maxHeartbeats 1000000 in
/-- The round is held where the sender voted in it and it is not below three held rounds. -/
theorem held_law (hs : List HrD) (r : Int) (pv cv : Option VoteD) (hn : hs.length ≤ 3) (hg : Grows hs) (hp : ¬ (pv = none ∧ cv = none)) (h3 : ¬ (hs.length = 3 ∧ ∀ y, hs[0]? = some y → r < y.rnd)) : ∃ y ∈ holdP (holdP hs r 1 pv) r 2 cv, y.rnd = r := by
  rcases three hn hg with rfl | ⟨a, rfl⟩ | ⟨a, b, rfl, hab⟩ | ⟨a, b, c, rfl, hab, hbc⟩
  · first | (exfalso; omega) | (exfalso; apply h3; simp; omega) | (cases pv <;> cases cv <;> first | exact absurd ⟨rfl, rfl⟩ hp | simp [holdP, lb, holdAt, foundAt, insAt, setAt, modelL, insM, stepI, keep3, finM, upO, HrD.upd, fresh])
  · rcases Int.lt_trichotomy a.rnd r with ha | ha | ha
    · have a1 : ¬ a.rnd = r := by omega
      have a2 : ¬ r < a.rnd := by omega
      first | (exfalso; omega) | (exfalso; apply h3; simp; omega) | (cases pv <;> cases cv <;> first | exact absurd ⟨rfl, rfl⟩ hp | simp [holdP, lb, holdAt, foundAt, insAt, setAt, modelL, insM, stepI, keep3, finM, upO, HrD.upd, fresh, ha, a1, a2])
    · first | (exfalso; omega) | (exfalso; apply h3; simp; omega) | (cases pv <;> cases cv <;> first | exact absurd ⟨rfl, rfl⟩ hp | simp [holdP, lb, holdAt, foundAt, insAt, setAt, modelL, insM, stepI, keep3, finM, upO, HrD.upd, fresh, ha])
    · have a1 : ¬ a.rnd = r := by omega
      have a2 : ¬ a.rnd < r := by omega
      first | (exfalso; omega) | (exfalso; apply h3; simp; omega) | (cases pv <;> cases cv <;> first | exact absurd ⟨rfl, rfl⟩ hp | simp [holdP, lb, holdAt, foundAt, insAt, setAt, modelL, insM, stepI, keep3, finM, upO, HrD.upd, fresh, ha, a1, a2])
  · rcases Int.lt_trichotomy a.rnd r with ha | ha | ha
    · have a1 : ¬ a.rnd = r := by omega
      have a2 : ¬ r < a.rnd := by omega
      rcases Int.lt_trichotomy b.rnd r with hb | hb | hb
      · have b1 : ¬ b.rnd = r := by omega
        have b2 : ¬ r < b.rnd := by omega
        first | (exfalso; omega) | (exfalso; apply h3; simp; omega) | (cases pv <;> cases cv <;> first | exact absurd ⟨rfl, rfl⟩ hp | simp [holdP, lb, holdAt, foundAt, insAt, setAt, modelL, insM, stepI, keep3, finM, upO, HrD.upd, fresh, ha, a1, a2, hb, b1, b2])
      · first | (exfalso; omega) | (exfalso; apply h3; simp; omega) | (cases pv <;> cases cv <;> first | exact absurd ⟨rfl, rfl⟩ hp | simp [holdP, lb, holdAt, foundAt, insAt, setAt, modelL, insM, stepI, keep3, finM, upO, HrD.upd, fresh, ha, a1, a2, hb])
      · have b1 : ¬ b.rnd = r := by omega
        have b2 : ¬ b.rnd < r := by omega
        first | (exfalso; omega) | (exfalso; apply h3; simp; omega) | (cases pv <;> cases cv <;> first | exact absurd ⟨rfl, rfl⟩ hp | simp [holdP, lb, holdAt, foundAt, insAt, setAt, modelL, insM, stepI, keep3, finM, upO, HrD.upd, fresh, ha, a1, a2, hb, b1, b2])
    · rcases Int.lt_trichotomy b.rnd r with hb | hb | hb
      · have b1 : ¬ b.rnd = r := by omega
        have b2 : ¬ r < b.rnd := by omega
        first | (exfalso; omega) | (exfalso; apply h3; simp; omega) | (cases pv <;> cases cv <;> first | exact absurd ⟨rfl, rfl⟩ hp | simp [holdP, lb, holdAt, foundAt, insAt, setAt, modelL, insM, stepI, keep3, finM, upO, HrD.upd, fresh, ha, hb, b1, b2])
      · first | (exfalso; omega) | (exfalso; apply h3; simp; omega) | (cases pv <;> cases cv <;> first | exact absurd ⟨rfl, rfl⟩ hp | simp [holdP, lb, holdAt, foundAt, insAt, setAt, modelL, insM, stepI, keep3, finM, upO, HrD.upd, fresh, ha, hb])
      · have b1 : ¬ b.rnd = r := by omega
        have b2 : ¬ b.rnd < r := by omega
        first | (exfalso; omega) | (exfalso; apply h3; simp; omega) | (cases pv <;> cases cv <;> first | exact absurd ⟨rfl, rfl⟩ hp | simp [holdP, lb, holdAt, foundAt, insAt, setAt, modelL, insM, stepI, keep3, finM, upO, HrD.upd, fresh, ha, hb, b1, b2])
    · have a1 : ¬ a.rnd = r := by omega
      have a2 : ¬ a.rnd < r := by omega
      rcases Int.lt_trichotomy b.rnd r with hb | hb | hb
      · have b1 : ¬ b.rnd = r := by omega
        have b2 : ¬ r < b.rnd := by omega
        first | (exfalso; omega) | (exfalso; apply h3; simp; omega) | (cases pv <;> cases cv <;> first | exact absurd ⟨rfl, rfl⟩ hp | simp [holdP, lb, holdAt, foundAt, insAt, setAt, modelL, insM, stepI, keep3, finM, upO, HrD.upd, fresh, ha, a1, a2, hb, b1, b2])
      · first | (exfalso; omega) | (exfalso; apply h3; simp; omega) | (cases pv <;> cases cv <;> first | exact absurd ⟨rfl, rfl⟩ hp | simp [holdP, lb, holdAt, foundAt, insAt, setAt, modelL, insM, stepI, keep3, finM, upO, HrD.upd, fresh, ha, a1, a2, hb])
      · have b1 : ¬ b.rnd = r := by omega
        have b2 : ¬ b.rnd < r := by omega
        first | (exfalso; omega) | (exfalso; apply h3; simp; omega) | (cases pv <;> cases cv <;> first | exact absurd ⟨rfl, rfl⟩ hp | simp [holdP, lb, holdAt, foundAt, insAt, setAt, modelL, insM, stepI, keep3, finM, upO, HrD.upd, fresh, ha, a1, a2, hb, b1, b2])
  · rcases Int.lt_trichotomy a.rnd r with ha | ha | ha
    · have a1 : ¬ a.rnd = r := by omega
      have a2 : ¬ r < a.rnd := by omega
      rcases Int.lt_trichotomy b.rnd r with hb | hb | hb
      · have b1 : ¬ b.rnd = r := by omega
        have b2 : ¬ r < b.rnd := by omega
        rcases Int.lt_trichotomy c.rnd r with hc | hc | hc
        · have c1 : ¬ c.rnd = r := by omega
          have c2 : ¬ r < c.rnd := by omega
          first | (exfalso; omega) | (exfalso; apply h3; simp; omega) | (cases pv <;> cases cv <;> first | exact absurd ⟨rfl, rfl⟩ hp | simp [holdP, lb, holdAt, foundAt, insAt, setAt, modelL, insM, stepI, keep3, finM, upO, HrD.upd, fresh, ha, a1, a2, hb, b1, b2, hc, c1, c2])
        · first | (exfalso; omega) | (exfalso; apply h3; simp; omega) | (cases pv <;> cases cv <;> first | exact absurd ⟨rfl, rfl⟩ hp | simp [holdP, lb, holdAt, foundAt, insAt, setAt, modelL, insM, stepI, keep3, finM, upO, HrD.upd, fresh, ha, a1, a2, hb, b1, b2, hc])
        · have c1 : ¬ c.rnd = r := by omega
          have c2 : ¬ c.rnd < r := by omega
          first | (exfalso; omega) | (exfalso; apply h3; simp; omega) | (cases pv <;> cases cv <;> first | exact absurd ⟨rfl, rfl⟩ hp | simp [holdP, lb, holdAt, foundAt, insAt, setAt, modelL, insM, stepI, keep3, finM, upO, HrD.upd, fresh, ha, a1, a2, hb, b1, b2, hc, c1, c2])
      · rcases Int.lt_trichotomy c.rnd r with hc | hc | hc
        · have c1 : ¬ c.rnd = r := by omega
          have c2 : ¬ r < c.rnd := by omega
          first | (exfalso; omega) | (exfalso; apply h3; simp; omega) | (cases pv <;> cases cv <;> first | exact absurd ⟨rfl, rfl⟩ hp | simp [holdP, lb, holdAt, foundAt, insAt, setAt, modelL, insM, stepI, keep3, finM, upO, HrD.upd, fresh, ha, a1, a2, hb, hc, c1, c2])
        · first | (exfalso; omega) | (exfalso; apply h3; simp; omega) | (cases pv <;> cases cv <;> first | exact absurd ⟨rfl, rfl⟩ hp | simp [holdP, lb, holdAt, foundAt, insAt, setAt, modelL, insM, stepI, keep3, finM, upO, HrD.upd, fresh, ha, a1, a2, hb, hc])
        · have c1 : ¬ c.rnd = r := by omega
          have c2 : ¬ c.rnd < r := by omega
          first | (exfalso; omega) | (exfalso; apply h3; simp; omega) | (cases pv <;> cases cv <;> first | exact absurd ⟨rfl, rfl⟩ hp | simp [holdP, lb, holdAt, foundAt, insAt, setAt, modelL, insM, stepI, keep3, finM, upO, HrD.upd, fresh, ha, a1, a2, hb, hc, c1, c2])
      · have b1 : ¬ b.rnd = r := by omega
        have b2 : ¬ b.rnd < r := by omega
        rcases Int.lt_trichotomy c.rnd r with hc | hc | hc
        · have c1 : ¬ c.rnd = r := by omega
          have c2 : ¬ r < c.rnd := by omega
          first | (exfalso; omega) | (exfalso; apply h3; simp; omega) | (cases pv <;> cases cv <;> first | exact absurd ⟨rfl, rfl⟩ hp | simp [holdP, lb, holdAt, foundAt, insAt, setAt, modelL, insM, stepI, keep3, finM, upO, HrD.upd, fresh, ha, a1, a2, hb, b1, b2, hc, c1, c2])
        · first | (exfalso; omega) | (exfalso; apply h3; simp; omega) | (cases pv <;> cases cv <;> first | exact absurd ⟨rfl, rfl⟩ hp | simp [holdP, lb, holdAt, foundAt, insAt, setAt, modelL, insM, stepI, keep3, finM, upO, HrD.upd, fresh, ha, a1, a2, hb, b1, b2, hc])
        · have c1 : ¬ c.rnd = r := by omega
          have c2 : ¬ c.rnd < r := by omega
          first | (exfalso; omega) | (exfalso; apply h3; simp; omega) | (cases pv <;> cases cv <;> first | exact absurd ⟨rfl, rfl⟩ hp | simp [holdP, lb, holdAt, foundAt, insAt, setAt, modelL, insM, stepI, keep3, finM, upO, HrD.upd, fresh, ha, a1, a2, hb, b1, b2, hc, c1, c2])
    · rcases Int.lt_trichotomy b.rnd r with hb | hb | hb
      · have b1 : ¬ b.rnd = r := by omega
        have b2 : ¬ r < b.rnd := by omega
        rcases Int.lt_trichotomy c.rnd r with hc | hc | hc
        · have c1 : ¬ c.rnd = r := by omega
          have c2 : ¬ r < c.rnd := by omega
          first | (exfalso; omega) | (exfalso; apply h3; simp; omega) | (cases pv <;> cases cv <;> first | exact absurd ⟨rfl, rfl⟩ hp | simp [holdP, lb, holdAt, foundAt, insAt, setAt, modelL, insM, stepI, keep3, finM, upO, HrD.upd, fresh, ha, hb, b1, b2, hc, c1, c2])
        · first | (exfalso; omega) | (exfalso; apply h3; simp; omega) | (cases pv <;> cases cv <;> first | exact absurd ⟨rfl, rfl⟩ hp | simp [holdP, lb, holdAt, foundAt, insAt, setAt, modelL, insM, stepI, keep3, finM, upO, HrD.upd, fresh, ha, hb, b1, b2, hc])
        · have c1 : ¬ c.rnd = r := by omega
          have c2 : ¬ c.rnd < r := by omega
          first | (exfalso; omega) | (exfalso; apply h3; simp; omega) | (cases pv <;> cases cv <;> first | exact absurd ⟨rfl, rfl⟩ hp | simp [holdP, lb, holdAt, foundAt, insAt, setAt, modelL, insM, stepI, keep3, finM, upO, HrD.upd, fresh, ha, hb, b1, b2, hc, c1, c2])
      · rcases Int.lt_trichotomy c.rnd r with hc | hc | hc
        · have c1 : ¬ c.rnd = r := by omega
          have c2 : ¬ r < c.rnd := by omega
          first | (exfalso; omega) | (exfalso; apply h3; simp; omega) | (cases pv <;> cases cv <;> first | exact absurd ⟨rfl, rfl⟩ hp | simp [holdP, lb, holdAt, foundAt, insAt, setAt, modelL, insM, stepI, keep3, finM, upO, HrD.upd, fresh, ha, hb, hc, c1, c2])
        · first | (exfalso; omega) | (exfalso; apply h3; simp; omega) | (cases pv <;> cases cv <;> first | exact absurd ⟨rfl, rfl⟩ hp | simp [holdP, lb, holdAt, foundAt, insAt, setAt, modelL, insM, stepI, keep3, finM, upO, HrD.upd, fresh, ha, hb, hc])
        · have c1 : ¬ c.rnd = r := by omega
          have c2 : ¬ c.rnd < r := by omega
          first | (exfalso; omega) | (exfalso; apply h3; simp; omega) | (cases pv <;> cases cv <;> first | exact absurd ⟨rfl, rfl⟩ hp | simp [holdP, lb, holdAt, foundAt, insAt, setAt, modelL, insM, stepI, keep3, finM, upO, HrD.upd, fresh, ha, hb, hc, c1, c2])
      · have b1 : ¬ b.rnd = r := by omega
        have b2 : ¬ b.rnd < r := by omega
        rcases Int.lt_trichotomy c.rnd r with hc | hc | hc
        · have c1 : ¬ c.rnd = r := by omega
          have c2 : ¬ r < c.rnd := by omega
          first | (exfalso; omega) | (exfalso; apply h3; simp; omega) | (cases pv <;> cases cv <;> first | exact absurd ⟨rfl, rfl⟩ hp | simp [holdP, lb, holdAt, foundAt, insAt, setAt, modelL, insM, stepI, keep3, finM, upO, HrD.upd, fresh, ha, hb, b1, b2, hc, c1, c2])
        · first | (exfalso; omega) | (exfalso; apply h3; simp; omega) | (cases pv <;> cases cv <;> first | exact absurd ⟨rfl, rfl⟩ hp | simp [holdP, lb, holdAt, foundAt, insAt, setAt, modelL, insM, stepI, keep3, finM, upO, HrD.upd, fresh, ha, hb, b1, b2, hc])
        · have c1 : ¬ c.rnd = r := by omega
          have c2 : ¬ c.rnd < r := by omega
          first | (exfalso; omega) | (exfalso; apply h3; simp; omega) | (cases pv <;> cases cv <;> first | exact absurd ⟨rfl, rfl⟩ hp | simp [holdP, lb, holdAt, foundAt, insAt, setAt, modelL, insM, stepI, keep3, finM, upO, HrD.upd, fresh, ha, hb, b1, b2, hc, c1, c2])
    · have a1 : ¬ a.rnd = r := by omega
      have a2 : ¬ a.rnd < r := by omega
      rcases Int.lt_trichotomy b.rnd r with hb | hb | hb
      · have b1 : ¬ b.rnd = r := by omega
        have b2 : ¬ r < b.rnd := by omega
        rcases Int.lt_trichotomy c.rnd r with hc | hc | hc
        · have c1 : ¬ c.rnd = r := by omega
          have c2 : ¬ r < c.rnd := by omega
          first | (exfalso; omega) | (exfalso; apply h3; simp; omega) | (cases pv <;> cases cv <;> first | exact absurd ⟨rfl, rfl⟩ hp | simp [holdP, lb, holdAt, foundAt, insAt, setAt, modelL, insM, stepI, keep3, finM, upO, HrD.upd, fresh, ha, a1, a2, hb, b1, b2, hc, c1, c2])
        · first | (exfalso; omega) | (exfalso; apply h3; simp; omega) | (cases pv <;> cases cv <;> first | exact absurd ⟨rfl, rfl⟩ hp | simp [holdP, lb, holdAt, foundAt, insAt, setAt, modelL, insM, stepI, keep3, finM, upO, HrD.upd, fresh, ha, a1, a2, hb, b1, b2, hc])
        · have c1 : ¬ c.rnd = r := by omega
          have c2 : ¬ c.rnd < r := by omega
          first | (exfalso; omega) | (exfalso; apply h3; simp; omega) | (cases pv <;> cases cv <;> first | exact absurd ⟨rfl, rfl⟩ hp | simp [holdP, lb, holdAt, foundAt, insAt, setAt, modelL, insM, stepI, keep3, finM, upO, HrD.upd, fresh, ha, a1, a2, hb, b1, b2, hc, c1, c2])
      · rcases Int.lt_trichotomy c.rnd r with hc | hc | hc
        · have c1 : ¬ c.rnd = r := by omega
          have c2 : ¬ r < c.rnd := by omega
          first | (exfalso; omega) | (exfalso; apply h3; simp; omega) | (cases pv <;> cases cv <;> first | exact absurd ⟨rfl, rfl⟩ hp | simp [holdP, lb, holdAt, foundAt, insAt, setAt, modelL, insM, stepI, keep3, finM, upO, HrD.upd, fresh, ha, a1, a2, hb, hc, c1, c2])
        · first | (exfalso; omega) | (exfalso; apply h3; simp; omega) | (cases pv <;> cases cv <;> first | exact absurd ⟨rfl, rfl⟩ hp | simp [holdP, lb, holdAt, foundAt, insAt, setAt, modelL, insM, stepI, keep3, finM, upO, HrD.upd, fresh, ha, a1, a2, hb, hc])
        · have c1 : ¬ c.rnd = r := by omega
          have c2 : ¬ c.rnd < r := by omega
          first | (exfalso; omega) | (exfalso; apply h3; simp; omega) | (cases pv <;> cases cv <;> first | exact absurd ⟨rfl, rfl⟩ hp | simp [holdP, lb, holdAt, foundAt, insAt, setAt, modelL, insM, stepI, keep3, finM, upO, HrD.upd, fresh, ha, a1, a2, hb, hc, c1, c2])
      · have b1 : ¬ b.rnd = r := by omega
        have b2 : ¬ b.rnd < r := by omega
        rcases Int.lt_trichotomy c.rnd r with hc | hc | hc
        · have c1 : ¬ c.rnd = r := by omega
          have c2 : ¬ r < c.rnd := by omega
          first | (exfalso; omega) | (exfalso; apply h3; simp; omega) | (cases pv <;> cases cv <;> first | exact absurd ⟨rfl, rfl⟩ hp | simp [holdP, lb, holdAt, foundAt, insAt, setAt, modelL, insM, stepI, keep3, finM, upO, HrD.upd, fresh, ha, a1, a2, hb, b1, b2, hc, c1, c2])
        · first | (exfalso; omega) | (exfalso; apply h3; simp; omega) | (cases pv <;> cases cv <;> first | exact absurd ⟨rfl, rfl⟩ hp | simp [holdP, lb, holdAt, foundAt, insAt, setAt, modelL, insM, stepI, keep3, finM, upO, HrD.upd, fresh, ha, a1, a2, hb, b1, b2, hc])
        · have c1 : ¬ c.rnd = r := by omega
          have c2 : ¬ c.rnd < r := by omega
          first | (exfalso; omega) | (exfalso; apply h3; simp; omega) | (cases pv <;> cases cv <;> first | exact absurd ⟨rfl, rfl⟩ hp | simp [holdP, lb, holdAt, foundAt, insAt, setAt, modelL, insM, stepI, keep3, finM, upO, HrD.upd, fresh, ha, a1, a2, hb, b1, b2, hc, c1, c2])

end Go.Proofs.Qxb6604712a
