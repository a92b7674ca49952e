/-
  Seat b6002912a: the statement FnTakeScriptKeepsSeqMinusEventsSaid.
-/
import Derived.Test.Qxb6002912aRows
import Derived.Test.Qxb6002912aLaw6
import Derived.WalkKit
import Derived.ProofKit
import Derived.OpenShut
import Derived.ShutString
import Derived.ChangeOld
import Derived.Below
namespace Go.Proofs.Qxb6002912a.fnTakeScriptKeepsSeqMinusEvents
open Go.ChangeShapes Go.WideShapes Go.ChangeAt Go.RowKit
set_option linter.unusedVariables false

theorem own : ownKnob Try.prog.godebug = none := by kernel_rfl
theorem laidOut : laidOutB Try.prog = true := by kernel_rfl
theorem cells9 : Try.prog.cellsOf 9 = 1 := by kernel_rfl

section
variable {H : Type} {enc : TypeId × Value → H} {w : World} {spare : Nat → Bool} {held : Bool}

/-- A slice that can be read, its elements of size s each by f. -/
theorem open_row {α : Type} (f : α → List Value) (ok : α → Prop) (t e s : Nat) (ht : Try.prog.underlying t = some (.slice e)) (hs : Try.prog.cellsOf e = s) (h0 : 0 < s) (hlen : ∀ a, ok a → (f a).length = s)
    (hel : ∀ (n : Nat) (cs : List Value) (x : DataW H × List MemPlace), DataW.trod enc Try.prog w 0 spare held n e cs = some x → ∃ a, cs = f a ∧ ok a)
    {fuel : Nat} {cs : List Value} {x : DataW H × List MemPlace} (h : DataW.trod enc Try.prog w 0 spare held fuel t cs = some x) :
    ∃ (v : Value) (xs : List α), cs = [v] ∧ sliceAt w s v xs.length (xs.flatMap f) ∧ ∀ a ∈ xs, ok a := by
  rcases DataW.trod_slice ht h with ⟨rfl, _⟩ | ⟨a, len, cap, elems, rest, n, _, rfl, _, _, hlc, hcm, hle, hel2, _⟩
  · exact ⟨_, [], rfl, ⟨none, 0, rfl, by simp, by simp, .inl rfl⟩, by simp⟩
  · rw [hs] at hel2
    have hex : ∀ i, i < len → ∃ y : α, ok y ∧ ∀ j, j < s → w.cell? ((a.add (i * s)).add j) = (f y)[j]? := by
      intro i hi
      have h1 := hel2 i hi
      rw [List.getElem?_eq_getElem (by omega)] at h1
      obtain ⟨cs', hc1, hc2⟩ := Option.bind_eq_some_iff.1 h1
      obtain ⟨y, rfl, hy⟩ := hel n cs' _ hc2
      exact ⟨y, hy, (World.cells?_some hc1).2.2⟩
    have hlst : ∃ xs : List α, xs.length = len ∧ (∀ y ∈ xs, ok y) ∧ ∀ i (hi : i < xs.length), ∀ j, j < s → w.cell? ((a.add (i * s)).add j) = (f xs[i])[j]? := by
      have : ∀ m, m ≤ len → ∃ xs : List α, xs.length = m ∧ (∀ y ∈ xs, ok y) ∧ ∀ i (hi : i < xs.length), ∀ j, j < s → w.cell? ((a.add (i * s)).add j) = (f xs[i])[j]? := by
        intro m
        induction m with
        | zero => intro _; exact ⟨[], rfl, by simp, by simp⟩
        | succ m ih =>
          intro hm
          obtain ⟨xs, h1, h2, h3⟩ := ih (by omega)
          obtain ⟨y, hy, hyc⟩ := hex m (by omega)
          refine ⟨xs ++ [y], by simp [h1], ?_, ?_⟩
          · intro z hz
            rcases List.mem_append.1 hz with hz | hz
            · exact h2 z hz
            · simp at hz; rw [hz]; exact hy
          · intro i hi j hj
            by_cases hlt : i < xs.length
            · rw [List.getElem_append_left hlt]; exact h3 i hlt j hj
            · have : i = m := by simp at hi; omega
              subst this
              rw [List.getElem_append_right (by omega)]
              simp [h1]; exact hyc j hj
      exact this len (Nat.le_refl _)
    obtain ⟨xs, hx1, hx2, hx3⟩ := hlst
    have hm : len ≤ 9223372036854775807 := by unfold maxLen at hcm; omega
    have hfl := flat_len f s xs (fun y hy => hlen y (hx2 y hy))
    refine ⟨_, xs, rfl, ⟨some a, cap, by rw [hx1], by rw [hfl], by omega, ?_⟩, hx2⟩
    by_cases hz : len = 0
    · left; omega
    · right
      obtain ⟨b, o, sp⟩ := a
      have hsp : sp = none := by
        have := hx3 0 (by omega) 0 h0
        rw [List.getElem?_eq_getElem (by rw [hlen _ (hx2 _ (List.getElem_mem _))]; exact h0)] at this
        simpa [Addr.add] using World.cell?_spot this
      subst hsp
      refine ⟨b, o, rfl, fun j v hv => ?_⟩
      have hj : j < xs.length * s := by rw [← hfl]; exact (List.getElem?_eq_some_iff.1 hv).1
      have hi : j / s < xs.length := Nat.div_lt_of_lt_mul (by rw [Nat.mul_comm]; exact hj)
      have hmod := Nat.mod_lt j h0
      have e : j = j / s * s + j % s := by rw [Nat.mul_comm]; exact (Nat.div_add_mod j s).symm
      have := hx3 (j / s) hi (j % s) hmod
      rw [Addr.add_mid, Addr.add_mid, Nat.add_assoc, ← e] at this
      rw [this]
      rw [e, flat_get f s xs (fun y hy => hlen y (hx2 y hy)) _ _ hi hmod] at hv
      exact hv

theorem wf_i64 {n : Int} (h : (Lit.int .i64 n).wf = true) : -9223372036854775808 ≤ n ∧ n ≤ 9223372036854775807 := by
  unfold Lit.wf at h
  rw [Bool.and_eq_true] at h
  have h1 := of_decide_eq_true h.1
  have h2 := of_decide_eq_true h.2
  have e1 : IntKind.i64.min = -9223372036854775808 := by decide
  have e2 : IntKind.i64.max = 9223372036854775807 := by decide
  omega
theorem open_strs {fuel : Nat} {cs : List Value} {x : DataW H × List MemPlace} (h : DataW.trod enc Try.prog w 0 spare held fuel 32 cs = some x) : ∃ (v : Value) (ss : List ByteArray), cs = [v] ∧ strsAt w v ss := by
  obtain ⟨v, xs, h1, h2, _⟩ := open_row (fun s : ByteArray => [Value.string s]) (fun _ => True) 32 9 1 Try.underlying32 cells9 (by omega) (fun _ _ => rfl) (fun n cs x h => by
    obtain ⟨m, hm, _⟩ := DataW.trod_string Try.underlying9 h; exact ⟨m, hm, trivial⟩) h
  exact ⟨v, xs, h1, by unfold strsAt; rw [List.map_eq_flatMap]; exact h2⟩
end

set_option maxRecDepth 100000 in
theorem lifted (os : Os) (started : os.Started) (H : Type) (enc : TypeId × Value → H) :
    ReturnsInHanded {} Try.checked os 5 .any (Rows.fnTakeScriptKeepsSeqMinusEventsSpec.pre6 enc Try.prog Try.f5 Rows.fnTakeScriptKeepsSeqMinusEventsRow.domain false) (Rows.fnTakeScriptKeepsSeqMinusEventsSpec.post enc Try.prog Try.f5 false true false false) := by
  refine returnsInHanded_of_change (C := Try.checked) own started (by kernel_rfl) Try.func5
    (ChangeSpec.witness6 (enc := enc) (C := Try.checked) false ⟨#[], #[.int .i64 0, .int .i64 0, .string ByteArray.empty, .slice none 0 0], []⟩ 8 (by kernel_rfl) (by kernel_rfl) (by kernel_rfl) (by kernel_rfl)) ?_
  intro W base args ds gs before hval0 hW hcnd _
  have hval : ∀ (j : Nat) t v, Try.f5.params[j]? = some t → args[j]? = some v → Value.okWide Try.prog W .any base t v := hval0
  have hW' := hW
  obtain ⟨p, q, hA0, hV, rfl, hfz, hnd⟩ := hW
  have hA : DataW.TrodAll enc Try.prog W 0 (fun _ => true) true Try.f5.params.toList args.toList ds p := hA0
  rw [Try.params5] at hA hval
  obtain ⟨v0, vs0, d0, ds0, p0, q0, hargs, rfl, rfl, h0, r0⟩ := trodAll_cons hA
  obtain ⟨v1, vs1, d1, ds1, p1, q1, rfl, rfl, rfl, h1, r1⟩ := trodAll_cons r0
  obtain ⟨v2, vs2, d2, ds2, p2, q2, rfl, rfl, rfl, h2, r2⟩ := trodAll_cons r1
  obtain ⟨v3, vs3, d3, ds3, p3, q3, rfl, rfl, rfl, h3, r3⟩ := trodAll_cons r2
  obtain ⟨rfl, rfl, rfl⟩ := trodAll_nil r3
  obtain rfl : args = #[v0, v1, v2, v3] := by cases args; simp_all
  obtain ⟨rfl, rfl⟩ := trodVars_none hV
  have k0 := h0
  have lt0 : ∀ x ∈ p0, x.block < W.heap.size := by obtain ⟨m, hm⟩ := k0; exact DataW.trod_lt m _ _ _ hm
  have k1 := h1
  have lt1 : ∀ x ∈ p1, x.block < W.heap.size := by obtain ⟨m, hm⟩ := k1; exact DataW.trod_lt m _ _ _ hm
  have k2 := h2
  have lt2 : ∀ x ∈ p2, x.block < W.heap.size := by obtain ⟨m, hm⟩ := k2; exact DataW.trod_lt m _ _ _ hm
  have k3 := h3
  have lt3 : ∀ x ∈ p3, x.block < W.heap.size := by obtain ⟨m, hm⟩ := k3; exact DataW.trod_lt m _ _ _ hm
  obtain ⟨n0, rfl, _, _, hw0⟩ := open_int Try.underlying2 (hval 0 2 v0 rfl rfl) h0
  obtain ⟨n1, rfl, _, _, hw1⟩ := open_int Try.underlying2 (hval 1 2 v1 rfl rfl) h1
  obtain ⟨hd, rfl⟩ := okWide_string Try.underlying9 (hval 2 9 v2 rfl rfl)
  obtain ⟨a3, l3, c3, rfl⟩ := okWide_slice Try.underlying32 (hval 3 32 v3 rfl rfl)
  obtain ⟨m3, t3⟩ := h3
  obtain ⟨u3, ss, e3, hs⟩ := open_strs t3
  obtain rfl : u3 = .slice a3 l3 c3 := by simpa [Value.cells] using e3.symm
  obtain rfl : l3 = ss.length := by have := hs.len; simpa [lenV] using this
  clear hA0 hval0
  refine (law6_any n0 n1 hd a3 c3 ss W hs (wf_i64 hw0).1 (wf_i64 hw0).2 (wf_i64 hw1).1 (wf_i64 hw1).2).mono fun e W' ⟨he, bel⟩ => ?_
  subst he
  exact ⟨_, rfl, _, _, _, [], _, [], hW', trodAll_mk1 (shut_bool Try.underlying4 _), (trodAll_cons_mk (Below.trod laidOut (by kernel_rfl) (of_decide_eq_true (by kernel_rfl)) k0 bel lt0) (trodAll_cons_mk (Below.trod laidOut (by kernel_rfl) (of_decide_eq_true (by kernel_rfl)) k1 bel lt1) (trodAll_cons_mk (Below.trod laidOut (by kernel_rfl) (of_decide_eq_true (by kernel_rfl)) k2 bel lt2) (trodAll_cons_mk (Below.trod laidOut (by kernel_rfl) (of_decide_eq_true (by kernel_rfl)) k3 bel lt3) trodAll_mk0)))), rfl, bel.frame _, fun h => by cases h⟩

theorem over : Rows.fnTakeScriptKeepsSeqMinusEventsRow.holds Try.pinned (OpenSpec.ofChange Rows.fnTakeScriptKeepsSeqMinusEventsSpec) :=
  OpenClaim.holds_of_wide 5 Try.f5 rfl rfl rfl rfl rfl rfl rfl ⟨rfl, rfl, rfl, rfl, rfl⟩ rfl rfl rfl rfl rfl (by kernel_rfl) Try.func5 (by kernel_rfl)
    (of_decide_eq_true (by kernel_rfl)) (by unfold Func.isWrapper; first | (rw [if_pos (by decide +kernel)]; kernel_rfl) | (rw [if_neg (by decide +kernel)]; exact ⟨rfl, rfl⟩))
    (fun os started H enc _ => lifted os started H enc)

/-- The statement. -/
theorem proved : Rows.FnTakeScriptKeepsSeqMinusEventsSaid := over
end Go.Proofs.Qxb6002912a.fnTakeScriptKeepsSeqMinusEvents
