/-
  Seat b6604712a: what an argument that can be read holds in memory.
-/
import Derived.Test.Qxb6604712aClone5
import Derived.ProofKit
import Derived.OpenShut
namespace Go.Proofs.Qxb6604712a
open Go.RowKit
set_option linter.unusedSimpArgs false
set_option linter.unusedVariables false

theorem Try.cells2 : Try.prog.cellsOf 2 = 1 := by kernel_rfl
theorem Try.cells3 : Try.prog.cellsOf 3 = 1 := by kernel_rfl
theorem Try.cells4 : Try.prog.cellsOf 4 = 1 := by kernel_rfl
theorem Try.cells5 : Try.prog.cellsOf 5 = 1 := by kernel_rfl
theorem Try.cells40 : Try.prog.cellsOf 40 = 32 := by kernel_rfl
theorem Try.cells41 : Try.prog.cellsOf 41 = 1 := by kernel_rfl
theorem Try.cells43 : Try.prog.cellsOf 43 = 35 := by kernel_rfl
theorem Try.cells23 : Try.prog.cellsOf 23 = 1 := by kernel_rfl
theorem Try.cells110 : Try.prog.cellsOf 110 = 33 := by kernel_rfl
theorem Try.cells57 : Try.prog.cellsOf 57 = 1 := by kernel_rfl
theorem Try.cells126 : Try.prog.cellsOf 126 = 1 := by kernel_rfl
theorem Try.cells60 : Try.prog.cellsOf 60 = 1 := by kernel_rfl
theorem Try.cells59 : Try.prog.cellsOf 59 = 47 := by kernel_rfl
theorem Try.cells62 : Try.prog.cellsOf 62 = 49 := by kernel_rfl

section
variable {H : Type} {enc : TypeId × Value → H} {w : World} {spare : Nat → Bool} {held : Bool}

theorem chop (cs : List Value) (o s : Nat) : cs.drop o = (cs.drop o).take s ++ cs.drop (o + s) := by
  rw [← List.drop_drop, List.take_append_drop]

/-- A slice that can be read, its elements of size s each by f. -/
theorem open_row {α : Type} (f : α → List Value) (ok : α → Prop) (t e s : Nat) (ht : Try.prog.underlying t = some (.slice e)) (hs : Try.prog.cellsOf e = s) (h0 : 0 < s) (hlen : ∀ a, ok a → (f a).length = s)
    (hel : ∀ (n : Nat) (cs : List Value) (x : DataW H × List MemPlace), DataW.trod enc Try.prog w 0 spare held n e cs = some x → ∃ a, cs = f a ∧ ok a)
    {fuel : Nat} {cs : List Value} {x : DataW H × List MemPlace} (h : DataW.trod enc Try.prog w 0 spare held fuel t cs = some x) :
    ∃ (v : Value) (xs : List α), cs = [v] ∧ sliceAt w s v xs.length (xs.flatMap f) ∧ ∀ a ∈ xs, ok a := by
  rcases DataW.trod_slice ht h with ⟨rfl, _⟩ | ⟨a, len, cap, elems, rest, n, _, rfl, _, _, hlc, hcm, hle, hel2, _⟩
  · exact ⟨_, [], rfl, ⟨none, 0, rfl, by simp, by simp, .inl rfl⟩, by simp⟩
  · rw [hs] at hel2
    have hex : ∀ i, i < len → ∃ y : α, ok y ∧ ∀ j, j < s → w.cell? ((a.add (i * s)).add j) = (f y)[j]? := by
      intro i hi
      have h1 := hel2 i hi
      rw [List.getElem?_eq_getElem (by omega)] at h1
      obtain ⟨cs', hc1, hc2⟩ := Option.bind_eq_some_iff.1 h1
      obtain ⟨y, rfl, hy⟩ := hel n cs' _ hc2
      exact ⟨y, hy, (World.cells?_some hc1).2.2⟩
    have hlst : ∃ xs : List α, xs.length = len ∧ (∀ y ∈ xs, ok y) ∧ ∀ i (hi : i < xs.length), ∀ j, j < s → w.cell? ((a.add (i * s)).add j) = (f xs[i])[j]? := by
      have : ∀ m, m ≤ len → ∃ xs : List α, xs.length = m ∧ (∀ y ∈ xs, ok y) ∧ ∀ i (hi : i < xs.length), ∀ j, j < s → w.cell? ((a.add (i * s)).add j) = (f xs[i])[j]? := by
        intro m
        induction m with
        | zero => intro _; exact ⟨[], rfl, by simp, by simp⟩
        | succ m ih =>
          intro hm
          obtain ⟨xs, h1, h2, h3⟩ := ih (by omega)
          obtain ⟨y, hy, hyc⟩ := hex m (by omega)
          refine ⟨xs ++ [y], by simp [h1], ?_, ?_⟩
          · intro z hz
            rcases List.mem_append.1 hz with hz | hz
            · exact h2 z hz
            · simp at hz; rw [hz]; exact hy
          · intro i hi j hj
            by_cases hlt : i < xs.length
            · rw [List.getElem_append_left hlt]; exact h3 i hlt j hj
            · have : i = m := by simp at hi; omega
              subst this
              rw [List.getElem_append_right (by omega)]
              simp [h1]; exact hyc j hj
      exact this len (Nat.le_refl _)
    obtain ⟨xs, hx1, hx2, hx3⟩ := hlst
    have hm : len ≤ 9223372036854775807 := by unfold maxLen at hcm; omega
    have hfl := flat_len f s xs (fun y hy => hlen y (hx2 y hy))
    refine ⟨_, xs, rfl, ⟨some a, cap, by rw [hx1], by rw [hfl], by omega, ?_⟩, hx2⟩
    by_cases hz : len = 0
    · left; omega
    · right
      obtain ⟨b, o, sp⟩ := a
      have hsp : sp = none := by
        have := hx3 0 (by omega) 0 h0
        rw [List.getElem?_eq_getElem (by rw [hlen _ (hx2 _ (List.getElem_mem _))]; exact h0)] at this
        simpa [Addr.add] using World.cell?_spot this
      subst hsp
      refine ⟨b, o, rfl, fun j v hv => ?_⟩
      have hj : j < xs.length * s := by rw [← hfl]; exact (List.getElem?_eq_some_iff.1 hv).1
      have hi : j / s < xs.length := Nat.div_lt_of_lt_mul (by rw [Nat.mul_comm]; exact hj)
      have hmod := Nat.mod_lt j h0
      have e : j = j / s * s + j % s := by rw [Nat.mul_comm]; exact (Nat.div_add_mod j s).symm
      have := hx3 (j / s) hi (j % s) hmod
      rw [Addr.add_mid, Addr.add_mid, Nat.add_assoc, ← e] at this
      rw [this]
      rw [e, flat_get f s xs (fun y hy => hlen y (hx2 y hy)) _ _ hi hmod] at hv
      exact hv

theorem open_bytes {fuel : Nat} {cs : List Value} {x : DataW H × List MemPlace} (h : DataW.trod enc Try.prog w 0 spare held fuel 41 cs = some x) : ∃ (v : Value) (bs : List Int), cs = [v] ∧ bytesAt w v bs := by
  obtain ⟨v, xs, h1, h2, _⟩ := open_row (fun n : Int => [Value.int .u8 n]) (fun _ => True) 41 5 1 Try.underlying41 Try.cells5 (by omega) (fun _ _ => rfl) (fun n cs x h => by
    obtain ⟨m, hm, _⟩ := DataW.trod_int Try.underlying5 h; exact ⟨m, hm, trivial⟩) h
  exact ⟨v, xs, h1, by unfold bytesAt; rw [List.map_eq_flatMap]; exact h2⟩
theorem open_words {fuel : Nat} {cs : List Value} {x : DataW H × List MemPlace} (h : DataW.trod enc Try.prog w 0 spare held fuel 60 cs = some x) : ∃ (v : Value) (ws : List Int), cs = [v] ∧ sliceAt w 1 v ws.length (ws.map (Value.int .u64)) := by
  obtain ⟨v, xs, h1, h2, _⟩ := open_row (fun n : Int => [Value.int .u64 n]) (fun _ => True) 60 126 1 Try.underlying60 Try.cells126 (by omega) (fun _ _ => rfl) (fun n cs x h => by
    obtain ⟨m, hm, _⟩ := DataW.trod_int Try.underlying126 h; exact ⟨m, hm, trivial⟩) h
  exact ⟨v, xs, h1, by rw [List.map_eq_flatMap]; exact h2⟩
theorem open_ids {fuel : Nat} {cs : List Value} {x : DataW H × List MemPlace} (h : DataW.trod enc Try.prog w 0 spare held fuel 40 cs = some x) : ∃ id : List Int, cs = id.map (Value.int .u8) ∧ id.length = 32 := by
  obtain ⟨xs, m, _, _, hl, hx, hel⟩ := DataW.trod_array Try.underlying40 h
  rw [Try.cells40] at hl
  rw [Try.cells5] at hel
  have hex : ∀ i, i < 32 → ∃ n : Int, cs[i]? = some (.int .u8 n) := by
    intro i hi
    have h1 := hel i hi
    rw [List.getElem?_eq_getElem (by omega)] at h1
    obtain ⟨n, hn, _⟩ := DataW.trod_int Try.underlying5 h1
    refine ⟨n, ?_⟩
    have := congrArg (·[0]?) hn
    simpa [Nat.mul_one, List.getElem?_take, List.getElem?_drop] using this
  have : ∀ l : List Value, (∀ v ∈ l, ∃ n : Int, v = .int .u8 n) → ∃ id : List Int, l = id.map (Value.int .u8) := by
    intro l
    induction l with
    | nil => intro _; exact ⟨[], rfl⟩
    | cons v l ih =>
      intro hv
      obtain ⟨n, rfl⟩ := hv v (by simp)
      obtain ⟨id, rfl⟩ := ih (fun u hu => hv u (by simp [hu]))
      exact ⟨n :: id, rfl⟩
  obtain ⟨id, hid⟩ := this cs (fun v hv => by
    obtain ⟨i, hi, rfl⟩ := List.mem_iff_getElem.1 hv
    obtain ⟨n, hn⟩ := hex i (by omega)
    rw [List.getElem?_eq_getElem hi] at hn
    exact ⟨n, Option.some.inj hn⟩)
  exact ⟨id, hid, by rw [hid] at hl; simpa using hl⟩

theorem fld {t : Nat} {fs : Array Field} (ht : Try.prog.underlying t = some (.struct fs)) {fuel : Nat} {cs : List Value} {x : DataW H × List MemPlace} (h : DataW.trod enc Try.prog w 0 spare held fuel t cs = some x) :
    ∃ n, cs.length = Try.prog.cellsOf t ∧ ∀ (i ft o s : Nat), (fs[i]?).map (fun f => (f.type, f.offset)) = some (ft, o) → Try.prog.cellsOf ft = s → ∃ y, DataW.trod enc Try.prog w 0 spare held n ft ((cs.drop o).take s) = some y := by
  obtain ⟨xs, n, _, _, hl, hx, hf⟩ := DataW.trod_struct ht h
  refine ⟨n, hl, fun i ft o s hfi hs => ?_⟩
  obtain ⟨f, hfi, hfe⟩ := Option.map_eq_some_iff.1 hfi
  have hi : i < xs.length := by rw [hx]; exact (Array.getElem?_eq_some_iff.1 hfi).1
  have h1 := hf i f hfi
  have e1 : f.type = ft := congrArg Prod.fst hfe
  have e2 : f.offset = o := congrArg Prod.snd hfe
  rw [e1, e2, hs] at h1
  exact ⟨xs[i], by rw [h1, List.getElem?_eq_getElem hi]⟩

theorem open_vote {fuel : Nat} {cs : List Value} {x : DataW H × List MemPlace} (h : DataW.trod enc Try.prog w 0 spare held fuel 43 cs = some x) : ∃ v : VoteD, cs = v.cells ∧ v.ok w := by
  obtain ⟨n, hl, hf⟩ := fld Try.underlying43 h
  rw [Try.cells43] at hl
  obtain ⟨y0, h0⟩ := hf 0 3 0 1 rfl Try.cells3
  obtain ⟨y1, h1⟩ := hf 1 40 1 32 rfl Try.cells40
  obtain ⟨y2, h2⟩ := hf 2 41 33 1 rfl Try.cells41
  obtain ⟨y3, h3⟩ := hf 3 41 34 1 rfl Try.cells41
  obtain ⟨f, e0, _⟩ := DataW.trod_int Try.underlying3 h0
  obtain ⟨id, e1, hid⟩ := open_ids h1
  obtain ⟨v2, b2, e2, k2⟩ := open_bytes h2
  obtain ⟨v3, b3, e3, k3⟩ := open_bytes h3
  refine ⟨⟨f, id, v2, v3⟩, ?_, hid, ⟨b2, k2⟩, ⟨b3, k3⟩⟩
  have q0 := chop cs 0 1
  have q1 := chop cs 1 32
  have q2 := chop cs 33 1
  have q3 := chop cs 34 1
  rw [e0] at q0
  rw [e1] at q1
  rw [e2] at q2
  rw [e3, List.drop_eq_nil_of_le (show cs.length ≤ 34 + 1 by omega)] at q3
  rw [List.drop_zero] at q0
  rw [q0, q1, q2, q3]
  simp [VoteD.cells]
theorem open_votes {fuel : Nat} {cs : List Value} {x : DataW H × List MemPlace} (h : DataW.trod enc Try.prog w 0 spare held fuel 23 cs = some x) : ∃ v vs, cs = [v] ∧ votesAt w v vs := by
  obtain ⟨v, xs, h1, h2, h3⟩ := open_row VoteD.cells (fun v => v.ok w) 23 43 35 Try.underlying23 Try.cells43 (by omega) (fun a ha => VoteD.cells_len ha.1) (fun n cs x h => open_vote h) h
  exact ⟨v, xs, h1, h2, h3⟩
theorem open_pow {fuel : Nat} {cs : List Value} {x : DataW H × List MemPlace} (h : DataW.trod enc Try.prog w 0 spare held fuel 110 cs = some x) : ∃ v : PowD, cs = v.cells ∧ v.id.length = 32 := by
  obtain ⟨n, hl, hf⟩ := fld Try.underlying110 h
  rw [Try.cells110] at hl
  obtain ⟨y0, h0⟩ := hf 0 40 0 32 rfl Try.cells40
  obtain ⟨y1, h1⟩ := hf 1 2 32 1 rfl Try.cells2
  obtain ⟨id, e0, hid⟩ := open_ids h0
  obtain ⟨f, e1, _⟩ := DataW.trod_int Try.underlying2 h1
  refine ⟨⟨id, f⟩, ?_, hid⟩
  have q0 := chop cs 0 32
  have q1 := chop cs 32 1
  rw [e0] at q0
  rw [e1, List.drop_eq_nil_of_le (show cs.length ≤ 32 + 1 by omega)] at q1
  rw [List.drop_zero] at q0
  rw [q0, q1]
  simp [PowD.cells]
theorem open_powers {fuel : Nat} {cs : List Value} {x : DataW H × List MemPlace} (h : DataW.trod enc Try.prog w 0 spare held fuel 57 cs = some x) : ∃ v vs, cs = [v] ∧ powersAt w v vs := by
  obtain ⟨v, xs, h1, h2, h3⟩ := open_row PowD.cells (fun v => v.id.length = 32) 57 110 33 Try.underlying57 Try.cells110 (by omega) (fun a ha => PowD.cells_len ha) (fun n cs x h => open_pow h) h
  exact ⟨v, xs, h1, h2, h3⟩

set_option maxRecDepth 10000 in
theorem open_refill {fuel : Nat} {cs : List Value} {x : DataW H × List MemPlace} (h : DataW.trod enc Try.prog w 0 spare held fuel 59 cs = some x) :
    ∃ (r : RefD) (bv bg : List Int) (vs1 vs2 : List VoteD) (ps1 ps2 : List PowD), cs = r.cells ∧ r.Ok w bv bg vs1 vs2 ps1 ps2 := by
  obtain ⟨n, hl, hf⟩ := fld Try.underlying59 h
  rw [Try.cells59] at hl
  obtain ⟨y0, h0⟩ := hf 0 4 0 1 rfl Try.cells4
  obtain ⟨y1, h1⟩ := hf 1 41 1 1 rfl Try.cells41
  obtain ⟨y2, h2⟩ := hf 2 40 2 32 rfl Try.cells40
  obtain ⟨y3, h3⟩ := hf 3 3 34 1 rfl Try.cells3
  obtain ⟨y4, h4⟩ := hf 4 41 35 1 rfl Try.cells41
  obtain ⟨y5, h5⟩ := hf 5 4 36 1 rfl Try.cells4
  obtain ⟨y6, h6⟩ := hf 6 4 37 1 rfl Try.cells4
  obtain ⟨y7, h7⟩ := hf 7 4 38 1 rfl Try.cells4
  obtain ⟨y8, h8⟩ := hf 8 4 39 1 rfl Try.cells4
  obtain ⟨y9, h9⟩ := hf 9 4 40 1 rfl Try.cells4
  obtain ⟨y10, h10⟩ := hf 10 23 41 1 rfl Try.cells23
  obtain ⟨y11, h11⟩ := hf 11 23 42 1 rfl Try.cells23
  obtain ⟨y12, h12⟩ := hf 12 57 43 1 rfl Try.cells57
  obtain ⟨y13, h13⟩ := hf 13 57 44 1 rfl Try.cells57
  obtain ⟨y14, h14⟩ := hf 14 2 45 1 rfl Try.cells2
  obtain ⟨y15, h15⟩ := hf 15 2 46 1 rfl Try.cells2
  obtain ⟨x_hp, e0, _⟩ := DataW.trod_bool Try.underlying4 h0
  obtain ⟨x_value, b_value, e1, k_value⟩ := open_bytes h1
  obtain ⟨x_id, e2, hid⟩ := open_ids h2
  obtain ⟨x_vr, e3, _⟩ := DataW.trod_int Try.underlying3 h3
  obtain ⟨x_sig, b_sig, e4, k_sig⟩ := open_bytes h4
  obtain ⟨x_c1, e5, _⟩ := DataW.trod_bool Try.underlying4 h5
  obtain ⟨x_c2, e6, _⟩ := DataW.trod_bool Try.underlying4 h6
  obtain ⟨x_c3, e7, _⟩ := DataW.trod_bool Try.underlying4 h7
  obtain ⟨x_c4, e8, _⟩ := DataW.trod_bool Try.underlying4 h8
  obtain ⟨x_c5, e9, _⟩ := DataW.trod_bool Try.underlying4 h9
  obtain ⟨x_pv, l_pv, e10, k_pv⟩ := open_votes h10
  obtain ⟨x_pc, l_pc, e11, k_pc⟩ := open_votes h11
  obtain ⟨x_pp, l_pp, e12, k_pp⟩ := open_powers h12
  obtain ⟨x_cp, l_cp, e13, k_cp⟩ := open_powers h13
  obtain ⟨x_pt, e14, _⟩ := DataW.trod_int Try.underlying2 h14
  obtain ⟨x_ct, e15, _⟩ := DataW.trod_int Try.underlying2 h15
  refine ⟨⟨x_hp, x_value, x_id, x_vr, x_sig, x_c1, x_c2, x_c3, x_c4, x_c5, x_pv, x_pc, x_pp, x_cp, x_pt, x_ct⟩, b_value, b_sig, l_pv, l_pc, l_pp, l_cp, ?_, hid, k_value, k_sig, k_pv, k_pc, k_pp, k_cp⟩
  have q0 := chop cs 0 1
  rw [e0] at q0
  have q1 := chop cs 1 1
  rw [e1] at q1
  have q2 := chop cs 2 32
  rw [e2] at q2
  have q3 := chop cs 34 1
  rw [e3] at q3
  have q4 := chop cs 35 1
  rw [e4] at q4
  have q5 := chop cs 36 1
  rw [e5] at q5
  have q6 := chop cs 37 1
  rw [e6] at q6
  have q7 := chop cs 38 1
  rw [e7] at q7
  have q8 := chop cs 39 1
  rw [e8] at q8
  have q9 := chop cs 40 1
  rw [e9] at q9
  have q10 := chop cs 41 1
  rw [e10] at q10
  have q11 := chop cs 42 1
  rw [e11] at q11
  have q12 := chop cs 43 1
  rw [e12] at q12
  have q13 := chop cs 44 1
  rw [e13] at q13
  have q14 := chop cs 45 1
  rw [e14] at q14
  have q15 := chop cs 46 1
  rw [e15, List.drop_eq_nil_of_le (show cs.length ≤ 46 + 1 by omega)] at q15
  rw [List.drop_zero] at q0
  rw [q0, q1, q2, q3, q4, q5, q6, q7, q8, q9, q10, q11, q12, q13, q14, q15]
  simp [RefD.cells]

theorem open_fill {fuel : Nat} {cs : List Value} {x : DataW H × List MemPlace} (h : DataW.trod enc Try.prog w 0 spare held fuel 62 cs = some x) :
    ∃ (f : FillD) (bv bg : List Int) (vs1 vs2 : List VoteD) (ps1 ps2 : List PowD) (sw : List Int), cs = f.cells ∧ f.body.Ok w bv bg vs1 vs2 ps1 ps2 ∧ sliceAt w 1 f.sn sw.length (sw.map (Value.int .u64)) := by
  obtain ⟨n, hl, hf⟩ := fld Try.underlying62 h
  rw [Try.cells62] at hl
  obtain ⟨y0, h0⟩ := hf 0 59 0 47 rfl Try.cells59
  obtain ⟨y1, h1⟩ := hf 1 60 47 1 rfl Try.cells60
  obtain ⟨y2, h2⟩ := hf 2 2 48 1 rfl Try.cells2
  obtain ⟨r, bv, bg, vs1, vs2, ps1, ps2, e0, hok⟩ := open_refill h0
  obtain ⟨v, ws, e1, hw⟩ := open_words h1
  obtain ⟨sp, e2, _⟩ := DataW.trod_int Try.underlying2 h2
  refine ⟨⟨r, v, sp⟩, bv, bg, vs1, vs2, ps1, ps2, ws, ?_, hok, hw⟩
  have q0 := chop cs 0 47
  have q1 := chop cs 47 1
  have q2 := chop cs 48 1
  rw [e0] at q0
  rw [e1] at q1
  rw [e2, List.drop_eq_nil_of_le (show cs.length ≤ 48 + 1 by omega)] at q2
  rw [List.drop_zero] at q0
  rw [q0, q1, q2]
  simp [FillD.cells]

end
end Go.Proofs.Qxb6604712a
