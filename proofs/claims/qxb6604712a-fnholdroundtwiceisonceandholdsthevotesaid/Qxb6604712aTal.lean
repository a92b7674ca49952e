/-
  Seat b6604712a: buildTallies; modelHold at whatever votes.
-/
import Derived.Test.Qxb6604712aMtt
import Derived.Test.Qxb6604712aMtf
import Derived.Test.Qxb6604712aMft
import Derived.Test.Qxb6604712aMff
namespace Go.Proofs.Qxb6604712a
open Go.RowKit
set_option linter.unusedSimpArgs false
set_option linter.unusedVariables false

theorem modelHold_any (vh v1 v2 : Value) (hs : List HrD) (vs1 vs2 : List VoteD) (r f : Int) (w0 w : World) (h : heldAt w0 vh hs) (h1 : votesAt w0 v1 vs1) (h2 : votesAt w0 v2 vs2) (hb : Below w0.heap.size w0 w) (hn : hs.length ≤ 900) (n1 : vs1.length ≤ 1000000) (n2 : vs2.length ≤ 1000000) :
    Calls Try.prog 17 #[vh, .int .i64 r, v1, v2, .int .i64 f] w fun e w' => ∃ v', e = .returned v' ∧ sliceAt w' 73 v' (modelL hs r (findV vs1 f) (findV vs2 f)).length ((modelL hs r (findV vs1 f) (findV vs2 f)).flatMap HrD.cells) ∧ Below w.heap.size w w' := by
  cases p1 : (findV vs1 f).isSome <;> cases p2 : (findV vs2 f).isSome
  · exact model_ff vh v1 v2 hs vs1 vs2 r f w0 w h h1 h2 hb hn n1 n2 p1 p2
  · exact model_ft vh v1 v2 hs vs1 vs2 r f w0 w h h1 h2 hb hn n1 n2 p1 p2
  · exact model_tf vh v1 v2 hs vs1 vs2 r f w0 w h h1 h2 hb hn n1 n2 p1 p2
  · exact model_tt vh v1 v2 hs vs1 vs2 r f w0 w h h1 h2 hb hn n1 n2 p1 p2

/-- The record that buildTallies makes. -/
def talD (r : Int) (vs1 vs2 : List VoteD) : StD := { stZero r with vs1 := vs1, vs2 := vs2 }
theorem talD_eq (r : Int) (vs1 vs2 : List VoteD) : ((stZero r).addVs 1 vs1).addVs 2 vs2 = talD r vs1 vs2 := by
  simp [StD.addVs, talD, stZero]

set_option maxRecDepth 100000 in
set_option maxHeartbeats 2000000 in
theorem buildTallies_any (r : Int) (v1 v2 : Value) (vs1 vs2 : List VoteD) (w : World) (h1 : votesAt w v1 vs1) (h2 : votesAt w v2 vs2) (n1 : vs1.length ≤ 100000) (n2 : vs2.length ≤ 100000) :
    Calls Try.prog 13 #[.int .i64 r, v1, v2] w fun e w' => e = .returned (.pointer (some ⟨w.heap.size, 0, none⟩)) ∧ (∃ P, IsS w' P w.heap.size (talD r vs1 vs2)) ∧ Below w.heap.size w w' := by
  have H1 : Hid (votesAt w v1 vs1) := h1
  have H2 : Hid (votesAt w v2 vs2) := h2
  clear h1 h2
  go_enter Try.func13, Try.ntmps13
  go_wp2_with fail
  refine (newRound_any r w).mono ?_
  rintro e w1 ⟨rfl, hI, hb1⟩
  have a1 := addVotes_is w.heap.size 1 (.inl rfl) v1 vs1 _ (stZero r) w w1 H1.out (fun k hk => hk) hb1 hI (by simp [StD.vs, stZero]; omega)
  have B1 : Hid (Below w.heap.size w w1) := hb1
  clear hI hb1
  go_wp2_with fail
  refine a1.mono ?_
  rintro e w2 ⟨rfl, hI2, hS2⟩
  have B2 : Hid (Below w.heap.size w w2) := B1.out.trans (hS2.below (fun k hk => hk))
  have a2 := addVotes_is w.heap.size 2 (.inr rfl) v2 vs2 _ _ w w2 H2.out (fun k hk => hk) B2.out hI2 (by simp [StD.vs, StD.addVs, stZero]; omega)
  clear hI2 hS2 a1
  go_wp2_with fail
  refine a2.mono ?_
  rintro e w3 ⟨rfl, hI3, hS3⟩
  have B3 : Hid (Below w.heap.size w w3) := B2.out.trans (hS3.below (fun k hk => hk))
  have HI3 : Hid (∃ P, IsS w3 P w.heap.size (talD r vs1 vs2)) := ⟨_, by rw [← talD_eq]; exact hI3⟩
  clear hI3 hS3 a2
  go_wp2_with fail
  go_ret
  exact ⟨rfl, HI3.out, B3.out⟩
end Go.Proofs.Qxb6604712a
