/-
  Seat b6002691a: zzPad, zzAppendUint.
-/
import Derived.Test.Qxb6002691aPlain5
namespace Go.Proofs.Qxb6002691a
open Go.RowKit
set_option linter.unusedSimpArgs false
set_option linter.unusedVariables false

theorem wrapsU64 (n : Int) (h0 : 0 ≤ n) (h1 : n < 2 ^ 64) : IntKind.u64.wrap n = n := by rw [IntKind.wrap_u64]; omega
theorem and3 (x : Int) (h0 : 0 ≤ x) (h1 : x ≤ 18446744073709551615) : ∃ m : Nat, m ≤ 3 ∧ wrap64 (bits BinOp.and IntKind.u64 x 3) = (m : Int) := by
  have e : bits BinOp.and IntKind.u64 x 3 = x % 4 := bits_mask .u64 64 (by decide) wrapsU64 2 (by decide) x h0 (by omega)
  refine ⟨(x % 4).toNat, by omega, ?_⟩
  rw [e]; unfold wrap64; omega

/-- The value v owns the bytes xs. -/
def OwnB (w : World) (base : Nat) (v : Value) (xs : List Int) : Prop := w.ownsRow base 5 1 v xs.length (xs.map (Value.int .u8))
def PadRel (xs : List Int) (m base : Nat) (w : World) (b i : Value) (wr : World) : Prop := ∃ s : List Int, s.length ≤ m ∧ i = .int .i64 s.length ∧ (∀ c ∈ s, isSp c = true) ∧ OwnB wr base b (xs ++ s) ∧ Below base w wr
/-- What zzPad leaves. -/
def PadPost (xs : List Int) (base : Nat) (w : World) (v : Value) (w' : World) : Prop := ∃ s : List Int, (∀ c ∈ s, isSp c = true) ∧ s.length ≤ 3 ∧ OwnB w' base v (xs ++ s) ∧ Below base w w'
theorem pad_next {xs s : List Int} {m base : Nat} {w w1 : World} {b : Value} {c : Int} {n : Nat} (hsp : ∀ c ∈ s, isSp c = true) (hlt : s.length < m) (hown : w1.ownsRow base 5 1 b n ((xs ++ s).map (Value.int .u8) ++ [.int .u8 c])) (hn : n = xs.length + s.length + 1) (hb : Below base w w1) (hc : isSp c = true) :
    PadRel xs m base w b (.int .i64 ((s.length : Int) + 1)) w1 := by
  refine ⟨s ++ [c], by simp; omega, by simp, ?_, ?_, hb⟩
  · intro x hx
    rcases List.mem_append.1 hx with h | h
    · exact hsp x h
    · simp at h; rw [h]; exact hc
  · have e : xs ++ (s ++ [c]) = (xs ++ s) ++ [c] := by simp
    rw [e]
    unfold OwnB
    rw [List.length_append, List.length_append, List.map_append, List.length_singleton, ← hn]
    exact hown

set_option maxHeartbeats 1000000 in
theorem pad_any (base : Nat) (v : Value) (xs : List Int) (ws ks p : Int) (w : World) (hown : OwnB w base v xs) (h0 : base ≤ w.heap.size)
    (hw0 : 0 ≤ ws) (hw1 : ws ≤ 18446744073709551615) (hk0 : 0 ≤ ks) (hk1 : ks ≤ 18446744073709551615) (hp0 : 0 ≤ p) (hp1 : p ≤ 1000000) (hn : xs.length ≤ 1000000000) :
    Calls Try.prog 32 #[v, .int .u64 ws, .int .u64 ks, .int .i64 p] w fun e w' => ∃ v', e = .returned v' ∧ PadPost xs base w v' w' := by
  obtain ⟨i5, hi, hz0, hz1, hz2⟩ := info_parts Try.info5
  obtain ⟨m, hm3, hm⟩ := and3 (ws / 2 ^ (p % 32 * 2).toNat) (Int.ediv_nonneg hw0 (by exact_mod_cast Nat.zero_le _)) (Int.le_trans (Int.ediv_le_self _ hw0) hw1)
  go_enter Try.func32, Try.ntmps32
  go_wp2
  all_goals
    go_loopw [0, 12] (fun b i wr => PadRel xs m base w b i wr) (fun _ i _ => m - (intOf i).toNat)
    case atStart => exact ⟨[], Nat.zero_le _, rfl, by simp, by simpa [OwnB] using hown, Below.refl _ _⟩
    case round =>
      obtain ⟨s, hk, rfl, hsp, hown, hb⟩ := hrel
      have hsz : base ≤ wr.heap.size := Nat.le_trans h0 hb.size
      have hll : (xs ++ s).length ≤ 1000000010 := by simp; omega
      have HSP : Hid (∀ c ∈ s, isSp c = true) := hsp
      clear hsp
      by_cases hlt : s.length < m
      · have hlt' : (s.length : Int) < (m : Int) := by omega
        go_wp2_with (at_builtin; refine wpList_append_lies _ rfl (.tmp 37) (.tmp 39) 36 rfl base 5 i5 (.int .u8 0) 1 1 Try.underlying36 hi hz0 hz1 hz2 rfl (by decide) _ _ _ rfl (World.ownsRow.alloc hown _) ⟨wr.heap.size, 0, none⟩ 1 1 _ rfl rfl (World.news_of_block (heap_alloc_new wr _)) (by simp [Value.oneCell']) (by omega) (by unfold maxLen; omega) (by omega) (by simp; omega) _ rfl ?_; intro g1 cap1 w1 hown1 hgrow1 hat1 hlt1)
        have hb1 := own_below (hb.alloc hsz _) h0 (World.ownsRow.alloc hown _) hgrow1
        clear hgrow1 hat1 hown hb
        go_wp2
        go_roundw
        case rel =>
          rw [List.length_append] at hown1
          exact pad_next HSP.out hlt hown1 rfl hb1 (by decide)
        case measure => simp [intOf]; omega
      · have hlt' : ¬ (s.length : Int) < (m : Int) := by omega
        go_wp2
        go_ret
        exact ⟨_, rfl, s, HSP.out, by omega, hown, hb⟩

end Go.Proofs.Qxb6002691a
