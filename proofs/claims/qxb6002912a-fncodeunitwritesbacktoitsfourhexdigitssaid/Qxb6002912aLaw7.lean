/-
  Seat b6002912a: FnCodeUnitWritesBackToItsFourHexDigits answers true.
-/
import Derived.Test.Qxb6002912aPlain7
import Derived.Test.Qxb6002912aLaw6
namespace Go.Proofs.Qxb6002912a
open Go.RowKit
set_option linter.unusedSimpArgs false
set_option linter.unusedVariables false

theorem Try.info5 : (Try.prog.info? 5).map (fun i => (i.zero, i.size, i.bytes)) = some (some (.int .u8 0), 1, 1) := by kernel_rfl
theorem size5 : (Try.prog.info? 5).map (·.size) = some 1 := by kernel_rfl
theorem q22 (w : World) (a : Option Addr) (n c n' c' : Nat) : (binOp .neq 22 (.slice a n c) (.slice none n' c')).run Try.prog w = .ok (.bool (!a.isNone)) w := by
  simp only [binOp]
  simp [Op.equal, Op.maxDepth, Lib.run_equalIn_slice_nil w 9999 22 _ a n c n' c' Try.underlying22]

set_option maxHeartbeats 400000 in
theorem zzunit_any (g o cap : Nat) (bs : List Int) (w : World) (h : w.rangeAt g o (bs.map (Value.int .u8))) (hl : 4 ≤ bs.length) (hlc : bs.length ≤ cap) (hm : cap ≤ 9223372036854775807) (hx : ∀ i (hi : i < bs.length), i < 4 → isHex bs[i]) :
    Calls Try.prog 8 #[.slice (some ⟨g, o, none⟩) bs.length cap] w fun e w' => e = .returned (.int .i32 (val bs 4)) ∧ w' = w := by
  have hc := unit_any g o cap bs w h hl hlc hm hx
  generalize val bs 4 = V at *
  go_enter Try.func8, Try.ntmps8
  go_wp2_with fail
  refine hc.mono ?_
  rintro e w1 ⟨rfl, rfl⟩
  go_wp2
  go_ret
  exact ⟨rfl, rfl⟩

theorem ints_one (bs : List Int) : ∀ v ∈ bs.map (Value.int .u8), v.oneCell' = true := by
  intro v hv
  obtain ⟨s, _, rfl⟩ := List.mem_map.1 hv
  rfl
theorem copyB_run {w w1 : World} {g b o cap : Nat} {cur : List Value} {bs : List Int} (h : w1.rangeAt b o (bs.map (Value.int .u8))) (hcur : w1.heap[g]? = some (.cells cur.toArray 5 (0, 0))) (hc : cur.length = bs.length) (hb : Below g w w1) :
    ∃ w2, Sem.run Try.prog (Builtin.copy_ #[22, 22] 3 #[.slice (some ⟨g, 0, none⟩) bs.length bs.length, .slice (some ⟨b, o, none⟩) bs.length cap]) w1 = .ok (goInt bs.length) w2 ∧ w2.rangeAt g 0 (bs.map (Value.int .u8)) ∧ Below g w w2 := by
  refine ⟨w1.setRow g (cur.toArray.toList.take 0 ++ bs.map (Value.int .u8) ++ cur.toArray.toList.drop (0 + (bs.map (Value.int .u8)).length)).toArray, ?_, ?_, ?_⟩
  · rw [run_copy_row Try.prog w1 22 22 3 5 g 0 _ _ ⟨b, o, none⟩ _ _ cur.toArray 5 (bs.map (Value.int .u8)) Try.underlying22 size5 hcur (by rw [List.length_map]; exact (Nat.min_self _).symm) (fun j v hv => by rw [Addr.add_mid]; exact h j v hv) (by simp [hc]) (ints_one bs), List.length_map]
  · intro j v hv
    have hh := setRow_heap w1 g _ (cur.toArray.toList.take 0 ++ bs.map (Value.int .u8) ++ cur.toArray.toList.drop (0 + (bs.map (Value.int .u8)).length)).toArray 5 _ hcur
    rw [Nat.zero_add j, cell_of_row _ g j _ 5 (0, 0) hh]
    have e : cur.toArray.toList.take 0 ++ bs.map (Value.int .u8) ++ cur.toArray.toList.drop (0 + (bs.map (Value.int .u8)).length) = bs.map (Value.int .u8) := by simp [hc]
    rw [e]
    simpa using hv
  · exact below_setRow hb (Nat.le_refl _) _

end Go.Proofs.Qxb6002912a
