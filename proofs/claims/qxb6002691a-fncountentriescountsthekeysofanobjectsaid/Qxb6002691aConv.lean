/-
  Seat b6002691a: []byte(s), and zzEscape of it.
-/
import Derived.Test.Qxb6002691aEsc2
import Derived.Test.Qxb6002691aMeas
import Derived.Lib.ConvBytes
namespace Go.Proofs.Qxb6002691a
open Go.RowKit
set_option linter.unusedSimpArgs false
set_option linter.unusedVariables false

theorem conv936 (w : World) (s : ByteArray) : Sem.run Try.prog (convert 9 36 (.string s)) w = .ok (.slice (some ⟨w.heap.size, 0, none⟩) s.size (grownCap w s.size 0 5)) (Lib.bytesWorld w 5 s) :=
  Lib.run_convert_string_bytes w 9 36 5 s Try.underlying9 Try.underlying36 Try.underlying5

def bytesOf (s : ByteArray) : List Int := s.data.toList.map fun b => (b.toNat : Int)
theorem bytesOf_len (s : ByteArray) : (bytesOf s).length = s.size := by
  unfold bytesOf; rw [List.length_map, Array.length_toList]; rfl
theorem bytesOf_rng (s : ByteArray) : ∀ c ∈ bytesOf s, 0 ≤ c ∧ c ≤ 255 := by
  intro c hc
  obtain ⟨b, _, rfl⟩ := List.mem_map.1 hc
  have := b.toNat_lt
  omega
theorem below_conv (w : World) (s : ByteArray) : Below w.heap.size w (Lib.bytesWorld w 5 s) :=
  ⟨rfl, rfl, rfl, by rw [Lib.bytesWorld_size]; omega, fun k hk => Lib.bytesWorld_at_old w 5 s k hk⟩
theorem range_conv (w : World) (s : ByteArray) : (Lib.bytesWorld w 5 s).rangeAt w.heap.size 0 ((bytesOf s).map (Value.int .u8)) := by
  intro j v hv
  have hj : j < s.size := by
    have := (List.getElem?_eq_some_iff.1 hv).1
    simpa [bytesOf_len] using this
  rw [Nat.zero_add, Lib.bytesWorld_cell w 5 s j hj, ← hv]
  have hj' : j < s.data.size := hj
  unfold bytesOf
  rw [List.map_map, List.getElem?_map, Array.getElem?_toList, List.getD, Array.getElem?_toList, Array.getElem?_eq_getElem hj']
  rfl

theorem escStr_any (base : Nat) (v : Value) (T : List Int) (cap : Nat) (s : ByteArray) (w : World) (hown : OwnB w base v T) (h0 : base ≤ w.heap.size) (hpb : ∀ k, v.ownBlock = some k → k < w.heap.size) (hn : T.length + 6 * s.size ≤ 1000000) :
    Calls Try.prog 26 #[v, .slice (some ⟨w.heap.size, 0, none⟩) s.size cap] (Lib.bytesWorld w 5 s) fun e w' => ∃ v', e = .returned v' ∧ OwnB w' base v' (T ++ (bytesOf s).flatMap esc1) ∧ Below base w w' := by
  have hb := below_conv w s
  have := escape2_any base v T w.heap.size 0 cap (bytesOf s) (Lib.bytesWorld w 5 s) (hown.belowG hb) (Nat.le_trans h0 hb.size) (by rw [Lib.bytesWorld_size]; omega) (fun e => by have := hpb _ e; omega) (range_conv w s) (bytesOf_rng s) (by rw [bytesOf_len]; exact hn)
  rw [bytesOf_len] at this
  refine this.mono ?_
  rintro e w' ⟨v', rfl, h1, h2⟩
  exact ⟨v', rfl, h1, (hb.mono h0).trans h2⟩

end Go.Proofs.Qxb6002691a
