/-
  Seat b6002691a: zzStringsBytes, zzBytes, zzMin, ZZCountEntries.
-/
import Derived.Test.Qxb6002691aStrs
namespace Go.Proofs.Qxb6002691a
open Go.RowKit
set_option linter.unusedSimpArgs false
set_option linter.unusedVariables false

def tot (ss : List ByteArray) : Nat := (ss.map fun s => 16 + s.size).sum
theorem tot_next {ss : List ByteArray} {k : Nat} (h : k < ss.length) : tot (ss.take (k + 1)) = tot (ss.take k) + (16 + ss[k].size) := by
  unfold tot
  rw [List.take_succ_eq_append_getElem h, List.map_append, List.sum_append]; simp

theorem strsAt.cellAt {w : World} {a : Option Addr} {n cap : Nat} {ss : List ByteArray} (h : strsAt w (.slice a n cap) ss) {k : Nat} (hk : k < ss.length) : ∃ b o, a = some ⟨b, o, none⟩ ∧ w.cell? ⟨b, o + k, none⟩ = some (.string ss[k]) := by
  obtain ⟨a', cap', hv, h1, h2, h3⟩ := h
  cases hv
  rcases h3 with h | ⟨b, o, rfl, h⟩
  · omega
  · exact ⟨b, o, rfl, h k _ (by simp [hk])⟩
theorem wordsAt.cellAt {w : World} {a : Option Addr} {n cap : Nat} {ss : List Int} (h : wordsAt w (.slice a n cap) ss) {k : Nat} (hk : k < ss.length) : ∃ b o, a = some ⟨b, o, none⟩ ∧ w.cell? ⟨b, o + k, none⟩ = some (.int .u64 ss[k]) := by
  obtain ⟨a', cap', hv, h1, h2, h3⟩ := h
  cases hv
  rcases h3 with h | ⟨b, o, rfl, h⟩
  · omega
  · exact ⟨b, o, rfl, h k _ (by simp [hk])⟩

def SbRel (ss : List ByteArray) (w : World) (n i : Value) (wr : World) : Prop := ∃ k : Nat, k ≤ ss.length ∧ i = .int .i64 k ∧ n = .int .i64 (tot (ss.take k)) ∧ tot (ss.take k) ≤ 1048576 ∧ wr = w

set_option maxHeartbeats 1000000 in
theorem strBytes_any (a : Option Addr) (cap : Nat) (ss : List ByteArray) (w : World) (h : strsAt w (.slice a ss.length cap) ss) (hl : ss.length ≤ 1048576) :
    Calls Try.prog 12 #[.slice a ss.length cap] w fun e w' => (∃ z : Nat, e = .returned (.int .i64 z) ∧ (z = 1048577 ∨ z = tot ss ∧ z ≤ 1048576)) ∧ w' = w := by
  go_enter Try.func12, Try.ntmps12
  go_wp2
  go_loopw [3, 4] (fun n i wr => SbRel ss w n i wr) (fun _ i _ => ss.length - (intOf i).toNat)
  case atStart => exact ⟨0, Nat.zero_le _, rfl, rfl, by simp [tot], rfl⟩
  case round =>
    obtain ⟨k, hk, rfl, rfl, hn, rfl⟩ := hrel
    by_cases hlt : k < ss.length
    · obtain ⟨b, o, rfl, hck⟩ := h.cellAt hlt
      obtain ⟨s, hs⟩ : ∃ s, ss[k] = s := ⟨_, rfl⟩
      have HN : Hid (tot (ss.take (k + 1)) = tot (ss.take k) + (16 + s.size)) := by show _ = _; rw [tot_next hlt, hs]
      rw [hs] at hck
      obtain ⟨T, hT⟩ : ∃ T, tot (ss.take k) = T := ⟨_, rfl⟩
      have HN2 : Hid (tot (ss.take (k + 1)) = T + (16 + s.size)) := by show _ = _; rw [HN.out, hT]
      rw [hT] at hn ⊢
      clear hs hT HN
      have hlt' : (k : Int) < (ss.length : Int) := by omega
      by_cases hz : s.size ≤ 1048576
      · have hz' : (s.size : Int) ≤ 1048576 := by omega
        have hz2 : ¬ (1048576 : Int) < (s.size : Int) := by omega
        go_wp2
        · go_ret
          exact ⟨⟨1048577, rfl, .inl rfl⟩, rfl⟩
        · go_roundw
          case rel => exact ⟨k + 1, hlt, by go_num, by rw [HN2.out]; go_num, by rw [HN2.out]; omega, rfl⟩
          case measure => simp [intOf]; omega
      · have hz2 : (1048576 : Int) < (s.size : Int) := by omega
        go_wp2
        go_ret
        exact ⟨⟨1048577, rfl, .inl rfl⟩, rfl⟩
    · have hke : k = ss.length := by omega
      subst hke
      rw [List.take_length] at hn ⊢
      go_wp2
      go_ret
      exact ⟨⟨tot ss, rfl, .inr ⟨rfl, hn⟩⟩, rfl⟩

def ZbRel (ss : List ByteArray) (w : World) (n i : Value) (wr : World) : Prop := ∃ (k m : Nat), k ≤ ss.length ∧ i = .int .i64 k ∧ n = .int .i64 m ∧ m ≤ 1048576 ∧ wr = w

set_option maxHeartbeats 1000000 in
theorem bytes30 (a a2 : Option Addr) (cap l2 c2 : Nat) (ws ks : Int) (ss : List ByteArray) (w : World) (h : strsAt w (.slice a ss.length cap) ss) (hl2 : l2 ≤ 9223372036854775807) :
    Calls Try.prog 30 #[.slice a ss.length cap, .slice a2 l2 c2, .int .u64 ws, .int .u64 ks] w fun e w' => RetBool True e ∧ w' = w := by
  have hsl : ss.length ≤ 9223372036854775807 := by obtain ⟨_, _, _, _, h, _⟩ := h; exact h
  by_cases hbig : ss.length ≤ 1048576
  · have hbig' : ¬ (1048576 : Int) < (ss.length : Int) := by omega
    go_enter Try.func30, Try.ntmps30
    go_wp2
    go_loopw [9, 10] (fun n i wr => ZbRel ss w n i wr) (fun _ i _ => ss.length - (intOf i).toNat)
    case atStart => exact ⟨0, ss.length, Nat.zero_le _, rfl, rfl, hbig, rfl⟩
    case round =>
      obtain ⟨k, m, hk, rfl, rfl, hn, rfl⟩ := hrel
      by_cases hlt : k < ss.length
      · obtain ⟨b, o, rfl, hck⟩ := h.cellAt hlt
        obtain ⟨s, hs⟩ : ∃ s, ss[k] = s := ⟨_, rfl⟩
        rw [hs] at hck
        clear hs
        have hlt' : (k : Int) < (ss.length : Int) := by omega
        by_cases hz : s.size ≤ 1048576
        · have hz2 : ¬ (1048576 : Int) < (s.size : Int) := by omega
          have hz3 : (s.size : Int) ≤ 1048576 := by omega
          go_wp2
          · go_ret
            exact ⟨RetBool.no, rfl⟩
          · go_roundw
            case rel => exact ⟨k + 1, m + s.size, hlt, by go_num, by go_num, by omega, rfl⟩
            case measure => simp [intOf]; omega
        · have hz2 : (1048576 : Int) < (s.size : Int) := by omega
          go_wp2
          go_ret
          exact ⟨RetBool.no, rfl⟩
      · have hlt' : ¬ (k : Int) < (ss.length : Int) := by omega
        go_wp2
        all_goals
          go_ret
          exact ⟨⟨_, rfl, fun _ => trivial⟩, rfl⟩
  · have hbig' : (1048576 : Int) < (ss.length : Int) := by omega
    go_enter Try.func30, Try.ntmps30
    go_wp2
    go_ret
    exact ⟨RetBool.no, rfl⟩

set_option maxHeartbeats 400000 in
theorem min_any (x y : Nat) (w : World) : Calls Try.prog 31 #[.int .i64 x, .int .i64 y] w fun e w' => e = .returned (.int .i64 (min x y : Nat)) ∧ w' = w := by
  by_cases h : x < y
  · have h' : (x : Int) < (y : Int) := by omega
    rw [Nat.min_eq_left (by omega)]
    go_enter Try.func31, Try.ntmps31
    go_wp2
    go_ret
    exact ⟨rfl, rfl⟩
  · have h' : ¬ (x : Int) < (y : Int) := by omega
    rw [Nat.min_eq_right (by omega)]
    go_enter Try.func31, Try.ntmps31
    go_wp2
    go_ret
    exact ⟨rfl, rfl⟩

set_option maxHeartbeats 400000 in
theorem zzcount_any (a : Option Addr) (cap n : Nat) (D : List Int) (N : Nat) (w : World) (hn : D.length = n) (hD : bytesAt w (.slice a n cap) D) (hm : n ≤ 1099511627776) (hN : cnt (n + 1) D = N) :
    Calls Try.prog 29 #[.slice a n cap] w fun e w' => e = .returned (.int .i64 N) ∧ Below w.heap.size w w' := by
  subst hn
  have hc := count_any a cap D w hD hm
  rw [hN] at hc
  go_enter Try.func29, Try.ntmps29
  go_wp2_with fail
  refine hc.mono ?_
  rintro e w1 ⟨rfl, hb⟩
  go_wp2
  go_ret
  exact ⟨rfl, hb⟩

end Go.Proofs.Qxb6002691a
