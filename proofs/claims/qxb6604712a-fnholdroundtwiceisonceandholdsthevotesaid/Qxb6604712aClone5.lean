/-
  Seat b6604712a: cloneFill.
-/
import Derived.Test.Qxb6604712aClone4
namespace Go.Proofs.Qxb6604712a
open Go.RowKit
set_option linter.unusedSimpArgs false
set_option linter.unusedVariables false

theorem exec_build62 (ρ : Operand → Value) (x0 x1 x2 : Operand) (dst : Option Tmp) (ty : TypeId) (pos : String) (af : Array Edge) (gd : Option (Nat × Bool)) (w : World)
    (h0 : (ρ x0).cells.size = 47) (h1 : (ρ x1).cells.size = 1) (h2 : (ρ x2).cells.size = 1) :
    Sem.run Try.prog (execOp ρ ⟨dst, .build 62 #[(0, x0), (1, x1), (2, x2)], ty, pos, af, gd⟩) w = .ok (.value (.agg ((ρ x0).cells ++ (ρ x1).cells ++ (ρ x2).cells))) w := by
  have := run_build_at w 62 49 _ [ρ x0, ρ x1, ρ x2] places62 (by
    intro j hj
    match j, hj with
    | 0, _ => simp [flatV, h0]
    | 1, _ => simp [flatV, h0, h1]
    | 2, _ => simp [flatV, h0, h1, h2]) (by simp [flatV, h0, h1, h2])
  simp only [execOp, Sem.run_bind]
  have e : (Array.map (fun (p : Nat × Operand) => match p with | (i, x) => (i, ρ x)) #[(0, x0), (1, x1), (2, x2)]) = (([ρ x0, ρ x1, ρ x2].zipIdx).map fun p => (p.2, p.1)).toArray := by simp
  rw [e, this]
  simp [flatV]

attribute [local go_sem ↓] exec_load59 exec_build62 exec_store62
attribute [local go_sem] ptrB ptrO isPtr

/-- A Fill as its cells hold it. -/
structure FillD where
  body : RefD
  sn : Value
  sp : Int
def FillD.cells (f : FillD) : List Value := f.body.cells ++ [f.sn, .int .i64 f.sp]
theorem FillD.cells_len {f : FillD} (h : f.body.id.length = 32) : f.cells.length = 49 := by simp [FillD.cells, RefD.cells_len h]
theorem FillD.low {f : FillD} (h : f.body.id.length = 32) {i : Nat} (hi : i < 47) : f.cells[i]? = f.body.cells[i]? := by
  unfold FillD.cells; rw [List.getElem?_append_left (by rw [RefD.cells_len h]; exact hi)]
theorem FillD.g47 {f : FillD} (h : f.body.id.length = 32) : f.cells[47]? = some f.sn := by
  unfold FillD.cells; rw [List.getElem?_append_right (by rw [RefD.cells_len h]; omega), RefD.cells_len h]; rfl
theorem FillD.g48 {f : FillD} (h : f.body.id.length = 32) : f.cells[48]? = some (.int .i64 f.sp) := by
  unfold FillD.cells; rw [List.getElem?_append_right (by rw [RefD.cells_len h]; omega), RefD.cells_len h]; rfl

theorem one_app {l : List Value} (h : oneAll (.agg l.toArray) = true) (a : Option Addr) (n c : Nat) (z : Int) : oneAll (.agg (l ++ [Value.slice a n c, Value.int .i64 z]).toArray) = true := by
  have e1 : (Value.slice a n c).oneCell' = true := rfl
  have e2 : (Value.int .i64 z).oneCell' = true := rfl
  simp only [oneAll, Value.cells, List.all_toArray, List.all_append, List.all_cons, List.all_nil, e1, e2, Bool.and_true, Bool.and_self] at h ⊢
  exact h

/-- What stands while cloneFill goes on. -/
def SF (w : World) (f : FillD) (w' : World) : Prop :=
  rd w' w.heap.size 0 47 = f.body.cells.toArray ∧ canRd w' w.heap.size 0 47 ∧ w'.cell? ⟨w.heap.size, 47, none⟩ = some f.sn ∧ w'.cell? ⟨w.heap.size, 48, none⟩ = some (.int .i64 f.sp) ∧ w'.there (w.heap.size + 1) 0 49 ∧ Below w.heap.size w w'

theorem canRd_below {w w' : World} {b o n : Nat} (h : canRd w b o n) (hb : Below w.heap.size w w') : canRd w' b o n := fun j hj => by
  obtain ⟨u, hu⟩ := Option.isSome_iff_exists.1 (h j hj)
  rw [cell_below hu hb]; rfl
theorem rd_below {w w' : World} {b o n : Nat} (h : canRd w b o n) (hb : Below w.heap.size w w') : rd w' b o n = rd w b o n := by
  unfold rd
  congr 1
  refine List.map_congr_left fun j hj => ?_
  obtain ⟨u, hu⟩ := Option.isSome_iff_exists.1 (h j (by simpa using hj))
  rw [cell_below hu hb, hu]
theorem rd_setCells {w : World} {b o n b' : Nat} (hne : b ≠ b') (o' : Nat) (vs : List Value) : rd (w.setCells b' o' vs) b o n = rd w b o n := by
  unfold rd
  congr 1
  refine List.map_congr_left fun j hj => ?_
  rw [World.cell?_setCells_out _ _ _ _ _ (fun h => absurd h hne)]
theorem canRd_setCells {w : World} {b o n b' : Nat} (h : canRd w b o n) (hne : b ≠ b') (o' : Nat) (vs : List Value) : canRd (w.setCells b' o' vs) b o n := fun j hj => by
  rw [World.cell?_setCells_out _ _ _ _ _ (fun h => absurd h hne)]; exact h j hj

theorem SF.drew {w : World} {f : FillD} {w1 : World} (h : SF w f w1) : SF w f w1.drew := ⟨h.1, h.2.1, h.2.2.1, h.2.2.2.1, h.2.2.2.2.1, h.2.2.2.2.2.drew⟩
theorem SF.below {w : World} {f : FillD} {w1 w2 : World} (h : SF w f w1) (hb : Below w1.heap.size w1 w2) : SF w f w2 :=
  ⟨(rd_below h.2.1 hb).trans h.1, canRd_below h.2.1 hb, cell_below h.2.2.1 hb, cell_below h.2.2.2.1 hb, there_below h.2.2.2.2.1 hb, below_then h.2.2.2.2.2 (Nat.le_refl _) hb⟩
theorem SF.store {w : World} {f : FillD} {w1 : World} (h : SF w f w1) (o : Nat) (cs : List Value) : SF w f (w1.setCells (w.heap.size + 1) o cs) := by
  obtain ⟨h1, h2, h3, h4, h5, h6⟩ := h
  refine ⟨(rd_setCells (by omega) _ _).trans h1, canRd_setCells h2 (by omega) _ _, ?_, ?_, World.there_setCells h5 _ _ _, below_setCells' h6 (by omega) _ _⟩
  all_goals
    rw [World.cell?_setCells_out _ _ _ _ _ (fun h => by simp at h)]
    assumption

set_option maxRecDepth 100000 in
set_option maxHeartbeats 2000000 in
theorem cloneFill_any (f : FillD) (bv bg : List Int) (vs1 vs2 : List VoteD) (ps1 ps2 : List PowD) (sw : List Int) (w : World) (hok : f.body.Ok w bv bg vs1 vs2 ps1 ps2) (hsn : sliceAt w 1 f.sn sw.length (sw.map (Value.int .u64)))
    (hbv : bv.length ≤ 1048576) (hbg : bg.length ≤ 1048576) (hn1 : vs1.length ≤ 65536) (hn2 : vs2.length ≤ 65536) (hp1 : ps1.length ≤ 65536) (hp2 : ps2.length ≤ 65536) (hsw : sw.length ≤ 1048576)
    (hs1 : ∀ x ∈ vs1, lenV x.ext ≤ 1048576 ∧ lenV x.sig ≤ 1048576) (hs2 : ∀ x ∈ vs2, lenV x.ext ≤ 1048576 ∧ lenV x.sig ≤ 1048576) :
    Calls Try.prog 30 #[.agg f.cells.toArray] w fun e w' => ∃ (f' : FillD) (us1 us2 : List VoteD), e = .returned (.agg f'.cells.toArray) ∧ f'.body.Ok w' bv bg us1 us2 ps1 ps2 ∧ sliceAt w' 1 f'.sn sw.length (sw.map (Value.int .u64)) ∧ us1.length = vs1.length ∧ us2.length = vs2.length ∧ f'.body.From w.heap.size us1 us2 ∧ fromB w.heap.size f'.sn ∧ Below w.heap.size w w' := by
  have hid := hok.id
  go_enter Try.func30, Try.ntmps30
  go_wp2
  generalize hW : (w.alloc (Obj.cells f.cells.toArray 62)).alloc _ = W
  have hb0 : Below w.heap.size w W := by rw [← hW]; exact ((Below.refl _ _).alloc (Nat.le_refl _) _).alloc (by simp) _
  have hB : W.heap[w.heap.size]? = some (.cells f.cells.toArray 62 (0, 0)) := by rw [← hW]; exact heap_alloc2_old _ _ _
  have hT : W.there (w.heap.size + 1) 0 49 := by
    rw [← hW]
    exact there_of_block (heap_alloc2_new _ _ _) 0 49 (by simp)
  have hsz : w.heap.size + 2 ≤ W.heap.size := by rw [← hW]; simp
  clear hW
  have hra : W.rangeAt w.heap.size 0 f.body.cells := range_of_block hB 0 _ fun j v hv => by
    have hj := (List.getElem?_eq_some_iff.1 hv).1
    rw [Nat.zero_add, FillD.low hid (by rw [← RefD.cells_len hid]; exact hj)]
    exact hv
  have hS : SF w f W := ⟨rd_of_range hra (RefD.cells_len hid), canRd_of_range hra (RefD.cells_len hid), by rw [cell_of_block hB]; exact FillD.g47 hid, by rw [cell_of_block hB]; exact FillD.g48 hid, hT, hb0⟩
  have hlen := RefD.cells_len hid
  clear hra hB hT
  go_region_held3 (fun w' => rd w' w.heap.size 0 47 = f.body.cells.toArray ∧ canRd w' w.heap.size 0 47 ∧ w'.cell? ⟨w.heap.size, 47, none⟩ = some f.sn ∧ w'.cell? ⟨w.heap.size, 48, none⟩ = some (.int .i64 f.sp) ∧ w'.there (w.heap.size + 1) 0 49 ∧ Below w.heap.size w w')
    (first | exact SF.drew hS | exact SF.below (f := f) (by assumption) hbel2 | exact SF.below (f := f) (by assumption) hbel1 | exact SF.store (f := f) (by assumption) _ _ | fail)
    (first | (go_at_call 31; refine (cloneRefill_any f.body bv bg vs1 vs2 ps1 ps2 _ ?_ hbv hbg hn1 hn2 hp1 hp2 hs1 hs2).mono ?_; (go_split_ands; exact hok.below (by assumption)); rintro e w1 ⟨r', us1, us2, rfl, hr', hl1, hl2, hfr1, hbel1⟩; have hlen' := RefD.cells_len hr'.id; have hone' := RefD.oneAll hr') | (go_at_call 44; refine (cloneWords_any f.sn sw _ ?_ hsw).mono ?_; (go_split_ands; exact hsn.below (by assumption)); rintro e w2 ⟨v2, rfl, hv2, hf2, hbel2⟩; obtain ⟨e2, n2, cp2, rfl⟩ := hv2.form; have hone2 := one_app hone' e2 n2 cp2 f.sp))
  go_wp2
  have hs1 : W.heap.size ≤ w1.heap.size := hbel1.size
  have hap := Apart.set1 (B1 := w.heap.size + 1) (B2 := w.heap.size + 1) w2 0 (r'.cells ++ [.slice e2 n2 cp2, .int .i64 f.sp])
  have hT2 : w2.there (w.heap.size + 1) 0 49 := ((SF.drew hS).below hbel1 |>.below hbel2).2.2.2.2.1
  have hb2 : Below w.heap.size w w2 := ((SF.drew hS).below hbel1 |>.below hbel2).2.2.2.2.2
  refine bodyPost_ret (results_cell_mid Try.results30 _ _ (w.heap.size + 1) 0 (FillD.mk r' (.slice e2 n2 cp2) f.sp).cells _ rfl ?_ Try.underlying62 rfl ?_) rfl ⟨⟨r', .slice e2 n2 cp2, f.sp⟩, us1, us2, rfl, ?_, ?_, hl1, hl2, hfr1.mono (by simp; omega), hf2.mono (by omega), ?_⟩
  · exact World.rangeAt_setCells_same _ _ _ _ (by simpa [hlen'] using hT2)
  · rw [Try.size62]; simp [FillD.cells, hlen']
  · exact (hr'.below hbel2).apart hap hfr1 (by simp; omega) (by simp; omega)
  · exact sliceAt.apart hv2 hap hf2 (by omega) (by omega)
  · exact below_setCells' hb2 (by omega) _ _

end Go.Proofs.Qxb6604712a
