import Derived.Test.Qxb6616086aGateD
import Derived.Deep.DeepCutAuto
namespace Go.Proofs.Qxb6616086a.Gate
open Go.RowKit Go.Deep Go.Conc
set_option linter.unusedVariables false

/-- the cells of the zero gate -/
noncomputable def Z : Array Value := (((Try.prog.info? 54).bind (·.zero)).map Value.cells).getD #[]
theorem Z_all : (∀ w, (zeroValue 54).run Try.prog w = .ok (.agg Z) w) ∧ Z.size = 917 ∧ Z[912]? = some (.int .u32 0) ∧ Z[914]? = some (.int .u32 0) ∧ Z[915]? = some (.int .i32 0) ∧ ∀ i, i < 16 → Z[i * 57]? = some (.int .i64 0) := by
  obtain ⟨v, h1, h2⟩ := Option.map_eq_some_iff.1 zero54
  have hg : Z = v.cells := by unfold Z; rw [h1]; rfl
  rw [hg]
  simp only [Prod.mk.injEq] at h2
  obtain ⟨ha, hs, a, d, e, g⟩ := h2
  refine ⟨fun w => ?_, hs, a, d, e, fun i hi => ?_⟩
  · obtain ⟨i, hi, hz⟩ := Option.bind_eq_some_iff.1 h1
    cases v <;> simp [isAggV] at ha
    simp [zeroValue, typeInfo, hi, hz, Value.cells]
  · have := congrArg (fun l : List (Option Value) => l[i]?) g
    simpa [hi] using this
/-- the cells of a gate as she is built, her channel c -/
noncomputable abbrev gcells (c : Nat) : Array Value := Z.setIfInBounds 913 (.chan (some c))
theorem gcells_all (c : Nat) : (gcells c)[912]? = some (.int .u32 0) ∧ (gcells c)[913]? = some (.chan (some c)) ∧ (gcells c)[914]? = some (.int .u32 0) ∧ (gcells c)[915]? = some (.int .i32 0) ∧ ∀ i, i < 16 → (gcells c)[i * 57]? = some (.int .i64 0) := by
  obtain ⟨_, hs, a, d, e, g⟩ := Z_all
  refine ⟨?_, ?_, ?_, ?_, fun i hi => ?_⟩
  · rw [Array.getElem?_setIfInBounds_ne (by omega)]; exact a
  · rw [Array.getElem?_setIfInBounds_self]; simp [hs]
  · rw [Array.getElem?_setIfInBounds_ne (by omega)]; exact d
  · rw [Array.getElem?_setIfInBounds_ne (by omega)]; exact e
  · rw [Array.getElem?_setIfInBounds_ne (by omega)]; exact g i hi

theorem info33 : ∃ i, Try.prog.info? 33 = some i ∧ i.bytes = 0 := by
  have h : (Try.prog.info? 33).map (·.bytes) = some 0 := by kernel_rfl
  obtain ⟨i, hi, hb⟩ := Option.map_eq_some_iff.1 h
  exact ⟨i, hi, hb⟩
theorem mk0 (w : World) : (Instr.makeChan 32 (.int .i64 0)).run Try.prog w = .ok (.chan (some w.heap.size)) (w.alloc (.chan 0 #[] false 0 0 false)) := by
  obtain ⟨i, hi, hb⟩ := info33
  simpa using run_makeChan (P := Try.prog) (w := w) Try.underlying32 hi .i64 0 (by omega) (by rw [hb]; omega)

theorem Gt.congr {w : World} {gb cb : Nat} {f g : Nat → Int} {sh dn m : Int} {cl : Bool} (h : Gt w gb cb f sh dn m cl) (e : ∀ i, i < 16 → f i = g i) : Gt w gb cb g sh dn m cl :=
  ⟨fun i hi => by rw [h.cnt i hi, e i hi], h.shut, h.dr, h.done, h.mu, h.fz, h.ch⟩

theorem frozen_of_row {w : World} {g o : Nat} {cs : Array Value} {t : TypeId} (hg : w.heap[g]? = some (.cells cs t (0, 0))) : w.frozen? ⟨g, o, none⟩ = false := by
  simp [World.frozen?, hg]

/-- while the gate is filled: k shards are laid -/
structure Fill (w wr : World) (f : Nat → Int) (k : Nat) : Prop where
  bel : Below w.heap.size w wr
  gate : Gt wr (w.heap.size + 1 + 1) (w.heap.size + 1) (fun j => if j < k then f j else 0) 0 0 0 false
  box : wr.heap[w.heap.size]? = some (.cells (arr f) 22 (0, 0))

theorem Fill.start (w : World) (f : Nat → Int) : Fill w (((w.alloc (.cells (arr f) 22)).alloc (.chan 0 #[] false 0 0 false)).alloc (.cells (gcells (w.heap.size + 1)) 54)) f 0 := by
  obtain ⟨a, b, c, d, e⟩ := gcells_all (w.heap.size + 1)
  have hb : (((w.alloc (.cells (arr f) 22)).alloc (.chan 0 #[] false 0 0 false)).alloc (.cells (gcells (w.heap.size + 1)) 54)).heap[w.heap.size + 1 + 1]? = some (.cells (gcells (w.heap.size + 1)) 54 (0, 0)) := by
    have := blk_alloc_new ((w.alloc (.cells (arr f) 22)).alloc (.chan 0 #[] false 0 0 false)) (.cells (gcells (w.heap.size + 1)) 54)
    simpa using this
  have hc : (((w.alloc (.cells (arr f) 22)).alloc (.chan 0 #[] false 0 0 false)).alloc (.cells (gcells (w.heap.size + 1)) 54)).heap[w.heap.size + 1]? = some (.chan 0 #[] false 0 0 false) := by
    rw [Below.heap_alloc _ _ _ (by simp)]
    have := blk_alloc_new (w.alloc (.cells (arr f) 22)) (.chan 0 #[] false 0 0 false)
    simpa using this
  refine ⟨(((Below.refl _ _).alloc (Nat.le_refl _) _).alloc (by simp) _).alloc (by simp; omega) _, ⟨?_, ?_, ?_, ?_, ?_, ?_, hc⟩, ?_⟩
  · exact fun i hi => (cell_of_row _ _ _ _ _ _ hb).trans (e i hi)
  · exact (cell_of_row _ _ _ _ _ _ hb).trans a
  · exact (cell_of_row _ _ _ _ _ _ hb).trans b
  · exact (cell_of_row _ _ _ _ _ _ hb).trans c
  · exact (cell_of_row _ _ _ _ _ _ hb).trans d
  · exact fun o => frozen_of_row hb
  · rw [Below.heap_alloc _ _ _ (by simp; omega), Below.heap_alloc _ _ _ (by simp)]
    exact blk_alloc_new _ _

theorem Fill.step {w wr : World} {f : Nat → Int} {k : Nat} (h : Fill w wr f k) (hk : k < 16) : Fill w (wr.setCell ⟨w.heap.size + 1 + 1, k * 57, none⟩ (.int .i64 (f k))).drew f (k + 1) where
  bel := (h.bel.setCell (by simp; omega) _).drew
  gate := ((h.gate.setCnt hk (f k)).drew).congr fun i hi => by
    show (if i = k then f k else (if i < k then f i else 0)) = (if i < k + 1 then f i else 0)
    by_cases e : i = k
    · subst e; simp
    · by_cases l : i < k
      · rw [if_neg e, if_pos l, if_pos (by omega)]
      · rw [if_neg e, if_neg l, if_neg (by omega)]
  box := (Below.heap_setCell _ _ _ _ (by simp; omega)).trans h.box

set_option maxHeartbeats 1000000 in
set_option maxRecDepth 100000 in
theorem newGate (f : Nat → Int) (w : World) :
    Calls Try.prog 5 #[.agg (arr f), .bool false] w fun e w' => e = .returned (.pointer (some ⟨w.heap.size + 1 + 1, 0, none⟩)) ∧ Gt w' (w.heap.size + 1 + 1) (w.heap.size + 1) f 0 0 0 false ∧ Below w.heap.size w w' := by
  have hmc := mk0
  obtain ⟨hz, hs, _⟩ := Z_all
  go_enter Try.func5, Try.ntmps5
  go_wp2_with fail
  have F0 := hide (Fill.start w f)
  go_loopw [10] (fun i wr => ∃ k : Nat, k ≤ 16 ∧ i = .int .i64 k ∧ Fill w wr f k) (fun i _ => 16 - (intOf i).toNat)
  case atStart => exact ⟨0, by omega, rfl, unhide F0⟩
  case round =>
    obtain ⟨k, hk, rfl, F⟩ := hrel
    clear F0 hz hs hmc
    by_cases hlt : k < 16
    · have i0 : (0 : Int) ≤ (k : Int) := by omega
      have i1 : (k : Int) < 16 := by omega
      have c0 : wr.cell? ⟨w.heap.size, k, none⟩ = some (.int .i64 (f k)) := (cell_of_row _ _ _ _ _ _ F.box).trans (arr_get f hlt)
      have c1 := F.gate.cnt k hlt
      have c2 := F.gate.fz (k * 57)
      have HF := hide F
      clear F
      go_upto_region 5 with fail
      go_region_with ((go_at_call 11; refine (store64 _ _ _ _ (by simpa using c1) (by simpa using c2)).mono ?_; rintro e w2 ⟨rfl, rfl⟩))
      all_goals
        go_wp2_with fail
        go_roundw
        case rel => exact ⟨k + 1, by omega, by go_num, (unhide HF).step hlt⟩
        case measure => simp [intOf]; omega
    · have hke : k = 16 := by omega
      subst hke
      have G1 := F.gate.congr (g := f) fun i hi => by rw [if_pos hi]
      have c1 := G1.shut
      have c2 := G1.fz 912
      have hG := hide ((G1.setShut 0).drew)
      have hB := hide ((F.bel.setCell (p := ⟨w.heap.size + 1 + 1, 912, none⟩) (by simp; omega) (.int .u32 0)).drew)
      have C := hide (storeB ⟨w.heap.size + 1 + 1, 912, none⟩ false _ _ c1 c2)
      clear F G1
      go_wp2_with (go_at_call 12; refine (unhide C).mono ?_; rintro e w2 ⟨rfl, rfl⟩)
      go_ret
      exact ⟨rfl, unhide hG, unhide hB⟩
end Go.Proofs.Qxb6616086a.Gate
