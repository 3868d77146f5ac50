import Derived.Test.Qxb6616086aFmtDwM
namespace Go.Proofs.Qxb6616086aFmt.Dw
open Go.RowKit Go.Deep Go.Extern.Stop Go.Stop Go.Extern Go.Maps Go.WideShapes Go.ChangeMaps
set_option linter.unusedVariables false

theorem info54 : ∃ i, Tryf.prog.info? 54 = some i ∧ i.zero = some (.agg #[.string ⟨#[]⟩, .bool false, .slice none 0 0, .map none]) ∧ i.size = 4 ∧ i.bytes = 56 := by
  have h : (Tryf.prog.info? 54).map (fun i => (i.zero, i.size, i.bytes)) = some (some (.agg #[.string ⟨#[]⟩, .bool false, .slice none 0 0, .map none]), 4, 56) := by kernel_rfl
  obtain ⟨i, hi, hb⟩ := Option.map_eq_some_iff.1 h
  simp only [Prod.mk.injEq] at hb
  exact ⟨i, hi, hb.1, hb.2.1, hb.2.2⟩

theorem zeros_at (n i : Nat) (h : i < n) : (Builtin.zeroCells #[Value.string ⟨#[]⟩, .bool false, .slice none 0 0, .map none] n)[i * 4 + 2]? = some (.slice none 0 0) := by
  have h1 : (i * 4 + 2) % 4 = 2 := by omega
  have h2 : i * 4 + 2 < n * 4 := by omega
  unfold Builtin.zeroCells
  simp [h1, h2]

section
variable {w w' : World} {base : Nat} {L : List ByteArray} {m : Nat} {x : ByteArray}
/-- one table more, in the room -/
theorem TbS.room {g cap : Nat} (h : TbS w base (.slice (some ⟨g, 0, none⟩) L.length cap) L m) (hlt : L.length < cap) : TbS (w.setCell ⟨g, L.length * 4, none⟩ (.string x)) base (.slice (some ⟨g, 0, none⟩) (L.length + 1) cap) (L ++ [x]) m := by
  rcases h with ⟨h, _⟩ | ⟨g', cap', cur, h1, h2, h3, h4, h5, h6, h7, h8⟩
  · cases h
  · simp only [Value.slice.injEq, Option.some.injEq, Addr.mk.injEq, and_true, true_and] at h1
    obtain ⟨rfl, rfl⟩ := h1
    refine .inr ⟨g, cap, cur.setIfInBounds (L.length * 4) (.string x), by simp, h2, heap_setCell_same w g _ cur 54 _ h3, by simpa using h4, by simp; omega, h6, fun i s hi => ?_, fun i hi => ?_⟩
    · by_cases e : i < L.length
      · rw [List.getElem?_append_left e] at hi
        rw [Array.getElem?_setIfInBounds_ne (by omega)]
        exact h7 i s hi
      · have hl : i < (L ++ [x]).length := (List.getElem?_eq_some_iff.1 hi).1
        have : i = L.length := by simp at hl; omega
        subst this
        simp at hi
        subst hi
        rw [Array.getElem?_setIfInBounds_self]
        simp
        omega
    · obtain ⟨u, k, a, b, c⟩ := h8 i hi
      refine ⟨u, k, ?_, b, c.other (Shp.setCell w g _ cur _ h3 h2) (by decide)⟩
      rw [Array.getElem?_setIfInBounds_ne (by omega)]
      exact a

theorem cell_four_new (w : World) (a b c d : Value) (t : TypeId) : ∀ j u, [a, b, c, d][j]? = some u → (w.alloc (.cells #[a, b, c, d] t)).cell? ((⟨w.heap.size, 0, none⟩ : Addr).add j) = some u := by
  intro j u h
  rw [Go.WideShapes.add_plain, Nat.zero_add, World.cell?_alloc_new]
  simpa using h

/-- one table more, in a new row: the room behind it is nought -/
theorem run_append_tables (w : World) (v : Value) (ty : TypeId) (T : TbS w base v L m) (hfull : ∀ a cap, v = .slice a L.length cap → ¬ L.length < cap) (hb : base ≤ w.heap.size) (hL : L.length < 65536)
    (a : Addr) (hn : ∀ j u, [Value.string x, .bool false, .slice none 0 0, .map none][j]? = some u → w.cell? (a.add j) = some u) (c : Nat) :
    ∃ g cap' w', (Builtin.append_ #[28, 28] ty #[v, .slice (some a) 1 c]).run Tryf.prog w = .ok (.slice (some ⟨g, 0, none⟩) (L.length + 1) cap') w' ∧ TbS w' base (.slice (some ⟨g, 0, none⟩) (L.length + 1) cap') (L ++ [x]) m ∧ Below w.heap.size w w' := by
  obtain ⟨i, hi, hz, hs, hby⟩ := info54
  have fin : ∀ (olds : List Value) (capn : Nat), olds.length = L.length * 4 → L.length + 1 ≤ capn → capn ≤ maxLen → (∀ (j : Nat) s, L[j]? = some s → olds[j * 4]? = some (.string s)) → (∀ j : Nat, j < L.length → ∃ u k, olds[j * 4 + 2]? = some u ∧ k ≤ m ∧ Chg w base 58 3 u k) →
      TbS (w.drew.alloc (.cells (olds.toArray ++ [Value.string x, .bool false, .slice none 0 0, .map none].toArray ++ Builtin.zeroCells #[Value.string ⟨#[]⟩, .bool false, .slice none 0 0, .map none] (capn - (L.length + 1))) 54)) base (.slice (some ⟨w.heap.size, 0, none⟩) (L.length + 1) capn) (L ++ [x]) m := by
    intro olds capn h0 h1 h2 h3 h4
    have hB : Below w.heap.size w (w.drew.alloc (.cells (olds.toArray ++ [Value.string x, .bool false, .slice none 0 0, .map none].toArray ++ Builtin.zeroCells #[Value.string ⟨#[]⟩, .bool false, .slice none 0 0, .map none] (capn - (L.length + 1))) 54)) := ((Below.refl _ _).drew).alloc (by simp) _
    refine .inr ⟨w.heap.size, capn, _, by simp, hb, heap_alloc_new w.drew _, ?_, by simp; omega, h2, fun j s hj => ?_, fun j hj => ?_⟩
    · simp only [Array.size_append, List.size_toArray, size_zeroCells, h0]
      simp
      omega
    · by_cases e : j < L.length
      · rw [List.getElem?_append_left e] at hj
        rw [Array.getElem?_append_left (by simp; omega), Array.getElem?_append_left (by simp; omega)]
        simpa using h3 j s hj
      · have hl : j < (L ++ [x]).length := (List.getElem?_eq_some_iff.1 hj).1
        have : j = L.length := by simp at hl; omega
        subst this
        simp at hj
        subst hj
        rw [Array.getElem?_append_left (by simp; omega), Array.getElem?_append_right (by simp; omega)]
        simp [h0]
    · by_cases e : j < L.length
      · obtain ⟨u, k, a, b, c⟩ := h4 j e
        refine ⟨u, k, ?_, b, c.same (Shp.ofBelow hB)⟩
        rw [Array.getElem?_append_left (by simp; omega), Array.getElem?_append_left (by simp; omega)]
        simpa using a
      · by_cases e2 : j = L.length
        · subst e2
          refine ⟨.slice none 0 0, 0, ?_, by omega, Chg.nil _ _ _ _⟩
          rw [Array.getElem?_append_left (by simp; omega), Array.getElem?_append_right (by simp; omega)]
          simp [h0]
        · refine ⟨.slice none 0 0, 0, ?_, by omega, Chg.nil _ _ _ _⟩
          rw [Array.getElem?_append_right (by simp; omega)]
          have := zeros_at (capn - (L.length + 1)) (j - (L.length + 1)) (by omega)
          rw [← this]
          congr 1
          simp
          omega
  rcases T with ⟨rfl, rfl⟩ | ⟨g, cap, cur, rfl, h2, h3, h4, h5, h6, h7, h8⟩
  · have hr := run_append_nil (P := Tryf.prog) w 28 ty 54 i _ Tryf.underlying28 hi hz a 1 c [Value.string x, .bool false, .slice none 0 0, .map none] (by simp [hs]) hn (by omega) (by omega) (by omega)
    refine ⟨_, _, _, hr, ?_, ((Below.refl _ _).drew).alloc (by simp) _⟩
    have := fin [] (grownCap w 1 0 54) (by simp) (grownCap_ge w 1 0 54) (grownCap_le_maxLen w 1 0 54 (by simp [maxLen])) (fun j s h => by simp at h) (fun j h => by simp at h)
    simpa [Value.cells] using this
  · have hcap : cap = L.length := by have := hfull _ cap rfl; omega
    subst hcap
    have hr := run_append_grow (P := Tryf.prog) w 28 ty 54 i _ Tryf.underlying28 hi hz ⟨g, 0, none⟩ L.length L.length cur.toList (by simp [hs]; omega) (fun j u hj => by rw [Go.WideShapes.add_plain, Nat.zero_add, cell_of_row _ _ _ _ _ _ h3]; simpa using hj) a 1 c [Value.string x, .bool false, .slice none 0 0, .map none] (by simp [hs]) hn (by omega) (by omega) (growslice_fits (by omega) (by rw [hby]; omega))
    refine ⟨_, _, _, hr, ?_, ((Below.refl _ _).drew).alloc (by simp) _⟩
    have := fin cur.toList (grownCap w (L.length + 1) L.length 54) (by simp; omega) (grownCap_ge w _ _ 54) (grownCap_le_maxLen w _ _ 54 (by unfold maxLen; omega)) (fun j s h => by simpa using h7 j s h) (fun j h => by simpa using h8 j h)
    exact this
end
end Go.Proofs.Qxb6616086aFmt.Dw
