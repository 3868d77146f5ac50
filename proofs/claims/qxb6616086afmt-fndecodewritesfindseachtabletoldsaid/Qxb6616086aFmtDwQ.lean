import Derived.Test.Qxb6616086aFmtDwP
namespace Go.Proofs.Qxb6616086aFmt.Dw
open Go.RowKit Go.Deep Go.Extern.Stop Go.Stop Go.Extern Go.Maps Go.WideShapes Go.ChangeMaps
set_option linter.unusedVariables false

section
variable {w w' : World} {base wb rb pb n p : Nat} {bad : Bool} {v ix : Value} {L : List ByteArray} {m g cap t : Nat}
theorem RS.block (S : RS w rb pb n p bad) (h : w'.heap[rb]? = w.heap[rb]?) : RS w' rb pb n p bad := by
  obtain ⟨v, er, R, a, b⟩ := S
  exact ⟨v, er, h.trans R, a, b⟩
theorem RS.obj (S : RS w rb pb n p bad) : ∃ c, w.heap[rb]? = some (.cells c 63 (0, 0)) := by
  obtain ⟨v, er, R, a, b⟩ := S
  exact ⟨_, R⟩
theorem RS.le (S : RS w rb pb n p bad) : p ≤ n := by
  obtain ⟨v, er, R, ⟨a, _⟩, b⟩ := S
  exact a
theorem WS.reader (h : WS w base wb v ix L m) (gr : w.grownBy w' (some rb)) (hr : ∃ c, w.heap[rb]? = some (.cells c 63 (0, 0))) : WS w' base wb v ix L m := by
  obtain ⟨c, hr⟩ := hr
  have ap : ∀ (k : Nat) (c' : Array Value) (e : TypeId), w.heap[k]? = some (.cells c' e (0, 0)) → e ≠ 63 → w'.heap[k]? = w.heap[k]? := fun k c' e hk he => gr.block k (Array.getElem?_eq_some_iff.1 hk).1 (fun e1 => by
    cases e1
    rw [hr] at hk
    simp only [Option.some.injEq, Obj.cells.injEq] at hk
    exact he hk.2.1.symm)
  refine ⟨(ap _ _ _ h.hd (by decide)).trans h.hd, h.lo, h.tb.stay (fun k c' _ hk => ap _ _ _ hk (by decide)) (fun k c' _ hk => ap _ _ _ hk (by decide)), h.ixx.keep fun mb e => ?_, h.ib, h.nd, h.sz⟩
  have hmb : mb < w.heap.size := by
    rcases h.ixx with ⟨e', _⟩ | ⟨mb', e', M, _⟩
    · rw [e] at e'; cases e'
    · rw [e] at e'; cases e'; exact M.lt
  exact gr.block mb hmb (fun e1 => h.ixx.notCells hr (by rw [e, Option.some.inj e1]))
theorem WS.chg (h : WS w base wb v ix L m) (s : Shp base 58 w w') : WS w' base wb v ix L m := by
  refine ⟨s.other (by decide) h.hd, h.lo, h.tb.chg s, h.ixx.keep fun mb e => ?_, h.ib, h.nd, h.sz⟩
  have ⟨es, c, ho⟩ : ∃ es c, w.heap[mb]? = some (.map es c) := by
    rcases h.ixx with ⟨e', _⟩ | ⟨mb', e', M, _⟩
    · rw [e] at e'; cases e'
    · rw [e] at e'; cases e'; exact M.obj
  exact s.same mb (Array.getElem?_eq_some_iff.1 ho).1 (.inr fun c' => by rw [ho]; simp)

/-- a table's place -/
structure KAt (w : World) (base g t m : Nat) (u : Value) (k : Nat) (ys : List Value) : Prop where
  lo : base ≤ g
  row : ∃ cur, w.heap[g]? = some (.cells cur 54 (0, 0))
  c1 : (w.cell? ⟨g, t * 4 + 1, none⟩).isSome = true
  c2 : w.cell? ⟨g, t * 4 + 2, none⟩ = some u
  km : k ≤ m
  own : w.ownsRow base 58 3 u k ys
  fz : ∀ o, w.frozen? ⟨g, o, none⟩ = false
theorem WS.at (h : WS w base wb (.slice (some ⟨g, 0, none⟩) L.length cap) ix L m) (ht : t < L.length) : ∃ u k ys, KAt w base g t m u k ys := by
  rcases h.tb with ⟨e, _⟩ | ⟨g', cap', cur, h1, h2, h3, h4, h5, h6, h7, h8⟩
  · cases e
  · simp only [Value.slice.injEq, Option.some.injEq, Addr.mk.injEq, and_true, true_and] at h1
    obtain ⟨rfl, rfl⟩ := h1
    obtain ⟨u, k, a, b, ys, c⟩ := h8 t (by omega)
    refine ⟨u, k, ys, h2, ⟨cur, h3⟩, ?_, (cell_of_row _ _ _ _ _ _ h3).trans a, b, c, fun o => by simp [World.frozen?, h3]⟩
    rw [cell_of_row _ _ _ _ _ _ h3, Array.getElem?_eq_getElem (by omega)]
    rfl
theorem TbS.setD (h : TbS w base (.slice (some ⟨g, 0, none⟩) L.length cap) L m) (y : Value) : TbS (w.setCell ⟨g, t * 4 + 1, none⟩ y) base (.slice (some ⟨g, 0, none⟩) L.length cap) L m := by
  rcases h with ⟨e, _⟩ | ⟨g', cap', cur, h1, h2, h3, h4, h5, h6, h7, h8⟩
  · cases e
  · simp only [Value.slice.injEq, Option.some.injEq, Addr.mk.injEq, and_true, true_and] at h1
    obtain ⟨rfl, rfl⟩ := h1
    refine .inr ⟨g, cap, cur.setIfInBounds (t * 4 + 1) y, rfl, h2, heap_setCell_same w g _ cur 54 _ h3, by simpa using h4, h5, h6, fun i s hi => ?_, fun i hi => ?_⟩
    · rw [Array.getElem?_setIfInBounds_ne (by omega)]; exact h7 i s hi
    · obtain ⟨u, k, a, b, c⟩ := h8 i hi
      exact ⟨u, k, by rw [Array.getElem?_setIfInBounds_ne (by omega)]; exact a, b, c.other (Shp.setCell w g _ cur _ h3 h2) (by decide)⟩
theorem TbS.setC {u' : Value} {k' m' : Nat} {ys : List Value} (h : TbS w base (.slice (some ⟨g, 0, none⟩) L.length cap) L m) (ht : t < L.length) (ho : w.ownsRow base 58 3 u' k' ys) (hm : m ≤ m') (hk : k' ≤ m') : TbS (w.setCell ⟨g, t * 4 + 2, none⟩ u') base (.slice (some ⟨g, 0, none⟩) L.length cap) L m' := by
  rcases h with ⟨e, _⟩ | ⟨g', cap', cur, h1, h2, h3, h4, h5, h6, h7, h8⟩
  · cases e
  · simp only [Value.slice.injEq, Option.some.injEq, Addr.mk.injEq, and_true, true_and] at h1
    obtain ⟨rfl, rfl⟩ := h1
    have s := Shp.setCell (base := base) w g (t * 4 + 2) cur u' h3 h2
    refine .inr ⟨g, cap, cur.setIfInBounds (t * 4 + 2) u', rfl, h2, heap_setCell_same w g _ cur 54 _ h3, by simpa using h4, h5, h6, fun i s hi => ?_, fun i hi => ?_⟩
    · rw [Array.getElem?_setIfInBounds_ne (by omega)]; exact h7 i s hi
    · by_cases e : i = t
      · subst e
        refine ⟨u', k', ?_, hk, Chg.other ⟨ys, ho⟩ s (by decide)⟩
        rw [Array.getElem?_setIfInBounds_self]
        simp
        omega
      · obtain ⟨u, k, a, b, c⟩ := h8 i hi
        exact ⟨u, k, by rw [Array.getElem?_setIfInBounds_ne (by omega)]; exact a, by omega, c.other s (by decide)⟩
theorem WS.setCell {o : Nat} {y : Value} {m' : Nat} (h : WS w base wb v ix L m) {cur : Array Value} (hg : w.heap[g]? = some (.cells cur 54 (0, 0))) (T : TbS (w.setCell ⟨g, o, none⟩ y) base v L m') : WS (w.setCell ⟨g, o, none⟩ y) base wb v ix L m' := by
  have hne : wb ≠ g := by
    intro e
    have := h.hd
    rw [e, hg] at this
    simp at this
  exact ⟨(Below.heap_setCell _ _ _ _ hne).trans h.hd, h.lo, T, h.ixx.keep fun mb e => Below.heap_setCell _ _ _ _ (fun e2 => h.ixx.notCells hg (by simp at e2; rw [← e2]; exact e)), h.ib, h.nd, h.sz⟩
end

/-- how much the reader has left, while no error is set -/
def meas (w : World) (rb : Nat) : Nat :=
  match w.cell? ⟨rb, 0, none⟩, w.cell? ⟨rb, 1, none⟩ with
  | some (.slice _ l _), some .nilIface => l + 1
  | _, _ => 0
theorem RS.good {w : World} {rb pb n p : Nat} (S : RS w rb pb n p false) : meas w rb = n - p + 1 := by
  obtain ⟨v, er, R, ⟨_, ad, rfl, _⟩, rfl⟩ := S
  simp [meas, R.c0, R.c1]
theorem RS.evil {w : World} {rb pb n p : Nat} (S : RS w rb pb n p true) : meas w rb = 0 := by
  obtain ⟨v, er, R, ⟨_, ad, rfl, _⟩, ⟨t, y, rfl⟩⟩ := S
  simp [meas, R.c0, R.c1]

theorem nm_size (B : Nat → Int) (s e : Nat) : (nm B s e).size = e - s := by
  have : ∀ (l : List Int) (r : ByteArray), (l.foldl (fun r n => r.push (UInt8.ofNat n.toNat)) r).size = r.size + l.length := by
    intro l
    induction l with
    | nil => intro r; rfl
    | cons a l ih => intro r; rw [List.foldl_cons, ih]; simp [ByteArray.size_push]; omega
  unfold nm
  rw [this]
  simp
end Go.Proofs.Qxb6616086aFmt.Dw
