import Derived.Test.Qxb6616086aFmtDwH
namespace Go.Proofs.Qxb6616086aFmt.Dw
open Go.RowKit Go.Deep Go.Extern.Stop Go.Stop Go.Extern
set_option linter.unusedVariables false

/-- a table's place -/
structure TAt (w : World) (base g t m : Nat) (u : Value) (k : Nat) (ys : List Value) : Prop where
  lo : base ≤ g
  lt : g < w.heap.size
  c1 : (w.cell? ⟨g, t * 3 + 1, none⟩).isSome = true
  c2 : w.cell? ⟨g, t * 3 + 2, none⟩ = some u
  km : k ≤ m
  own : w.ownsRow base 51 3 u k ys
  fz : ∀ o, w.frozen? ⟨g, o, none⟩ = false

section
variable {w w' : World} {base : Nat} {v : Value} {L : List ByteArray} {m t g cap : Nat}
theorem TsS.at (h : TsS w base v L m) (ht : t < L.length) : ∃ g cap u k ys, v = .slice (some ⟨g, 0, none⟩) L.length cap ∧ TAt w base g t m u k ys := by
  obtain ⟨xs, h1, h2, h3⟩ := h
  obtain ⟨u, k, a, b, ys, c⟩ := h3 t ht
  have hx := h1.1
  rcases h1.2 with ⟨rfl, h4⟩ | ⟨g, cap, cur, rfl, h4, h5, _⟩
  · omega
  · have c1 := h1.cellAt (t * 3 + 1) (by omega)
    have c2 := h1.cellAt (t * 3 + 2) (by omega)
    rw [show t * 3 + 2 = 3 * t + 2 by omega, a] at c2
    refine ⟨g, cap, u, k, ys, rfl, h4, (Array.getElem?_eq_some_iff.1 h5).1, ?_, ?_, b, c, fun o => h1.frozenAt o⟩
    · rw [c1, List.getElem?_eq_getElem (by omega)]
      rfl
    · rw [show t * 3 + 2 = 3 * t + 2 by omega]; exact c2
theorem TsS.row (h : TsS w base (.slice (some ⟨g, 0, none⟩) L.length cap) L m) : ∃ cur, w.heap[g]? = some (.cells cur 42 (0, 0)) ∧ base ≤ g := by
  obtain ⟨xs, h1, _⟩ := h
  rcases h1.2 with ⟨h', _⟩ | ⟨g', cap', cur, h', h4, h5, _⟩
  · simp at h'
  · simp only [Value.slice.injEq, Option.some.injEq, Addr.mk.injEq, and_true, true_and] at h'
    obtain ⟨rfl, rfl⟩ := h'
    exact ⟨cur, h5, h4⟩
theorem TsS.drop (h : TsS w base (.slice (some ⟨g, 0, none⟩) L.length cap) L m) (y : Value) : TsS (w.setCell ⟨g, t * 3 + 1, none⟩ y) base (.slice (some ⟨g, 0, none⟩) L.length cap) L m := by
  obtain ⟨cur, hg, hb⟩ := h.row
  obtain ⟨xs, h1, h2, h3⟩ := h
  refine ⟨_, (h1.stored (t * 3 + 1) y).1, fun i hi => ?_, fun i hi => ?_⟩
  · rw [List.getElem?_set_ne (by omega)]; exact h2 i hi
  · rw [List.getElem?_set_ne (by omega)]
    obtain ⟨u, k, a, b, c⟩ := h3 i hi
    exact ⟨u, k, a, b, c.other (Shp.setCell w g _ cur y hg hb) (by decide)⟩
theorem TsS.put {u' : Value} {k' m' : Nat} {ys : List Value} (h : TsS w base (.slice (some ⟨g, 0, none⟩) L.length cap) L m) (ht : t < L.length) (ho : w.ownsRow base 51 3 u' k' ys) (hm : m ≤ m') (hk : k' ≤ m') :
    TsS (w.setCell ⟨g, t * 3 + 2, none⟩ u') base (.slice (some ⟨g, 0, none⟩) L.length cap) L m' := by
  obtain ⟨cur, hg, hb⟩ := h.row
  obtain ⟨xs, h1, h2, h3⟩ := h
  have hx := h1.1
  refine ⟨_, (h1.stored (t * 3 + 2) u').1, fun i hi => ?_, fun i hi => ?_⟩
  · rw [List.getElem?_set_ne (by omega)]; exact h2 i hi
  · have s := Shp.setCell (base := base) w g (t * 3 + 2) cur u' hg hb
    by_cases e : i = t
    · subst e
      refine ⟨u', k', ?_, hk, Chg.other ⟨ys, ho⟩ s (by decide)⟩
      rw [show 3 * i + 2 = i * 3 + 2 by omega]
      exact List.getElem?_set_self (by omega)
    · rw [List.getElem?_set_ne (by omega)]
      obtain ⟨u, k, a, b, c⟩ := h3 i hi
      exact ⟨u, k, a, by omega, c.other s (by decide)⟩
theorem TsS.spot (h : TsS w base (.slice (some ⟨g, 0, none⟩) L.length cap) L m) (ht : t < L.length) : (w.cell? ⟨g, t * 3 + 2, none⟩).isSome = true ∧ w.frozen? ⟨g, t * 3 + 2, none⟩ = false := by
  obtain ⟨g', cap', u, k, ys, e, A⟩ := h.at ht
  simp only [Value.slice.injEq, Option.some.injEq, Addr.mk.injEq, and_true, true_and] at e
  obtain ⟨rfl, rfl⟩ := e
  exact ⟨by rw [A.c2]; rfl, A.fz _⟩
end

theorem own_shape {w : World} {base : Nat} {e : TypeId} {size : Nat} {v : Value} {n : Nat} {xs : List Value} (h : w.ownsRow base e size v n xs) : ∃ a c, v = .slice a n c := by
  rcases h.2 with ⟨rfl, h2⟩ | ⟨g, cap, cur, rfl, _⟩
  · exact ⟨none, 0, by rw [h2]⟩
  · exact ⟨_, cap, rfl⟩

theorem info51 : ∃ i, Tryf.prog.info? 51 = some i ∧ i.zero = some (.agg #[.string ⟨#[]⟩, .slice none 0 0, .bool false]) ∧ i.size = 3 ∧ i.bytes = 48 := by
  have h : (Tryf.prog.info? 51).map (fun i => (i.zero, i.size, i.bytes)) = some (some (.agg #[.string ⟨#[]⟩, .slice none 0 0, .bool false]), 3, 48) := by kernel_rfl
  obtain ⟨i, hi, hb⟩ := Option.map_eq_some_iff.1 h
  simp only [Prod.mk.injEq] at hb
  exact ⟨i, hi, hb.1, hb.2.1, hb.2.2⟩

/-- b[s:e] AT THE OPERATION: a slice of the payload, its address unsaid where it is empty -/
theorem wpList_cutsub (w : World) {ops : Array Oper} {rest : List Oper} {o : Oper} {a : Act} {Q : Exit → Act → World → Prop} (hgd : o.guard = none) (x l h : Operand) (ho : o.op = .slice 22 x (some l) (some h) none)
    (pb n s e : Nat) (hx : a.eval x = .slice (some ⟨pb, 0, none⟩) n n) (hl : a.eval l = .int .i64 s) (hh : a.eval h = .int .i64 e) (hse : s ≤ e) (hen : e ≤ n)
    (hK : ∀ ad c, (s < e → ad = ⟨pb, s, none⟩) → wpList Tryf.prog ops Q rest (a.put o.dst (.slice (some ad) (e - s) c)) w) : wpList Tryf.prog ops Q (o :: rest) a w := by
  refine wpList_plain hgd fun _ hK' => ?_
  have hsz : (sizeOf (Tryf.prog.elem 22)).run Tryf.prog w = .ok 1 w := by
    have h : (Tryf.prog.info? 5).map (·.size) = some 1 := by kernel_rfl
    obtain ⟨i, hi, hs⟩ := Option.map_eq_some_iff.1 h
    simp [Program.elem, Tryf.underlying22, sizeOf, typeInfo, hi, hs]
  have hr := run_slice_lh (P := Tryf.prog) w 22 (some ⟨pb, 0, none⟩) n n (by simp [Program.elem, Tryf.underlying22]) .i64 .i64 s e (by omega) (by omega) (by omega)
  rw [hsz] at hr
  simp only [Result.andThen_ok, sliced, Int.toNat_natCast, Nat.mul_one] at hr
  unfold Oper.wp execOp
  simp only [ho, hx, hl, hh, Option.map_some, Option.map_none, Sem.run_bind, run_sliceAt_slice (P := Tryf.prog) w 22 _ _ _ _ (by simp [Program.elem, Tryf.underlying22]), hr, Result.andThen_ok, Sem.run_pure]
  by_cases hns : n = s
  · rw [if_pos hns]
    exact hK' _ _ (hK ⟨pb, 0, none⟩ (n - s) (fun h => by omega))
  · rw [if_neg hns]
    exact hK' _ _ (hK _ (n - s) (fun h => by rw [Go.WideShapes.add_plain, Nat.zero_add]))
end Go.Proofs.Qxb6616086aFmt.Dw
