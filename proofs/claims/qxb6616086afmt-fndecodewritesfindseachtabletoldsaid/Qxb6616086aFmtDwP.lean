import Derived.Test.Qxb6616086aFmtDwO
import Derived.Test.Qxb6616086aFmtDwJ
namespace Go.Proofs.Qxb6616086aFmt.Dw
open Go.RowKit Go.Deep Go.Extern.Stop Go.Stop Go.Extern Go.Maps Go.WideShapes Go.ChangeMaps
set_option linter.unusedVariables false

theorem info5' : ∃ i, Tryf.prog.info? 5 = some i ∧ i.zero = some (.int .u8 0) ∧ i.size = 1 ∧ i.bytes = 1 := by
  obtain ⟨i, hi, hb⟩ := Option.map_eq_some_iff.1 info5
  simp only [Prod.mk.injEq] at hb
  exact ⟨i, hi, hb.1, hb.2.1, hb.2.2⟩

set_option maxHeartbeats 1000000 in
/-- bytes.Clone: some slice of new memory, or nil -/
theorem clone (v : Value) (pb n s e : Nat) (B : Nat → Int) (w : World) (hP : PB w pb n B) (he : e ≤ n) (hn : n ≤ 65536) (h : Sub pb s e v) (hlt : pb < w.heap.size) :
    Calls Tryf.prog 23 #[v] w fun r w' => (∃ a l c, r = .returned (.slice a l c)) ∧ Below w.heap.size w w' := by
  obtain ⟨hse, ad, c, rfl, had⟩ := h
  have hnil := eqNil
  obtain ⟨i0, hi0, hz0, hz1, hz2⟩ := info5'
  cases ad with
  | none =>
    clear hP had
    go_enter Tryf.func23, Tryf.ntmps23
    go_wp2
    go_ret
    exact ⟨⟨_, _, _, rfl⟩, Below.refl _ _⟩
  | some a =>
    have hnews : ∀ j u, ((List.range (e - s)).map fun i => Value.int .u8 (B (s + i)))[j]? = some u → (w.alloc (.cells #[] 5)).cell? (a.add j) = some u := by
      intro j u hj
      have hjl : j < e - s := by
        have := (List.getElem?_eq_some_iff.1 hj).1
        simpa using this
      have ea := had (by omega)
      simp only [Option.some.injEq] at ea
      subst ea
      rw [add_plain, World.cell?_alloc_past _ _ _ hlt, hP (s + j) (by omega)]
      simpa [hjl] using hj
    have own0 : (w.alloc (.cells #[] 5)).ownsRow w.heap.size 5 1 (.slice (some ⟨w.heap.size, 0, none⟩) 0 0) 0 [] := World.ownsRow_made w #[] 0 (Nat.le_refl _) (Nat.zero_le _) (by simp)
    have HN := hide hnews
    have HO := hide own0
    clear hnews own0 hP had
    go_enter Tryf.func23, Tryf.ntmps23
    go_wp2_with (at_builtin; refine wpList_append_own _ rfl _ _ 22 rfl w.heap.size 5 i0 (.int .u8 0) 1 1 Tryf.underlying22 hi0 hz0 hz1 hz2 rfl (by decide) _ _ _ rfl (unhide HO) a (e - s) c ((List.range (e - s)).map fun i => Value.int .u8 (B (s + i))) rfl (by simp) (unhide HN) (fun u hu => by simp at hu; obtain ⟨i, _, rfl⟩ := hu; rfl) (by unfold maxLen; omega) (by omega) (by simp) ?_; intro v' w3 own3 gr3 nil3; obtain ⟨av, cv, rfl⟩ := own_shape own3)
    go_ret
    refine ⟨⟨_, _, _, rfl⟩, ?_⟩
    exact ((Below.refl _ _).alloc (Nat.le_refl _) _).trans (gto (rb := w.heap.size) gr3 (Nat.le_refl _) (by simp))
end Go.Proofs.Qxb6616086aFmt.Dw
