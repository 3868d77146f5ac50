import Derived.Test.Qxb6616086aFmtDwT
namespace Go.Proofs.Qxb6616086aFmt.Dw
open Go.RowKit Go.Deep Go.Extern.Stop Go.Stop Go.Extern Go.Maps Go.WideShapes Go.ChangeMaps
set_option linter.unusedVariables false

theorem TN.other {w w' : World} {rb : Nat} {v : Value} {L : List ByteArray} (h : TN w v L) (hr : w.heap[rb]? = some (.cells #[.slice none 0 0, .map none] 31 (0, 0))) (hk : ∀ k : Nat, k < w.heap.size → k ≠ rb → w'.heap[k]? = w.heap[k]?) : TN w' v L := by
  rcases h with h | ⟨g, cap, e, h⟩
  · exact .inl h
  · refine .inr ⟨g, cap, e, fun i s hi => ?_⟩
    have hc := h i s hi
    have hne : g ≠ rb := by
      intro e2
      have h2 := cell_of_row _ _ (i * 4) _ _ _ hr
      rw [← e2, hc] at h2
      rcases Nat.eq_zero_or_pos i with h0 | h0
      · subst h0; simp at h2
      · rw [Array.getElem?_eq_none (by simp; omega)] at h2; cases h2
    exact (World.cell?_of_block (w := w) (a := ⟨g, i * 4, none⟩) (hk g (World.block_lt_of_cell? w _ hc) hne)).trans hc
theorem IX.other {w w' : World} {rb : Nat} {ix : Value} {L : List ByteArray} (h : IX w ix L) (hr : w.heap[rb]? = some (.cells #[.slice none 0 0, .map none] 31 (0, 0))) (hk : ∀ k : Nat, k < w.heap.size → k ≠ rb → w'.heap[k]? = w.heap[k]?) : IX w' ix L := by
  rcases h with h | ⟨mb, e, M, h8⟩
  · exact .inl h
  · refine .inr ⟨mb, e, M.block (hk mb M.lt ?_), h8⟩
    intro e2
    obtain ⟨es, c, ho⟩ := M.obj
    rw [e2, hr] at ho
    cases ho

set_option maxHeartbeats 1000000 in
theorem zzDecodeWrites (F : Interp) (ad : Option Addr) (pb n : Nat) (B : Nat → Int) (w : World) (hF : F.answers w.tape) (hn : n ≤ 65536) (had : 0 < n → ad = some ⟨pb, 0, none⟩) (hP : PB w pb n B) (hpb : 0 < n → pb < w.heap.size) :
    Calls Tryf.prog 8 #[.slice ad n n] w fun r w' => DW w w' B n r := by
  have B1 : Below w.heap.size w (w.alloc (.cells #[.slice none 0 0, .map none] 31)) := (Below.refl _ _).alloc (Nat.le_refl _) _
  have P1 : PB (w.alloc (.cells #[.slice none 0 0, .map none] 31)) pb n B := fun i hi => by
    rw [World.cell?_alloc_past _ _ _ (hpb (by omega))]; exact hP i hi
  have C := hide (decodeWrites F ad pb n B (w.alloc (.cells #[.slice none 0 0, .map none] 31)) (by exact hF) hn had P1 (fun h => by have := hpb h; simp; omega))
  have HB := hide B1
  clear B1 P1 hP hF
  go_enter Tryf.func8, Tryf.ntmps8
  go_wp2_with fail
  refine (unhide C).mono ?_
  rintro r w2 ⟨v, ix, er, rfl, T, I, B2⟩
  have hr : w2.heap[w.heap.size]? = some (.cells #[.slice none 0 0, .map none] 31 (0, 0)) := (B2.block _ (by simp)).trans (blk_alloc_new _ _)
  have t0 : w2.cell? ⟨w.heap.size, 0, none⟩ = some (.slice none 0 0) := by simp [World.cell?, hr]
  have t1 : w2.cell? ⟨w.heap.size, 1, none⟩ = some (.map none) := by simp [World.cell?, hr]
  have z0 : w2.frozen? ⟨w.heap.size, 0, none⟩ = false := by simp [World.frozen?, hr]
  have z1 : w2.frozen? ⟨w.heap.size, 1, none⟩ = false := by simp [World.frozen?, hr]
  obtain ⟨av, cv, rfl⟩ := T.shape
  obtain ⟨om, rfl⟩ : ∃ o, ix = .map o := by
    rcases I with ⟨e, _⟩ | ⟨mb, e, _⟩
    · exact ⟨_, e⟩
    · exact ⟨_, e⟩
  have hk : ∀ (a b : Value) (k : Nat), k < w2.heap.size → k ≠ w.heap.size → ((w2.setCell ⟨w.heap.size, 0, none⟩ a).setCell ⟨w.heap.size, 1, none⟩ b).heap[k]? = w2.heap[k]? := fun a b k _ hne => (Below.heap_setCell _ _ _ _ hne).trans (Below.heap_setCell _ _ _ _ hne)
  have HT := hide (T.other hr (hk (.slice av (outer B n 0 []).length cv) (.map om)))
  have HI := hide (I.other hr (hk (.slice av (outer B n 0 []).length cv) (.map om)))
  have HW := hide ((((unhide HB).trans (B2.mono (by simp))).setCell (p := ⟨w.heap.size, 0, none⟩) (by simp) (.slice av (outer B n 0 []).length cv)).setCell (p := ⟨w.heap.size, 1, none⟩) (by simp) (.map om))
  clear T I hk hr B2 C
  go_wp2_with fail
  refine bodyPost_ret (v := .tuple #[.agg #[.slice av (outer B n 0 []).length cv, .map om], er]) (by simp [results, Tryf.results8, go_sem, t0, t1]) rfl ?_
  exact ⟨_, _, _, rfl, unhide HT, unhide HI, unhide HW⟩
end Go.Proofs.Qxb6616086aFmt.Dw
