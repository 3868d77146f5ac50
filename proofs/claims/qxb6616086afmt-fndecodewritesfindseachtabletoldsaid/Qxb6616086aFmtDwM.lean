import Derived.Test.Qxb6616086aFmtDwL
namespace Go.Proofs.Qxb6616086aFmt.Dw
open Go.RowKit Go.Deep Go.Extern.Stop Go.Stop Go.Extern Go.Maps Go.WideShapes Go.ChangeMaps
set_option linter.unusedVariables false

/-- what indexLast leaves -/
structure IP (w w' : World) (wb : Nat) (v ix ix' : Value) (L : List ByteArray) : Prop where
  hd : w'.heap[wb]? = some (.cells #[v, ix'] 31 (0, 0))
  ixx : IX w' ix' L
  new : ∀ mb, ix' = .map (some mb) → w.heap.size ≤ mb ∨ ix = .map (some mb)
  os : w'.os = w.os
  tape : w'.tape = w.tape
  output : w'.output = w.output
  size : w.heap.size ≤ w'.heap.size
  block : ∀ k : Nat, k < w.heap.size → k ≠ wb → ix ≠ .map (some k) → w'.heap[k]? = w.heap[k]?

theorem indexLast (wb : Nat) (v ix : Value) (L : List ByteArray) (x : ByteArray) (w : World) (hd : w.heap[wb]? = some (.cells #[v, ix] 31 (0, 0))) (T : TN w v (L ++ [x])) (I : IX w ix L) (hx : ¬ x ∈ L) (nd : L.Nodup) (sz : ∀ y ∈ L ++ [x], y.size ≤ maxLen) (hL : L.length < 65536) :
    Calls Tryf.prog 28 #[.pointer (some ⟨wb, 1, none⟩), v, .func (.func 27) #[] #[]] w fun e w' => e = .returned (.tuple #[]) ∧ ∃ ix', IP w w' wb v ix ix' (L ++ [x]) := by
  have hlen : (L ++ [x]).length = L.length + 1 := by simp
  rcases I with ⟨rfl, h8⟩ | ⟨mb, rfl, M, h8⟩
  · by_cases h : L.length + 1 ≤ 8
    · refine (indexShort wb v (L ++ [x]) w hd T (by omega)).mono ?_
      rintro e w' ⟨rfl, rfl⟩
      exact ⟨rfl, _, hd, .inl ⟨rfl, by omega⟩, (fun mb h => by cases h), rfl, rfl, rfl, Nat.le_refl _, fun _ _ _ _ => rfl⟩
    · refine (indexMake wb v (L ++ [x]) w hd T (by omega) (by omega) (List.nodup_append.2 ⟨nd, by simp, fun a ha b hb => by simp at hb; subst hb; intro e; exact hx (e ▸ ha)⟩) sz).mono ?_
      rintro e w' ⟨rfl, I⟩
      refine ⟨rfl, _, I.hd, .inr ⟨_, rfl, ?_, by omega⟩, (fun mb h => by cases h; exact .inl (Nat.le_refl _)), I.os, I.tape, I.output, I.size, fun k hk hne _ => I.block k hk hne⟩
      have := I.map
      rwa [List.take_length] at this
  · refine (indexMore wb mb v L x w hd T M hx (sz x (by simp)) hL).mono ?_
    rintro e w' ⟨rfl, M', g⟩
    have hlt : wb < w.heap.size := (Array.getElem?_eq_some_iff.1 hd).1
    have hne : wb ≠ mb := by
      intro e
      obtain ⟨es, c, h⟩ := M.obj
      rw [← e, hd] at h
      cases h
    exact ⟨rfl, _, (g.block wb hlt (fun e => hne (Option.some.inj e))).trans hd, .inr ⟨mb, rfl, M', by omega⟩, fun mb' h => .inr h, g.os, g.tape, g.output, g.size, fun k hk _ h2 => g.block k hk (fun e => h2 (by rw [Option.some.inj e]))⟩

/-- the tables of a write set: names L; their changes valid slices of at most m, in the room too -/
def TbS (w : World) (base : Nat) (v : Value) (L : List ByteArray) (m : Nat) : Prop :=
  (v = .slice none 0 0 ∧ L = []) ∨ ∃ (g cap : Nat) (cur : Array Value), v = .slice (some ⟨g, 0, none⟩) L.length cap ∧ base ≤ g ∧ w.heap[g]? = some (.cells cur 54 (0, 0)) ∧ cur.size = cap * 4 ∧ L.length ≤ cap ∧ cap ≤ maxLen ∧
    (∀ (i : Nat) s, L[i]? = some s → cur[i * 4]? = some (.string s)) ∧ (∀ i : Nat, i < cap → ∃ u k, cur[i * 4 + 2]? = some u ∧ k ≤ m ∧ Chg w base 58 3 u k)

section
variable {w w' : World} {base : Nat} {v : Value} {L : List ByteArray} {m : Nat}
theorem TbS.tn (h : TbS w base v L m) : TN w v L := by
  rcases h with h | ⟨g, cap, cur, h1, h2, h3, h4, h5, h6, h7, h8⟩
  · exact .inl h
  · exact .inr ⟨g, cap, h1, fun i s hi => (cell_of_row _ _ _ _ _ _ h3).trans (h7 i s hi)⟩
theorem TbS.mono {m' : Nat} (h : TbS w base v L m) (hm : m ≤ m') : TbS w base v L m' := by
  rcases h with h | ⟨g, cap, cur, h1, h2, h3, h4, h5, h6, h7, h8⟩
  · exact .inl h
  · exact .inr ⟨g, cap, cur, h1, h2, h3, h4, h5, h6, h7, fun i hi => by obtain ⟨u, k, a, b, c⟩ := h8 i hi; exact ⟨u, k, a, by omega, c⟩⟩
/-- cells of types 54 and 58 stay -/
theorem TbS.stay (h : TbS w base v L m) (h54 : ∀ (k : Nat) c, base ≤ k → w.heap[k]? = some (.cells c 54 (0, 0)) → w'.heap[k]? = w.heap[k]?) (h58 : ∀ (k : Nat) c, base ≤ k → w.heap[k]? = some (.cells c 58 (0, 0)) → w'.heap[k]? = w.heap[k]?) : TbS w' base v L m := by
  rcases h with h | ⟨g, cap, cur, h1, h2, h3, h4, h5, h6, h7, h8⟩
  · exact .inl h
  · refine .inr ⟨g, cap, cur, h1, h2, (h54 g cur h2 h3).trans h3, h4, h5, h6, h7, fun i hi => ?_⟩
    obtain ⟨u, k, a, b, xs, c0, c⟩ := h8 i hi
    refine ⟨u, k, a, b, xs, c0, ?_⟩
    rcases c with c | ⟨g', cap', cur', d1, d2, d3, d4⟩
    · exact .inl c
    · exact .inr ⟨g', cap', cur', d1, d2, (h58 g' cur' d2 d3).trans d3, d4⟩
theorem TbS.below (h : TbS w base v L m) (hb : Below w.heap.size w w') : TbS w' base v L m :=
  h.stay (fun k c _ hk => hb.block k (Array.getElem?_eq_some_iff.1 hk).1) (fun k c _ hk => hb.block k (Array.getElem?_eq_some_iff.1 hk).1)
/-- a change is appended somewhere -/
theorem TbS.chg (h : TbS w base v L m) (s : Shp base 58 w w') : TbS w' base v L m := by
  rcases h with h | ⟨g, cap, cur, h1, h2, h3, h4, h5, h6, h7, h8⟩
  · exact .inl h
  · exact .inr ⟨g, cap, cur, h1, h2, s.other (by decide) h3, h4, h5, h6, h7, fun i hi => by obtain ⟨u, k, a, b, c⟩ := h8 i hi; exact ⟨u, k, a, b, c.same s⟩⟩
end

/-- what 'table' may turn: the write set's own block, rows of tables, maps -/
structure Mv (base wb : Nat) (w w' : World) : Prop where
  os : w'.os = w.os
  tape : w'.tape = w.tape
  output : w'.output = w.output
  size : w.heap.size ≤ w'.heap.size
  low : ∀ k : Nat, k < base → w'.heap[k]? = w.heap[k]?
  keep : ∀ (k : Nat) (c : Array Value) (e : TypeId), w.heap[k]? = some (.cells c e (0, 0)) → e ≠ 54 → k ≠ wb → w'.heap[k]? = w.heap[k]?

/-- the write set at wb -/
structure WS (w : World) (base wb : Nat) (v ix : Value) (L : List ByteArray) (m : Nat) : Prop where
  hd : w.heap[wb]? = some (.cells #[v, ix] 31 (0, 0))
  lo : base ≤ wb
  tb : TbS w base v L m
  ixx : IX w ix L
  ib : ∀ mb, ix = .map (some mb) → base ≤ mb
  nd : L.Nodup
  sz : ∀ x ∈ L, x.size ≤ 65536
end Go.Proofs.Qxb6616086aFmt.Dw
