import Derived.Test.Qxb6616086aFmtDwF
namespace Go.Proofs.Qxb6616086aFmt.Dw
open Go.RowKit Go.Deep Go.Extern.Stop Go.Stop Go.Extern
set_option linter.unusedVariables false

/-- the model's tables: their names are L; their changes are valid slices of at most m -/
def TsS (w : World) (base : Nat) (v : Value) (L : List ByteArray) (m : Nat) : Prop :=
  ∃ xs, w.ownsRow base 42 3 v L.length xs ∧ (∀ i, i < L.length → xs[3 * i]? = (L[i]?).map Value.string) ∧ (∀ i, i < L.length → ∃ u k, xs[3 * i + 2]? = some u ∧ k ≤ m ∧ Chg w base 51 3 u k)

section
variable {w w' : World} {base : Nat} {v : Value} {L : List ByteArray} {m : Nat}
theorem TsS.nil (w : World) (base m : Nat) : TsS w base (.slice none 0 0) [] m := ⟨[], World.ownsRow_nil w base 42 3, fun i h => absurd h (Nat.not_lt_zero i), fun i h => absurd h (Nat.not_lt_zero i)⟩
theorem TsS.mono {m' : Nat} (h : TsS w base v L m) (hm : m ≤ m') : TsS w base v L m' := by
  obtain ⟨xs, h1, h2, h3⟩ := h
  exact ⟨xs, h1, h2, fun i hi => by obtain ⟨u, k, a, b, c⟩ := h3 i hi; exact ⟨u, k, a, by omega, c⟩⟩
theorem TsS.shape (h : TsS w base v L m) : ∃ a cap, v = .slice a L.length cap := by
  obtain ⟨xs, ⟨_, h1⟩, _⟩ := h
  rcases h1 with ⟨rfl, h2⟩ | ⟨g, cap, cur, rfl, _⟩
  · exact ⟨none, 0, by rw [h2]⟩
  · exact ⟨_, cap, rfl⟩
theorem TsS.name (h : TsS w base v L m) {i : Nat} {s : ByteArray} (hi : L[i]? = some s) : ∃ g cap, v = .slice (some ⟨g, 0, none⟩) L.length cap ∧ w.cell? ⟨g, i * 3, none⟩ = some (.string s) := by
  have hlt : i < L.length := (List.getElem?_eq_some_iff.1 hi).1
  obtain ⟨xs, h1, h2, _⟩ := h
  rcases h1.2 with ⟨rfl, h3⟩ | ⟨g, cap, cur, rfl, h3⟩
  · omega
  · refine ⟨g, cap, rfl, ?_⟩
    rw [h1.cellAt (i * 3) (by omega), Nat.mul_comm, h2 i hlt, hi]
    rfl
/-- rows of another type turn -/
theorem TsS.below (h : TsS w base v L m) (hb : Below w.heap.size w w') : TsS w' base v L m := by
  obtain ⟨xs, h1, h2, h3⟩ := h
  exact ⟨xs, own_other h1 (Shp.ofBelow (e := 51) hb) (by decide), h2, fun i hi => by obtain ⟨u, k, a, b, c⟩ := h3 i hi; exact ⟨u, k, a, b, c.same (Shp.ofBelow hb)⟩⟩
theorem TsS.chg (h : TsS w base v L m) (s : Shp base 51 w w') : TsS w' base v L m := by
  obtain ⟨xs, h1, h2, h3⟩ := h
  exact ⟨xs, own_other h1 s (by decide), h2, fun i hi => by obtain ⟨u, k, a, b, c⟩ := h3 i hi; exact ⟨u, k, a, b, c.same s⟩⟩
/-- one more table -/
theorem TsS.push {v' : Value} {x : ByteArray} {xs : List Value} (h2 : ∀ i, i < L.length → xs[3 * i]? = (L[i]?).map Value.string) (h3 : ∀ i, i < L.length → ∃ u k, xs[3 * i + 2]? = some u ∧ k ≤ m ∧ Chg w base 51 3 u k)
    (hx : xs.length = L.length * 3) (own : w'.ownsRow base 42 3 v' (L.length + 1) (xs ++ [.string x, .bool false, .slice none 0 0])) (s : Shp base 42 w w') : TsS w' base v' (L ++ [x]) m := by
  refine ⟨_, by simpa using own, fun i hi => ?_, fun i hi => ?_⟩
  · by_cases h : i < L.length
    · rw [List.getElem?_append_left (by omega), List.getElem?_append_left h]
      exact h2 i h
    · have : i = L.length := by simp at hi; omega
      subst this
      rw [List.getElem?_append_right (by omega), List.getElem?_append_right (Nat.le_refl _)]
      rw [show 3 * L.length - xs.length = 0 by omega, Nat.sub_self]
      rfl
  · by_cases h : i < L.length
    · rw [List.getElem?_append_left (by omega)]
      obtain ⟨u, k, a, b, c⟩ := h3 i h
      exact ⟨u, k, a, b, c.other s (by decide)⟩
    · have : i = L.length := by simp at hi; omega
      subst this
      rw [List.getElem?_append_right (by omega)]
      rw [show 3 * L.length + 2 - xs.length = 2 by omega]
      exact ⟨.slice none 0 0, 0, rfl, by omega, Chg.nil _ _ _ _⟩
end

theorem info42 : ∃ i, Tryf.prog.info? 42 = some i ∧ i.zero = some (.agg #[.string ⟨#[]⟩, .bool false, .slice none 0 0]) ∧ i.size = 3 ∧ i.bytes = 48 := by
  have h : (Tryf.prog.info? 42).map (fun i => (i.zero, i.size, i.bytes)) = some (some (.agg #[.string ⟨#[]⟩, .bool false, .slice none 0 0]), 3, 48) := by kernel_rfl
  obtain ⟨i, hi, hb⟩ := Option.map_eq_some_iff.1 h
  simp only [Prod.mk.injEq] at hb
  exact ⟨i, hi, hb.1, hb.2.1, hb.2.2⟩

/-- what zzTableAt leaves -/
def TA (w w' : World) (base : Nat) (L : List ByteArray) (m : Nat) (x : ByteArray) (e : Ending) : Prop :=
  ∃ (v' : Value) (t : Nat), e = .returned (.tuple #[v', .int .i64 t]) ∧ TsS w' base v' (addN L x) m ∧ t < (addN L x).length ∧ Below base w w' ∧ w.heap.size ≤ w'.heap.size

set_option maxHeartbeats 1000000 in
set_option maxRecDepth 100000 in
theorem zzTableAt (base : Nat) (v : Value) (L : List ByteArray) (m : Nat) (x : ByteArray) (w : World) (T : TsS w base v L m) (hL : L.length ≤ 65536) (hb : base ≤ w.heap.size) :
    Calls Tryf.prog 14 #[v, .string x] w fun e w' => TA w w' base L m x e := by
  obtain ⟨a, cap, rfl⟩ := T.shape
  obtain ⟨i0, hi0, hz0, hz1, hz2⟩ := info42
  have HT := hide T
  clear T
  go_enter Tryf.func14, Tryf.ntmps14
  go_wp2_with fail
  go_loop [6] (fun i => ∃ k : Nat, k ≤ L.length ∧ i = .int .i64 k ∧ ∀ j, j < k → L[j]? ≠ some x) (fun i => L.length - (intOf i).toNat)
  case atStart => exact ⟨0, by omega, rfl, fun j hj => absurd hj (Nat.not_lt_zero j)⟩
  case round =>
    obtain ⟨k, hk, rfl, hno⟩ := hrel
    by_cases hlt : k < L.length
    · obtain ⟨s, hs⟩ : ∃ s, L[k]? = some s := ⟨L[k], List.getElem?_eq_getElem hlt⟩
      obtain ⟨g, cap', e1, hc⟩ := (unhide HT).name hs
      simp only [Value.slice.injEq, true_and] at e1
      obtain ⟨rfl, rfl⟩ := e1
      have i0 : (0 : Int) ≤ (k : Int) := by omega
      have i1 : (k : Int) < (L.length : Int) := by omega
      by_cases hx : s = x
      · have e2 : (s == x) = true := (beqB s x).2 hx
        have e3 : (s.toList == x.toList) = true := by rw [hx]; simp
        have hin := hide (show x ∈ L from hx ▸ List.mem_of_getElem? hs)
        clear hno hx hs
        go_wp2
        go_ret2
        refine ⟨_, k, rfl, ?_, ?_, Below.refl _ _, Nat.le_refl _⟩
        · rw [addN_pos (unhide hin)]; exact unhide HT
        · rw [addN_pos (unhide hin)]; exact hlt
      · have e2 : (s == x) = false := beqB_ne hx
        have e3 := beqL_ne hx
        have HN := hide (show ∀ j, j < k + 1 → L[j]? ≠ some x from fun j hj => by
          by_cases h : j = k
          · subst h; rw [hs]; intro e; exact hx (Option.some.inj e)
          · exact hno j (by omega))
        clear hno hx hs
        go_wp2
        go_round
        case rel => exact ⟨k + 1, by omega, by go_num, unhide HN⟩
        case measure => simp [intOf]; omega
    · have hke : k = L.length := by omega
      subst hke
      have hnin : ¬ x ∈ L := by
        intro h
        obtain ⟨j, hj, e⟩ := List.getElem_of_mem h
        exact hno j hj (by rw [List.getElem?_eq_getElem hj, e])
      obtain ⟨xs, o1, o2, o3⟩ := unhide HT
      have HN := hide hnin
      have O1 := hide o1
      have O2 := hide o2
      have O3 := hide o3
      clear hno hnin o1 o2 o3
      go_wp2_with (first | (at_builtin; refine wpList_append_shp _ rfl _ _ 25 rfl base 42 i0 (.agg #[.string ⟨#[]⟩, .bool false, .slice none 0 0]) 3 48 Tryf.underlying25 hi0 hz0 hz1 hz2 rfl (by decide) _ _ _ rfl ((unhide O1).alloc _) ⟨w.heap.size, 0, none⟩ 1 [.string x, .bool false, .slice none 0 0] rfl rfl (cell_three_new _ _ _ _ _) (fun u hu => by simp at hu; rcases hu with rfl | rfl | rfl <;> rfl) (by unfold maxLen; omega) (by omega) (by simp; omega) ?_; intro v' w3 own3 shp3))
      go_ret2
      have B1 : Below w.heap.size w (w.alloc (.cells #[.string x, .bool false, .slice none 0 0] 42)) := (Below.refl _ _).alloc (Nat.le_refl _) _
      refine ⟨_, L.length, rfl, ?_, ?_, (B1.mono hb).trans (shp3.below (by simp; omega)), Nat.le_trans B1.size shp3.size⟩
      · rw [addN_neg (unhide HN)]
        exact TsS.push (w := w.alloc (.cells #[.string x, .bool false, .slice none 0 0] 42)) (unhide O2) (fun i hi => by obtain ⟨u, k, a, b, c⟩ := unhide O3 i hi; exact ⟨u, k, a, b, c.same (Shp.ofBelow B1)⟩) (unhide O1).1 own3 shp3
      · rw [addN_neg (unhide HN)]; simp
end Go.Proofs.Qxb6616086aFmt.Dw
