import Derived.Test.Qxb6616086aFmtDwI
import Derived.Laws.Cover3
import Derived.Maps.Own
import Derived.Maps.OwnSet
import Derived.StringKeys
namespace Go.Proofs.Qxb6616086aFmt.Dw
open Go.RowKit Go.Deep Go.Extern.Stop Go.Stop Go.Extern Go.Maps Go.WideShapes Go.ChangeMaps Go.ChangeShapes
set_option linter.unusedVariables false

def kl (s : ByteArray) : Lit := .string s.data.toList
theorem kl_ne {s t : ByteArray} (h : s ≠ t) : kl s ≠ kl t := by
  intro e
  unfold kl at e
  simp only [Lit.string.injEq] at e
  apply h
  cases s; cases t
  simp_all
theorem law9 : Keyed Tryf.prog 9 := string_keyed Tryf.underlying9
theorem zero3 (w : World) : (zeroValue 3).run Tryf.prog w = .ok (.int .i64 0) w := by kernel_rfl

theorem isKey (s : ByteArray) : WideAt.IsKeyLit (kl s) := trivial
theorem neqNil (m : Option Nat) (w : World) : (binOp .neq 29 (.map m) (.map none)).run Tryf.prog w = .ok (.bool (!m.isNone)) w := run_neq_map_nil w 29 9 3 m Tryf.underlying29

/-- block mb is a map from each name of L to its place -/
def MapN (w : World) (mb : Nat) (L : List ByteArray) : Prop :=
  ∃ D : DataW Unit, IsMap D ∧ w.ownsMap Tryf.prog 9 (plainElem Tryf.prog 3) mb L.length D ∧ (∀ (i : Nat) s, L[i]? = some s → D.atKey (kl s) (.lit (.int .i64 0)) = .lit (.int .i64 i) ∧ Maps.has D (kl s) = true) ∧ ∀ x, ¬ x ∈ L → Maps.has D (kl x) = false

theorem MapN.made (w : World) : MapN (w.alloc (.map #[] 0)) w.heap.size [] :=
  ⟨.map [], isMap_empty, World.ownsMap_made w _ _ _, fun i s h => by simp at h, fun x _ => rfl⟩
theorem MapN.put {w : World} {mb : Nat} {L : List ByteArray} {x : ByteArray} (h : MapN w mb L) (hx : ¬ x ∈ L) (hs : x.size ≤ maxLen) (hL : L.length < 65536) :
    ∃ w', (Instr.mapUpdate 29 (.map (some mb)) (.string x) (.int .i64 (L.length : Nat))).run Tryf.prog w = .ok () w' ∧ MapN w' mb (L ++ [x]) ∧ w.grownBy w' (some mb) := by
  obtain ⟨D, h0, h1, h2, h3⟩ := h
  obtain ⟨w', r1, r2, r3⟩ := h1.update law9 Tryf.underlying29 (by unfold maxLen; omega) (WideMaps.keyOf_string_mk Tryf.underlying9 hs) (plainElem_int Tryf.underlying3 (WalkArith.wf_i64 (n := (L.length : Int)) (by omega)))
  refine ⟨w', r1, ⟨_, h0.put (kl x) _, by simpa [kl] using r2, fun i s hi => ?_, fun y hy => ?_⟩, r3⟩
  · by_cases e : i < L.length
    · rw [List.getElem?_append_left e] at hi
      have hne : s ≠ x := fun e => hx (e ▸ List.mem_of_getElem? hi)
      have := h2 i s hi
      refine ⟨?_, ?_⟩
      · exact (atKey_put_other (kl_ne hne) _ _).trans this.1
      · exact (has_put_other (kl_ne hne) _).trans this.2
    · have hlt : i < (L ++ [x]).length := (List.getElem?_eq_some_iff.1 hi).1
      have : i = L.length := by simp at hlt; omega
      subst this
      simp at hi
      subst hi
      exact ⟨atKey_put_same h0 (isKey _) _ _, has_put_same h0 (isKey _) _⟩
  · have hne : y ≠ x := fun e => hy (by simp [e])
    exact (has_put_other (kl_ne hne) _).trans (h3 y (fun h => hy (by simp [h])))
theorem MapN.grown {w w' : World} {mb : Nat} {L : List ByteArray} {r : Option Nat} (h : MapN w mb L) (g : w.grownBy w' r) (hr : some mb ≠ r) : MapN w' mb L := by
  obtain ⟨D, h0, h1, h2, h3⟩ := h
  exact ⟨D, h0, h1.kept g hr, h2, h3⟩
theorem MapN.block {w w' : World} {mb : Nat} {L : List ByteArray} (h : MapN w mb L) (e : w'.heap[mb]? = w.heap[mb]?) : MapN w' mb L := by
  obtain ⟨D, h0, ⟨es, c, hb, F, hs, hD⟩, h2, h3⟩ := h
  exact ⟨D, h0, ⟨es, c, e.trans hb, F, hs, hD⟩, h2, h3⟩
theorem MapN.obj {w : World} {mb : Nat} {L : List ByteArray} (h : MapN w mb L) : ∃ es c, w.heap[mb]? = some (.map es c) := by
  obtain ⟨D, h0, ⟨es, c, hb, F, hs, hD⟩, h2, h3⟩ := h
  exact ⟨es, c, hb⟩
theorem MapN.lt {w : World} {mb : Nat} {L : List ByteArray} (h : MapN w mb L) : mb < w.heap.size := by
  obtain ⟨es, c, h⟩ := h.obj
  exact (Array.getElem?_eq_some_iff.1 h).1

/-- the tables' names -/
def TN (w : World) (v : Value) (L : List ByteArray) : Prop :=
  (v = .slice none 0 0 ∧ L = []) ∨ ∃ g cap, v = .slice (some ⟨g, 0, none⟩) L.length cap ∧ ∀ (i : Nat) s, L[i]? = some s → w.cell? ⟨g, i * 4, none⟩ = some (.string s)
/-- the index over them -/
def IX (w : World) (ix : Value) (L : List ByteArray) : Prop := (ix = .map none ∧ L.length ≤ 8) ∨ ∃ mb, ix = .map (some mb) ∧ MapN w mb L ∧ 8 < L.length

/-- where x is -/
def FD (L : List ByteArray) (x : ByteArray) (r : Int) : Prop := (∃ i : Nat, r = i ∧ L[i]? = some x) ∨ (r = -1 ∧ ¬ x ∈ L)
def FA (L : List ByteArray) (x : ByteArray) (e : Ending) : Prop := ∃ r : Int, e = .returned (.int .i64 r) ∧ FD L x r

theorem TN.shape {w : World} {v : Value} {L : List ByteArray} (h : TN w v L) : ∃ a cap, v = .slice a L.length cap := by
  rcases h with ⟨rfl, rfl⟩ | ⟨g, cap, rfl, _⟩
  · exact ⟨none, 0, rfl⟩
  · exact ⟨_, cap, rfl⟩
theorem TN.name {w : World} {v : Value} {L : List ByteArray} (h : TN w v L) {i : Nat} {s : ByteArray} (hi : L[i]? = some s) : ∃ g cap, v = .slice (some ⟨g, 0, none⟩) L.length cap ∧ w.cell? ⟨g, i * 4, none⟩ = some (.string s) := by
  rcases h with ⟨rfl, rfl⟩ | ⟨g, cap, rfl, h⟩
  · simp at hi
  · exact ⟨g, cap, rfl, h i s hi⟩

set_option maxHeartbeats 1000000 in
set_option maxRecDepth 100000 in
theorem findIn (ix v : Value) (L : List ByteArray) (x : ByteArray) (w : World) (T : TN w v L) (I : IX w ix L) (hL : L.length ≤ 65536) (hx : x.size ≤ maxLen) :
    Calls Tryf.prog 26 #[ix, v, .string x, .func (.func 27) #[] #[]] w fun e w' => FA L x e ∧ w' = w := by
  have hnn := neqNil
  rcases I with ⟨rfl, h8⟩ | ⟨mb, rfl, M, h8⟩
  · obtain ⟨a, cap, rfl⟩ := T.shape
    have HT := hide T
    clear T
    go_enter Tryf.func26, Tryf.ntmps26
    go_wp2_with fail
    go_loop [24] (fun i => ∃ k : Nat, k ≤ L.length ∧ i = .int .i64 k ∧ ∀ j, j < k → L[j]? ≠ some x) (fun i => L.length - (intOf i).toNat)
    case atStart => exact ⟨0, by omega, rfl, fun j hj => absurd hj (Nat.not_lt_zero j)⟩
    case round =>
      obtain ⟨k, hk, rfl, hno⟩ := hrel
      by_cases hlt : k < L.length
      · obtain ⟨s, hs⟩ : ∃ s, L[k]? = some s := ⟨L[k], List.getElem?_eq_getElem hlt⟩
        obtain ⟨g, cap', e1, hc⟩ := (unhide HT).name hs
        simp only [Value.slice.injEq, true_and] at e1
        obtain ⟨rfl, rfl⟩ := e1
        have i0 : (0 : Int) ≤ (k : Int) := by omega
        have i1 : (k : Int) < (L.length : Int) := by omega
        by_cases hxs : s = x
        · have e3 : (s.toList == x.toList) = true := by rw [hxs]; simp
          have hin := hide (hxs ▸ hs)
          clear hno hxs hs
          go_wp2_with (go_at_call 27; refine (nameOf _ _ _ _ hc).mono ?_; rintro e w' ⟨rfl, hw⟩; subst hw)
          go_ret
          exact ⟨⟨_, rfl, .inl ⟨k, rfl, unhide hin⟩⟩, rfl⟩
        · have e3 := beqL_ne hxs
          have HN := hide (show ∀ j, j < k + 1 → L[j]? ≠ some x from fun j hj => by
            by_cases h : j = k
            · subst h; rw [hs]; intro e; exact hxs (Option.some.inj e)
            · exact hno j (by omega))
          clear hno hxs hs
          go_wp2_with (go_at_call 27; refine (nameOf _ _ _ _ hc).mono ?_; rintro e w' ⟨rfl, hw⟩; subst hw)
          go_round
          case rel => exact ⟨k + 1, by omega, by go_num, unhide HN⟩
          case measure => simp [intOf]; omega
      · have hke : k = L.length := by omega
        have hnin : ¬ x ∈ L := by
          intro h
          obtain ⟨j, hj, e⟩ := List.getElem_of_mem h
          exact hno j (by omega) (by rw [List.getElem?_eq_getElem hj, e])
        have HN := hide hnin
        have i1 : ¬ (k : Int) < (L.length : Int) := by omega
        clear hno hnin hke
        go_wp2_with fail
        go_ret
        exact ⟨⟨_, rfl, .inr ⟨rfl, unhide HN⟩⟩, rfl⟩
  · obtain ⟨D, h0, h1, h2, h3⟩ := M
    have hkey : keyOf Tryf.prog 9 (.string x) = some (kl x) := WideMaps.keyOf_string_mk Tryf.underlying9 hx
    have hz := zero3
    have HT := hide T
    have H1 := hide h1
    have H2 := hide h2
    have H3 := hide h3
    clear T h1 h2 h3
    by_cases hin : x ∈ L
    · obtain ⟨i, hi, e⟩ := List.getElem_of_mem hin
      have hi' : L[i]? = some x := by rw [List.getElem?_eq_getElem hi, e]
      have hh := (unhide H2 i x hi')
      have hh2 := hh.2
      have HH := hide hh.1
      have HI := hide hi'
      clear hh e hi'
      go_enter Tryf.func26, Tryf.ntmps26
      go_wp2_with (first | (refine wpList_lookup_own_ok_int _ rfl _ _ 29 rfl 9 3 .i64 law9 Tryf.underlying29 Tryf.underlying3 (hz _) mb L.length D rfl (unhide H1) _ (kl x) rfl hkey ?_; intro c hat hwc))
      go_ret
      rw [unhide HH] at hat
      cases hat
      exact ⟨⟨_, rfl, .inl ⟨i, rfl, unhide HI⟩⟩, rfl⟩
    · have hh2 := unhide H3 x hin
      have HN := hide hin
      clear hin
      go_enter Tryf.func26, Tryf.ntmps26
      go_wp2_with (first | (refine wpList_lookup_own_ok_int _ rfl _ _ 29 rfl 9 3 .i64 law9 Tryf.underlying29 Tryf.underlying3 (hz _) mb L.length D rfl (unhide H1) _ (kl x) rfl hkey ?_; intro c hat hwc))
      go_ret
      exact ⟨⟨_, rfl, .inr ⟨rfl, unhide HN⟩⟩, rfl⟩
end Go.Proofs.Qxb6616086aFmt.Dw
