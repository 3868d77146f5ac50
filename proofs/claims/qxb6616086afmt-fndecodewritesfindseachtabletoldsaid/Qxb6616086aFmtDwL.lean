import Derived.Test.Qxb6616086aFmtDwK
import Derived.Deep.DeepCutAuto
import Derived.Deep.RegionWith
namespace Go.Proofs.Qxb6616086aFmt.Dw
open Go.RowKit Go.Deep Go.Extern.Stop Go.Stop Go.Extern Go.Maps Go.WideShapes Go.ChangeMaps
set_option linter.unusedVariables false

theorem TN.below {w w' : World} {v : Value} {L : List ByteArray} (h : TN w v L) (hb : Below w.heap.size w w') : TN w' v L := by
  rcases h with h | ⟨g, cap, e, h⟩
  · exact .inl h
  · exact .inr ⟨g, cap, e, fun i s hi => (hb.cell (p := ⟨g, i * 4, none⟩) (World.block_lt_of_cell? w _ (h i s hi))).trans (h i s hi)⟩
theorem IX.below {w w' : World} {ix : Value} {L : List ByteArray} (h : IX w ix L) (hb : Below w.heap.size w w') : IX w' ix L := by
  rcases h with h | ⟨mb, e, h, h8⟩
  · exact .inl h
  · exact .inr ⟨mb, e, h.block (hb.block _ h.lt), h8⟩

set_option maxHeartbeats 1000000 in
theorem find (ix v : Value) (L : List ByteArray) (x : ByteArray) (w : World) (T : TN w v L) (I : IX w ix L) (hL : L.length ≤ 65536) (hx : x.size ≤ maxLen) :
    Calls Tryf.prog 18 #[.agg #[v, ix], .string x] w fun e w' => FA L x e ∧ Below w.heap.size w w' := by
  have B1 : Below w.heap.size w (w.alloc (.cells #[v, ix] 31)) := (Below.refl _ _).alloc (Nat.le_refl _) _
  have C := hide (findIn ix v L x _ (T.below B1) (I.below B1) hL hx)
  have HB := hide B1
  clear T I B1
  go_enter Tryf.func18, Tryf.ntmps18
  go_wp2_with (go_at_call 26; refine (unhide C).mono ?_; rintro e w' ⟨⟨r, rfl, hr⟩, hw⟩; subst hw)
  go_ret
  exact ⟨⟨_, rfl, hr⟩, unhide HB⟩

set_option maxHeartbeats 1000000 in
theorem zzFind (ix v : Value) (L : List ByteArray) (x : ByteArray) (w : World) (T : TN w v L) (I : IX w ix L) (hL : L.length ≤ 65536) (hx : x.size ≤ maxLen) :
    Calls Tryf.prog 12 #[.agg #[v, ix], .string x] w fun e w' => FA L x e ∧ Below w.heap.size w w' := by
  have B1 : Below w.heap.size w (w.alloc (.cells #[v, ix] 31)) := (Below.refl _ _).alloc (Nat.le_refl _) _
  have C := hide (find ix v L x _ (T.below B1) (I.below B1) hL hx)
  have HB := hide B1
  clear T I B1
  go_enter Tryf.func12, Tryf.ntmps12
  go_wp2_with (go_at_call 18; refine (unhide C).mono ?_; rintro e w' ⟨⟨r, rfl, hr⟩, hw⟩)
  go_ret
  exact ⟨⟨_, rfl, hr⟩, (unhide HB).trans (hw.mono (by simp))⟩

/-- what indexLast leaves: the index over L, and which block has turned -/
structure IL (w w' : World) (wb : Nat) (v : Value) (L : List ByteArray) : Prop where
  ex : ∃ ix, w'.heap[wb]? = some (.cells #[v, ix] 31 (0, 0)) ∧ IX w' ix L ∧ (∀ mb, ix = .map (some mb) → w.heap.size ≤ mb ∨ w.heap[wb]? = some (.cells #[v, ix] 31 (0, 0)))
  os : w'.os = w.os
  tape : w'.tape = w.tape
  output : w'.output = w.output
  size : w.heap.size ≤ w'.heap.size
  block : ∀ k : Nat, k < w.heap.size → k ≠ wb → (∀ es c, w.heap[k]? ≠ some (.map es c)) → w'.heap[k]? = w.heap[k]?
  maps : ∀ k : Nat, k < w.heap.size → (∀ ix, w.heap[wb]? = some (.cells #[v, ix] 31 (0, 0)) → ix ≠ .map (some k)) → k ≠ wb → w'.heap[k]? = w.heap[k]?

set_option maxHeartbeats 1000000 in
/-- a short list wants no index -/
theorem indexShort (wb : Nat) (v : Value) (L : List ByteArray) (w : World) (hd : w.heap[wb]? = some (.cells #[v, .map none] 31 (0, 0))) (T : TN w v L) (hL : L.length ≤ 8) :
    Calls Tryf.prog 28 #[.pointer (some ⟨wb, 1, none⟩), v, .func (.func 27) #[] #[]] w fun e w' => e = .returned (.tuple #[]) ∧ w' = w := by
  have hnn := neqNil
  have c1 : w.cell? ⟨wb, 1, none⟩ = some (.map none) := by simp [World.cell?, hd]
  obtain ⟨a, cap, rfl⟩ := T.shape
  have i0 : ¬ (8 : Int) < (L.length : Int) := by omega
  clear hd T
  go_enter Tryf.func28, Tryf.ntmps28
  go_wp2_with fail
  go_end0
  exact ⟨rfl, rfl⟩

set_option maxHeartbeats 1000000 in
/-- one name more in the index -/
theorem indexMore (wb mb : Nat) (v : Value) (L : List ByteArray) (x : ByteArray) (w : World) (hd : w.heap[wb]? = some (.cells #[v, .map (some mb)] 31 (0, 0))) (T : TN w v (L ++ [x])) (M : MapN w mb L) (hx : ¬ x ∈ L) (hs : x.size ≤ maxLen) (hL : L.length < 65536) :
    Calls Tryf.prog 28 #[.pointer (some ⟨wb, 1, none⟩), v, .func (.func 27) #[] #[]] w fun e w' => e = .returned (.tuple #[]) ∧ MapN w' mb (L ++ [x]) ∧ w.grownBy w' (some mb) := by
  have hnn := neqNil
  have c1 : w.cell? ⟨wb, 1, none⟩ = some (.map (some mb)) := by simp [World.cell?, hd]
  obtain ⟨g, cap, rfl, cg⟩ := T.name (i := L.length) (s := x) (by simp)
  have Md : MapN w.drew mb L := M
  obtain ⟨w2, hup, M2, g2⟩ := Md.put hx hs hL
  have i0 : (0 : Int) ≤ (L.length : Int) := by omega
  have HM := hide M2
  have HG := hide g2
  have cg' : w.drew.cell? ⟨g, L.length * 4, none⟩ = some (.string x) := cg
  clear hd T M Md M2 g2 hx
  go_enter Tryf.func28, Tryf.ntmps28
  go_wp2_with fail
  have i1 : (L.length : Int) < (L.length : Int) + 1 := by omega
  have i2 : (L.length : Int) < ((L ++ [x]).length : Int) := by simp; omega
  go_region_with ((go_at_call 27; refine (nameOf _ _ _ _ cg').mono ?_; rintro e w' ⟨rfl, hw⟩; subst hw))
  all_goals
    go_end0
    exact ⟨rfl, unhide HM, gtrans (gbelow (Below.refl _ _).drew) (unhide HG)⟩

theorem nodup_get {L : List ByteArray} (nd : L.Nodup) {i j : Nat} {x : ByteArray} (hi : L[i]? = some x) (hj : L[j]? = some x) : i = j := by
  obtain ⟨li, ei⟩ := List.getElem?_eq_some_iff.1 hi
  obtain ⟨lj, ej⟩ := List.getElem?_eq_some_iff.1 hj
  have hp := List.pairwise_iff_getElem.1 nd
  rcases Nat.lt_trichotomy i j with h | h | h
  · exact absurd (ei.trans ej.symm) (hp i j li lj h)
  · exact h
  · exact absurd (ej.trans ei.symm) (hp j i lj li h)

/-- while the index is made -/
structure IM (w wr : World) (wb mb : Nat) (v : Value) (L : List ByteArray) (k : Nat) : Prop where
  hd : wr.heap[wb]? = some (.cells #[v, .map (some mb)] 31 (0, 0))
  map : MapN wr mb (L.take k)
  grown : (w.alloc (.map #[] 0)).grownBy wr (some mb) ∨ True
  os : wr.os = w.os
  tape : wr.tape = w.tape
  output : wr.output = w.output
  size : w.heap.size ≤ wr.heap.size
  block : ∀ k : Nat, k < w.heap.size → k ≠ wb → wr.heap[k]? = w.heap[k]?

theorem IM.start {w : World} {wb : Nat} {v : Value} {L : List ByteArray} (hd : w.heap[wb]? = some (.cells #[v, .map none] 31 (0, 0))) : IM w ((w.alloc (.map #[] 0)).setCell ⟨wb, 1, none⟩ (.map (some w.heap.size))) wb w.heap.size v L 0 := by
  have hlt : wb < w.heap.size := (Array.getElem?_eq_some_iff.1 hd).1
  have hd' : (w.alloc (.map #[] 0)).heap[wb]? = some (.cells #[v, .map none] 31 (0, 0)) := (Below.heap_alloc _ _ _ hlt).trans hd
  refine ⟨?_, ?_, .inr trivial, rfl, rfl, rfl, by simp, fun k hk hne => ?_⟩
  · simp [World.setCell, Array.getElem?_modify, hd']
  · exact (MapN.made w).block (Below.heap_setCell _ _ _ _ (by simp; omega))
  · exact (Below.heap_setCell _ _ _ _ hne).trans (Below.heap_alloc _ _ _ hk)

theorem IM.step {w wr w2 : World} {wb mb : Nat} {v : Value} {L : List ByteArray} {k : Nat} {x : ByteArray} (I : IM w wr wb mb v L k) (hmb : w.heap.size ≤ mb) (hx : L[k]? = some x) (M : MapN w2 mb (L.take k ++ [x])) (g : wr.grownBy w2 (some mb)) : IM w w2 wb mb v L (k + 1) := by
  have hlt : wb < wr.heap.size := (Array.getElem?_eq_some_iff.1 I.hd).1
  have hne : wb ≠ mb := by
    intro e
    obtain ⟨es, c, h⟩ := I.map.obj
    rw [← e, I.hd] at h
    cases h
  refine ⟨(g.block wb hlt (fun e => hne (Option.some.inj e))).trans I.hd, ?_, .inr trivial, g.os.trans I.os, g.tape.trans I.tape, g.output.trans I.output, Nat.le_trans I.size g.size, fun j hj hne2 => ?_⟩
  · rw [List.take_add_one, hx]; exact M
  · exact (g.block j (Nat.lt_of_lt_of_le hj I.size) (fun e => by cases e; omega)).trans (I.block j hj hne2)

set_option maxHeartbeats 1000000 in
set_option maxRecDepth 100000 in
/-- the index is made -/
theorem indexMake (wb : Nat) (v : Value) (L : List ByteArray) (w : World) (hd : w.heap[wb]? = some (.cells #[v, .map none] 31 (0, 0))) (T : TN w v L) (hL : 8 < L.length) (hL2 : L.length ≤ 65536) (nd : L.Nodup) (hs : ∀ x ∈ L, x.size ≤ maxLen) :
    Calls Tryf.prog 28 #[.pointer (some ⟨wb, 1, none⟩), v, .func (.func 27) #[] #[]] w fun e w' => e = .returned (.tuple #[]) ∧ IM w w' wb w.heap.size v L L.length := by
  have hnn := neqNil
  have hmk : ∀ (x : Int) (w : World), (Instr.makeMap 29 (some (.int .i64 x))).run Tryf.prog w = .ok (.map (some w.heap.size)) (w.alloc (.map #[] 0)) := by
    intro x w
    simp [Instr.makeMap, run_underlying Tryf.underlying29, asInt, asIntOf, Result.andThen]
  have c1 : w.cell? ⟨wb, 1, none⟩ = some (.map none) := by simp [World.cell?, hd]
  have f1 : w.frozen? ⟨wb, 1, none⟩ = false := by simp [World.frozen?, hd]
  have hlt : wb < w.heap.size := (Array.getElem?_eq_some_iff.1 hd).1
  obtain ⟨a, cap, rfl⟩ := T.shape
  have i0 : (8 : Int) < (L.length : Int) := by omega
  have I0 := hide (IM.start (L := L) hd)
  have HT := hide T
  have HD := hide hd
  have HND := hide nd
  have HS := hide hs
  clear hd T nd hs
  go_enter Tryf.func28, Tryf.ntmps28
  go_wp2_with fail
  go_loopw [37] (fun i wr => ∃ k : Nat, k ≤ L.length ∧ i = .int .i64 k ∧ IM w wr wb w.heap.size (.slice a L.length cap) L k) (fun i _ => L.length - (intOf i).toNat)
  case atStart => first | exact ⟨0, by omega, rfl, unhide I0⟩ | exact ⟨0, by omega, rfl, by have := unhide I0; rwa [World.setCell_alloc_past _ _ _ _ hlt] at this⟩
  case round =>
    obtain ⟨k, hk, rfl, I⟩ := hrel
    clear I0 c1 f1 hmk
    by_cases hkn : k < L.length
    · obtain ⟨x, hx⟩ : ∃ s, L[k]? = some s := ⟨L[k], List.getElem?_eq_getElem hkn⟩
      obtain ⟨g, cap', e1, hc⟩ := (unhide HT).name hx
      simp only [Value.slice.injEq, true_and] at e1
      obtain ⟨rfl, rfl⟩ := e1
      have hgl := World.block_lt_of_cell? w _ hc
      have hgw : g ≠ wb := by
        intro e
        have h2 := cell_of_row _ _ (k * 4) _ _ _ (unhide HD)
        rw [← e, hc] at h2
        rcases Nat.eq_zero_or_pos k with h0 | h0
        · subst h0; simp at h2
        · rw [Array.getElem?_eq_none (by simp; omega)] at h2; cases h2
      have hcr : wr.cell? ⟨g, k * 4, none⟩ = some (.string x) := (World.cell?_of_block (w := w) (a := ⟨g, k * 4, none⟩) (I.block g hgl hgw)).trans hc
      have hcd : wr.drew.cell? ⟨g, k * 4, none⟩ = some (.string x) := hcr
      have cw : wr.cell? ⟨wb, 1, none⟩ = some (.map (some w.heap.size)) := by simp [World.cell?, I.hd]
      have hnx : ¬ x ∈ L.take k := by
        intro h
        obtain ⟨j, hj, e⟩ := List.getElem_of_mem h
        have hj' : j < k := by simp at hj; omega
        rw [List.getElem_take] at e
        have e2 : L[j]? = some x := by rw [List.getElem?_eq_getElem (by omega), e]
        have := nodup_get (unhide HND) e2 hx
        omega
      have Md : MapN wr.drew w.heap.size (L.take k) := I.map
      have hlk : (L.take k).length = k := by simp; omega
      obtain ⟨w2, hup, M2, g2⟩ := Md.put hnx (unhide HS x (List.mem_of_getElem? hx)) (by omega)
      rw [hlk] at hup
      have HI := hide (I.step (Nat.le_refl _) hx M2 (gtrans (gbelow (Below.refl _ _).drew) g2))
      have i1 : (0 : Int) ≤ (k : Int) := by omega
      have i2 : (k : Int) < (L.length : Int) := by omega
      clear I Md M2 g2 hnx hx hlk
      go_upto_region 8 with fail
      go_region_with ((go_at_call 27; refine (nameOf _ _ _ _ hcd).mono ?_; rintro e w' ⟨rfl, hw⟩; subst hw))
      all_goals
        go_wp2_with fail
        go_roundw
        case rel => exact ⟨k + 1, by omega, by go_num, unhide HI⟩
        case measure => simp [intOf]; omega
    · have hke : k = L.length := by omega
      subst hke
      have HI := hide I
      clear I
      go_wp2_with fail
      go_end0
      exact ⟨rfl, unhide HI⟩
end Go.Proofs.Qxb6616086aFmt.Dw
