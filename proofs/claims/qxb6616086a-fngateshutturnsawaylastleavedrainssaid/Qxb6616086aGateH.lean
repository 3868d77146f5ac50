import Derived.Test.Qxb6616086aGateG
namespace Go.Proofs.Qxb6616086a.Gate
open Go.RowKit Go.Deep Go.Conc
set_option linter.unusedVariables false

theorem Gt.turnBelow {w w' : World} {gb cb : Nat} (B : Nat) (h : Turn gb cb w w') (h1 : B ≤ gb) (h2 : B ≤ cb) (h3 : B ≤ w.heap.size) : Below B w w' := h.below h1 h2 h3

/-- the gate drained just where the sum is nought -/
theorem Ebb.gt {w : World} {gb cb : Nat} {f : Nat → Int} (h : Ebb w gb cb f) : ∃ dn, Gt w gb cb f 1 dn 0 (decide (wsum f 16 = 0)) := by
  unfold Ebb at h
  by_cases e : wsum f 16 = 0
  · rw [if_pos e] at h
    exact ⟨1, by simpa [e] using h⟩
  · rw [if_neg e] at h
    exact ⟨0, by simpa [e] using h⟩

/-- a call that is turned away leaves the shards as they were -/
theorem Ebb.back {w : World} {gb cb : Nat} {f : Nat → Int} {i : Nat} (hi : i < 16) (h : Ebb w gb cb (upd (upd f i (wrap64 (f i + 1))) i (wrap64 (wrap64 (f i + 1) + -1)))) (hf : In64 (f i)) (hs : wsum f 16 ≠ 0) : Gt w gb cb f 1 0 0 false := by
  have e : ∀ j, upd (upd f i (wrap64 (f i + 1))) i (wrap64 (wrap64 (f i + 1) + -1)) j = f j := by
    intro j
    unfold upd
    by_cases h : j = i
    · subst h
      rw [if_pos rfl]
      unfold In64 at hf
      unfold wrap64
      omega
    · rw [if_neg h, if_neg h]
  have h2 : upd (upd f i (wrap64 (f i + 1))) i (wrap64 (wrap64 (f i + 1) + -1)) = f := funext e
  rw [h2] at h
  unfold Ebb at h
  rw [if_neg hs] at h
  exact h

theorem countsOn (gb cb : Nat) (f : Nat → Int) (sh dn m : Int) (cl : Bool) (w : World) (G : Gt w gb cb f sh dn m cl) (w' : World) (h : Below w.heap.size w w') :
    Calls Try.prog 8 #[.pointer (some ⟨gb, 0, none⟩)] w' fun e w'' => e = .returned (.agg (arr f)) ∧ Below w.heap.size w w'' := by
  refine (counts gb cb f sh dn m cl w' (G.below h G.lt G.clt)).mono ?_
  rintro e w2 ⟨rfl, hb⟩
  exact ⟨rfl, h.trans (hb.mono h.size)⟩
theorem drainedOn (gb cb : Nat) (f : Nat → Int) (sh dn m : Int) (cl : Bool) (w : World) (G : Gt w gb cb f sh dn m cl) (w' : World) (h : Below w.heap.size w w') :
    Calls Try.prog 9 #[.pointer (some ⟨gb, 0, none⟩)] w' fun e w'' => e = .returned (.bool cl) ∧ Below w.heap.size w w'' := by
  refine (drained gb cb f sh dn m cl w' (G.below h G.lt G.clt)).mono ?_
  rintro e w2 ⟨rfl, rfl⟩
  exact ⟨rfl, h⟩
theorem loadOn (w : World) (vb : Nat) (f : Nat → Int) (q : w.heap[vb]? = some (.cells (arr f) 22 (0, 0))) (l : vb < w.heap.size) (w' : World) (h : Below w.heap.size w w') :
    w'.rangeAt vb 0 (arr f).toList := by
  have := World.rangeAt_of_block ((h.block _ l).trans q) 0 16
  have e : (arr f).extract 0 (0 + 16) = arr f := by
    have := arr_size f
    rw [show 0 + 16 = (arr f).size by omega]
    exact Array.extract_size
  rwa [e] at this

set_option maxHeartbeats 2000000 in
set_option maxRecDepth 100000 in
theorem walkIn (f : Nat → Int) (a b c : Nat) (ha : a < 16) (hb : b < 16) (hc : c < 16) (hf : ∀ i, i < 16 → In64 (f i)) (w : World) :
    Calls Try.prog 3 #[.agg (arr f), .int .i64 a, .int .i64 b, .int .i64 c] w fun e w' => e = .returned (.bool true) ∧ Below w.heap.size w w' := by
  have a0 : ¬ (a : Int) < 0 := by omega
  have a1 : ¬ (16 : Int) ≤ (a : Int) := by omega
  have b0 : ¬ (b : Int) < 0 := by omega
  have b1 : ¬ (16 : Int) ≤ (b : Int) := by omega
  have c0 : ¬ (c : Int) < 0 := by omega
  have c1 : ¬ (16 : Int) ≤ (c : Int) := by omega
  have g0 : (w.alloc (.cells (arr f) 22)).heap[w.heap.size]? = some (.cells (arr f) 22 (0, 0)) := blk_alloc_new _ _
  go_enter Try.func3, Try.ntmps3
  go_wp2_with (first | refine wpList_load_row rfl 22 (.tmp 4) rfl w.heap.size rfl 22 (arr f) (0, 0) _ g0 Try.underlying22 rfl (info22 f) ?_)
  refine (zzSum f _).mono ?_
  rintro e w1 ⟨rfl, B1⟩
  have g1 := (B1.block w.heap.size (by simp)).trans g0
  have HB1 := hide ((((Below.refl w.heap.size w).alloc (Nat.le_refl _) (.cells (arr f) 22 (0, 0)))).trans (B1.mono (by simp)))
  have l1 : w.heap.size < w1.heap.size := Nat.lt_of_lt_of_le (by simp) B1.size
  clear B1 g0
  by_cases hs : wsum f 16 < 0
  · go_wp2_with fail
    go_ret
    exact ⟨rfl, unhide HB1⟩
  have N := newGate f w1
  go_wp2_with (first | refine wpList_load_row rfl 22 (.tmp 4) rfl w.heap.size rfl 22 (arr f) (0, 0) _ g1 Try.underlying22 rfl (info22 f) ?_)
  refine N.mono ?_
  rintro e w2 ⟨rfl, G2, B2⟩
  clear N
  have g2 := (B2.block w.heap.size l1).trans g1
  have HB2 := hide ((unhide HB1).trans (B2.mono (by omega)))
  generalize hgb : w1.heap.size + 1 + 1 = gb at *
  generalize hcb : w1.heap.size + 1 = cb at *
  have lg : w.heap.size < gb := by omega
  have lc : w.heap.size < cb := by omega
  clear B2 g1 HB1 hgb hcb
  have N := hide (enterOpen gb cb f 0 0 false a ha w2 G2)
  have l2 := G2.lt
  clear G2
  go_wp2_with fail
  refine (unhide N).mono ?_
  rintro e w3 ⟨rfl, G3, T3⟩
  have g3 := (T3.block w.heap.size (by omega) (by omega) (by omega)).trans g2
  have HB3 := hide ((unhide HB2).trans (T3.below (by omega) (by omega) (by omega)))
  have l3 := G3.lt
  have N2 := hide (zzshut gb cb _ _ _ _ _ w3 G3)
  clear N HB2 G3 T3 g2
  go_wp2_with fail
  refine (unhide N2).mono ?_
  rintro e w4 ⟨rfl, G4, T4⟩
  have g4 := (T4.block w.heap.size (by omega) (by omega) (by omega)).trans g3
  have HB4 := hide ((unhide HB3).trans (T4.below (by omega) (by omega) (by omega)))
  have l4 := G4.lt
  have N3 := hide (enterShut gb cb _ b hb w4 G4)
  clear N2 HB3 G4 T4 g3
  go_wp2_with fail
  refine (unhide N3).mono ?_
  rintro e w5 ⟨rfl, G5, T5⟩
  have g5 := (T5.block w.heap.size (by omega) (by omega) (by omega)).trans g4
  have HB5 := hide ((unhide HB4).trans (T5.below (by omega) (by omega) (by omega)))
  have hs1 : wsum (upd f a (wrap64 (f a + 1))) 16 ≠ 0 := by
    rw [wsum_upd, if_pos ha]
    have := wsum_in f 16
    unfold In64 at this
    unfold wrap64
    omega
  have hf1 : ∀ i, i < 16 → In64 (upd f a (wrap64 (f a + 1)) i) := by
    intro i hi
    unfold upd
    by_cases e : i = a
    · rw [if_pos e]; exact wrap_in _
    · rw [if_neg e]; exact hf i hi
  have G6 := G5.back hb (hf1 b hb) hs1
  clear N3 HB4 G5 T5 g4
  have l5 := G6.lt
  have l5' := G6.clt
  have HG6 := hide G6
  clear G6
  have z5 : (w5.alloc (.cells #[.int .i64 0, .int .i64 0, .int .i64 0, .int .i64 0, .int .i64 0, .int .i64 0, .int .i64 0, .int .i64 0, .int .i64 0, .int .i64 0, .int .i64 0, .int .i64 0, .int .i64 0, .int .i64 0, .int .i64 0, .int .i64 0] 22)).heap[w5.heap.size]? = some (.cells #[.int .i64 0, .int .i64 0, .int .i64 0, .int .i64 0, .int .i64 0, .int .i64 0, .int .i64 0, .int .i64 0, .int .i64 0, .int .i64 0, .int .i64 0, .int .i64 0, .int .i64 0, .int .i64 0, .int .i64 0, .int .i64 0] 22 (0, 0)) := blk_alloc_new _ _
  go_upto_region 11 with (first | refine wpList_load_row rfl 22 (.tmp 4) rfl w.heap.size rfl 22 (arr f) (0, 0) _ g5 Try.underlying22 rfl (info22 f) ?_ | refine wpList_store_row rfl 22 (.tmp 13) (.tmp 50) rfl w5.heap.size (arr f) rfl rfl 22 _ z5 (info22 f) (by rw [arr_size]; rfl) (arr_one f) ?_)
  have q6 := setRow_heap _ _ _ (arr f) _ _ z5
  have b6 : Below w5.heap.size w5 ((w5.alloc (.cells #[.int .i64 0, .int .i64 0, .int .i64 0, .int .i64 0, .int .i64 0, .int .i64 0, .int .i64 0, .int .i64 0, .int .i64 0, .int .i64 0, .int .i64 0, .int .i64 0, .int .i64 0, .int .i64 0, .int .i64 0, .int .i64 0] 22)).setRow w5.heap.size (arr f)) :=
    ((Below.refl _ _).alloc (Nat.le_refl _) _).trans ⟨rfl, rfl, rfl, by simp, fun k hk => setRow_other _ _ _ _ (by omega)⟩
  generalize ((w5.alloc (.cells #[.int .i64 0, .int .i64 0, .int .i64 0, .int .i64 0, .int .i64 0, .int .i64 0, .int .i64 0, .int .i64 0, .int .i64 0, .int .i64 0, .int .i64 0, .int .i64 0, .int .i64 0, .int .i64 0, .int .i64 0, .int .i64 0] 22)).setRow w5.heap.size (arr f)) = w6 at *
  have r6 := arr_row q6
  have k6 := r6.cell ha
  have f6 := r6.frozen a
  unfold av at k6
  have R6 := hide r6
  have HB6 := hide b6
  clear q6 r6 b6 z5 g5
  go_upto_region 12 with fail
  generalize hf1e : upd f a (wrap64 (f a + 1)) = f1 at *
  have q7 : (w6.setCell ⟨w5.heap.size, a, none⟩ (.int .i64 (wrap64 (f a + 1)))).heap[w5.heap.size]? = some (.cells (arr f1) 22 (0, 0)) := row_arr (((unhide R6).set a _).congr fun i hi => by
    subst hf1e
    unfold av upd
    by_cases e : i = a
    · rw [if_pos e, if_pos e]
    · rw [if_neg e, if_neg e])
  have l6 : w5.heap.size < w6.heap.size := (unhide R6).lt
  have G7 : Gt (w6.setCell ⟨w5.heap.size, a, none⟩ (.int .i64 (wrap64 (f a + 1)))) gb cb f1 1 0 0 false := ((unhide HG6).below (unhide HB6) l5 l5').other _ (by simp; omega) (by simp; omega)
  have B7 : Below w.heap.size w (w6.setCell ⟨w5.heap.size, a, none⟩ (.int .i64 (wrap64 (f a + 1)))) := ((unhide HB5).trans ((unhide HB6).mono (by omega))).setCell (by simp; omega) _
  have l7 : w5.heap.size < (w6.setCell ⟨w5.heap.size, a, none⟩ (.int .i64 (wrap64 (f a + 1)))).heap.size := by simpa using l6
  clear R6 HB6 HB5 HG6 l6 k6 f6
  generalize w6.setCell ⟨w5.heap.size, a, none⟩ (.int .i64 (wrap64 (f a + 1))) = w7 at *
  generalize hvb : w5.heap.size = vb at *
  have lvb : w.heap.size ≤ vb := by omega
  clear hvb l5 l5' l4 l3 l2
  have HG7 := hide G7
  have HB7 := hide B7
  have l8 := G7.lt
  have l9 := G7.clt
  have gd := guard22
  have he := eq_self f1
  clear G7 B7
  have C8 := hide (fun w' (h : w'.rangeAt vb 0 (arr f1).toList ∧ Below w7.heap.size w7 w') => countsOn gb cb f1 1 0 0 false w7 (unhide HG7) w' h.2)
  have C9 := hide (fun w' (h : w'.rangeAt vb 0 (arr f1).toList ∧ Below w7.heap.size w7 w') => drainedOn gb cb f1 1 0 0 false w7 (unhide HG7) w' h.2)
  have hld := hide (loadOn w7 vb f1 q7 l7)
  have u22 := Try.underlying22
  have n22 : (Try.prog.info? 22).map (·.size) = some (arr f1).toList.length := by rw [info22 f1]; simp
  go_cut [70] (fun v wc => v = .bool false ∧ Below w7.heap.size w7 wc)
  case first =>
    go_region_held3 (fun w' => w'.rangeAt vb 0 (arr f1).toList ∧ Below w7.heap.size w7 w') ((refine (fun h => ⟨unhide hld _ h, h⟩) ?_; first | exact (Below.refl _ _).drew | assumption))
      ((first | (go_at_call 8; refine (unhide C8 _ (by assumption)).mono ?_; rintro e w' ⟨rfl, hw⟩) | (go_at_call 9; refine (unhide C9 _ (by assumption)).mono ?_; rintro e w' ⟨rfl, hw⟩)))
    all_goals (go_wp2_with fail; go_meet; exact ⟨rfl, hw⟩)
  case rest =>
    obtain ⟨rfl, B8⟩ := hcut
    have G8 := (unhide HG7).below B8 l8 l9
    have q8 := (B8.block _ l7).trans q7
    have HB8 := hide ((unhide HB7).trans (B8.mono (by have := (unhide HB7).size; omega)))
    have l10 : vb < wc.heap.size := Nat.lt_of_lt_of_le l7 B8.size
    have lw : w.heap.size ≤ wc.heap.size := (unhide HB8).size
    clear B8 HB7 HG7 C8 C9 hld q7 l7 l8 l9 n22 he
    have nvb : gb ≠ vb := by
      intro e
      have := cell_of_row _ _ 912 _ _ _ q8
      rw [← e, G8.shut, Array.getElem?_eq_none (by rw [arr_size]; omega)] at this
      simp at this
    have nvc : cb ≠ vb := by
      intro e
      have := G8.ch
      rw [e, q8] at this
      simp at this
    have N := hide (zzleave gb cb f1 c hc wc G8)
    clear G8
    go_wp2_with fail
    refine (unhide N).mono ?_
    rintro e w9 ⟨rfl, E9, T9⟩
    have q9 := (T9.block vb l10 (Ne.symm nvb) (Ne.symm nvc)).trans q8
    have HB9 := hide ((unhide HB8).trans (T9.below (by omega) (by omega) lw))
    have r9 := arr_row q9
    have k9 := r9.cell hc
    have f9 := r9.frozen c
    unfold av at k9
    have R9 := hide r9
    have HE := hide E9
    have l11 := r9.lt
    clear q8 q9 r9 E9 T9 N HB8 l10
    go_upto_region 16 with fail
    obtain ⟨dn, G9⟩ := (unhide HE).gt
    have hsum : wsum (upd f1 c (wrap64 (f1 c + -1))) 16 = wsum f 16 := by
      rw [wsum_upd, if_pos hc, ← hf1e, wsum_upd, if_pos ha]
      have := wsum_in f 16
      unfold In64 at this
      unfold wrap64
      omega
    rw [hsum] at G9
    generalize hf2e : upd f1 c (wrap64 (f1 c + -1)) = f2 at *
    have q10 : (w9.setCell ⟨vb, c, none⟩ (.int .i64 (wrap64 (f1 c - 1)))).heap[vb]? = some (.cells (arr f2) 22 (0, 0)) := row_arr (((unhide R9).set c _).congr fun i hi => by
      subst hf2e
      unfold av upd
      by_cases e : i = c
      · rw [if_pos e, if_pos e, Int.sub_eq_add_neg]
      · rw [if_neg e, if_neg e])
    have G10 := G9.other (a := ⟨vb, c, none⟩) (.int .i64 (wrap64 (f1 c - 1))) nvb nvc
    have B10 : Below w.heap.size w (w9.setCell ⟨vb, c, none⟩ (.int .i64 (wrap64 (f1 c - 1)))) := (unhide HB9).setCell (by simpa using lvb) _
    have l12 : vb < (w9.setCell ⟨vb, c, none⟩ (.int .i64 (wrap64 (f1 c - 1)))).heap.size := by simpa using l11
    clear HE R9 HB9 hsum G9 k9 f9 l11 hf2e
    generalize w9.setCell ⟨vb, c, none⟩ (.int .i64 (wrap64 (f1 c - 1))) = w10 at *
    have HB10 := hide B10
    have he := eq_self f2
    have hld := hide (loadOn w10 vb f2 q10 l12)
    have n22 : (Try.prog.info? 22).map (·.size) = some (arr f2).toList.length := by rw [info22 f2]; simp
    have C8 := hide (fun w' (h : w'.rangeAt vb 0 (arr f2).toList ∧ Below w10.heap.size w10 w') => countsOn gb cb f2 1 dn 0 _ w10 G10 w' h.2)
    have lw10 : w.heap.size ≤ w10.heap.size := B10.size
    clear B10 hf1e hs1 hf1 hf
    by_cases h0 : wsum f 16 = 0
    · rw [show decide (wsum f 16 = 0) = true by simpa using h0] at G10
      have C9 := hide (fun w' (h : w'.rangeAt vb 0 (arr f2).toList ∧ Below w10.heap.size w10 w') => drainedOn gb cb f2 1 dn 0 true w10 G10 w' h.2)
      have h1 : (wsum f 16 == 0) = true := by simpa using h0
      clear G10 h0
      go_region_held3 (fun w' => w'.rangeAt vb 0 (arr f2).toList ∧ Below w10.heap.size w10 w') ((refine (fun h => ⟨unhide hld _ h, h⟩) ?_; first | exact (Below.refl _ _).drew | assumption))
        ((first | (go_at_call 8; refine (unhide C8 _ (by assumption)).mono ?_; rintro e w' ⟨rfl, hw⟩) | (go_at_call 9; refine (unhide C9 _ (by assumption)).mono ?_; rintro e w' ⟨rfl, hw⟩)))
      all_goals (go_wp2_with fail; go_ret; exact ⟨rfl, (unhide HB10).trans (hw.mono lw10)⟩)
    · rw [show decide (wsum f 16 = 0) = false by simpa using h0] at G10
      have C9 := hide (fun w' (h : w'.rangeAt vb 0 (arr f2).toList ∧ Below w10.heap.size w10 w') => drainedOn gb cb f2 1 dn 0 false w10 G10 w' h.2)
      have h1 : (wsum f 16 == 0) = false := by simpa using h0
      clear G10 h0
      go_region_held3 (fun w' => w'.rangeAt vb 0 (arr f2).toList ∧ Below w10.heap.size w10 w') ((refine (fun h => ⟨unhide hld _ h, h⟩) ?_; first | exact (Below.refl _ _).drew | assumption))
        ((first | (go_at_call 8; refine (unhide C8 _ (by assumption)).mono ?_; rintro e w' ⟨rfl, hw⟩) | (go_at_call 9; refine (unhide C9 _ (by assumption)).mono ?_; rintro e w' ⟨rfl, hw⟩)))
      all_goals (go_wp2_with fail; go_ret; exact ⟨rfl, (unhide HB10).trans (hw.mono lw10)⟩)
end Go.Proofs.Qxb6616086a.Gate
