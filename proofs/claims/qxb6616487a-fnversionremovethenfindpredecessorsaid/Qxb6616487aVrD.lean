import Derived.Test.Qxb6616487aVrC
import Derived.Deep.DeepCutAuto
namespace Go.Proofs.Qxb6616487a.Vr
open Go.RowKit Go.Deep
set_option linter.unusedVariables false

/-- a fresh txn -/
def txnObj (t : Int) : Obj := .cells #[.int .i64 0, .int .i64 t, .int .u8 0, .slice none 0 0, .slice none 0 0, .slice none 0 0, .pointer none, .pointer none, .slice none 0 0, .slice none 0 0, .slice none 0 0, .pointer none, .int .u8 0, .slice none 0 0, .slice none 0 0, .slice none 0 0, .bool false] 83 (0, 0)

set_option maxHeartbeats 400000 in
theorem newVersion (t r : Int) (w : World) :
    Calls Try.prog 39 #[.int .i64 t, .int .i64 r] w fun e w' => e = .returned (.agg #[.pointer (some ⟨w.heap.size + 1, 0, none⟩), .int .i64 r]) ∧ w' = (w.alloc (.cells #[.pointer (some ⟨w.heap.size + 1, 0, none⟩), .int .i64 r] 93)).alloc (txnObj t) := by
  go_enter Try.func39, Try.ntmps39
  go_wp2
  exact bodyPost_ret (v := .agg #[.pointer (some ⟨w.heap.size + 1, 0, none⟩), .int .i64 r]) (by simp [results, Try.results39, go_sem]) rfl ⟨rfl, rfl⟩

set_option maxHeartbeats 400000 in
theorem versionWriter (x : Nat) (r : Int) (w : World) :
    Calls Try.prog 40 #[.agg #[.pointer (some ⟨x, 0, none⟩), .int .i64 r]] w fun e w' => e = .returned (.pointer (some ⟨x, 0, none⟩)) ∧ w' = w.alloc (.cells #[.pointer (some ⟨x, 0, none⟩), .int .i64 r] 93) := by
  go_enter Try.func40, Try.ntmps40
  go_wp2
  go_ret
  exact ⟨rfl, rfl⟩

/-- the versions that came in, told as the walks want them -/
structure Blks (w : World) (a : Option Addr) (N : Nat) (L : Nat → Nat) (A : Nat → Option Addr) (C : Nat → Nat) (T R : Nat → Nat → Int) : Prop where
  row : ∀ i, i < N → ∃ b off, a = some ⟨b, off, none⟩ ∧ b < w.heap.size ∧ w.cell? ⟨b, off + i, none⟩ = some (.slice (A i) (L i) (C i))
  el : ∀ i k, i < N → k < L i → ∃ b off, A i = some ⟨b, off, none⟩ ∧ b < w.heap.size ∧ w.cell? ⟨b, off + k * 2, none⟩ = some (.int .i64 (T i k)) ∧ w.cell? ⟨b, off + k * 2 + 1, none⟩ = some (.int .i64 (R i k))

theorem Blks.below {w w' : World} {a : Option Addr} {N : Nat} {L : Nat → Nat} {A : Nat → Option Addr} {C : Nat → Nat} {T R : Nat → Nat → Int} (h : Blks w a N L A C T R) (hb : Below w.heap.size w w') : Blks w' a N L A C T R where
  row i hi := by
    obtain ⟨b, off, e, hl, hc⟩ := h.row i hi
    exact ⟨b, off, e, Nat.lt_of_lt_of_le hl hb.size, (hb.cell (p := ⟨b, off + i, none⟩) hl).trans hc⟩
  el i k hi hk := by
    obtain ⟨b, off, e, hl, h1, h2⟩ := h.el i k hi hk
    exact ⟨b, off, e, Nat.lt_of_lt_of_le hl hb.size, (hb.cell (p := ⟨b, off + k * 2, none⟩) hl).trans h1, (hb.cell (p := ⟨b, off + k * 2 + 1, none⟩) hl).trans h2⟩

/-- a txn block with timestamp t -/
def TxAt (w : World) (x : Nat) (t : Int) : Prop := w.heap[x]? = some (txnObj t)

def vcell (x : Nat → Nat) (r : Nat → Int) (q : Nat) : Value := if q % 2 = 0 then .pointer (some ⟨x (q / 2), 0, none⟩) else .int .i64 (r (q / 2))
def zcell (q : Nat) : Value := if q % 2 = 0 then .pointer none else .int .i64 0

/-- behind k rounds of the inner building loop, which began in wi -/
structure In (wi wx : World) (vB wB n k : Nat) (x : Nat → Nat) (t r : Nat → Int) : Prop where
  bel : Below wi.heap.size wi wx
  hv : wi.heap.size ≤ vB
  hw : wi.heap.size ≤ wB
  vrow : wx.rowIs vB 93 (n * 2) (fun q => if q < k * 2 then vcell x r q else zcell q)
  wrow : wx.rowIs wB 38 n (fun q => if q < k then .pointer (some ⟨x q, 0, none⟩) else .pointer none)
  tx : ∀ q, q < k → TxAt wx (x q) (t q)

/-- behind 'v := newVersion(..)' -/
structure Made (wr wc : World) (vb x : Nat) (t r : Int) : Prop where
  bel : Below wr.heap.size wr wc
  lo : wr.heap.size ≤ vb
  hi : vb < wc.heap.size
  c0 : wc.cell? ⟨vb, 0, none⟩ = some (.pointer (some ⟨x, 0, none⟩))
  c1 : wc.cell? ⟨vb, 1, none⟩ = some (.int .i64 r)
  tx : TxAt wc x t

theorem two_cells {w : World} {b : Nat} {v0 v1 : Value} {t : TypeId} (h : w.heap[b]? = some (.cells #[v0, v1] t (0, 0))) : w.cell? ⟨b, 0, none⟩ = some v0 ∧ w.cell? ⟨b, 1, none⟩ = some v1 := ⟨by simp [World.cell?, h], by simp [World.cell?, h]⟩

theorem Made.one (w : World) (t r : Int) : Made w (((w.alloc (.cells #[.pointer (some ⟨w.heap.size + 1, 0, none⟩), .int .i64 r] 93)).alloc (txnObj t)).alloc (.cells #[.pointer (some ⟨w.heap.size + 1, 0, none⟩), .int .i64 r] 93)).drew (w.heap.size + 1 + 1) (w.heap.size + 1) t r := by
  have e := blk_alloc_new ((w.alloc (.cells #[.pointer (some ⟨w.heap.size + 1, 0, none⟩), .int .i64 r] 93)).alloc (txnObj t)) (.cells #[.pointer (some ⟨w.heap.size + 1, 0, none⟩), .int .i64 r] 93)
  rw [nblk_alloc, nblk_alloc] at e
  obtain ⟨e0, e1⟩ := two_cells e
  refine ⟨((((Below.refl _ _).alloc (Nat.le_refl _) _).alloc (by simp) _).alloc (by simp; omega) _).drew, by omega, by simp, e0, e1, ?_⟩
  show (((w.alloc _).alloc (txnObj t)).alloc _).heap[w.heap.size + 1]? = _
  rw [blk_alloc_lt _ _ _ (by simp)]
  have := blk_alloc_new (w.alloc (.cells #[.pointer (some ⟨w.heap.size + 1, 0, none⟩), .int .i64 r] 93)) (txnObj t)
  rwa [nblk_alloc] at this

theorem Made.two (w : World) (t r : Int) : Made w (((w.alloc (.cells #[.pointer (some ⟨w.heap.size + 1 + 1, 0, none⟩), .int .i64 r] 93)).alloc (.cells #[.pointer (some ⟨w.heap.size + 1 + 1, 0, none⟩), .int .i64 r] 93)).alloc (txnObj t)).drew w.heap.size (w.heap.size + 1 + 1) t r := by
  have e : (((w.alloc (.cells #[.pointer (some ⟨w.heap.size + 1 + 1, 0, none⟩), .int .i64 r] 93)).alloc (.cells #[.pointer (some ⟨w.heap.size + 1 + 1, 0, none⟩), .int .i64 r] 93)).alloc (txnObj t)).heap[w.heap.size]? = some (.cells #[.pointer (some ⟨w.heap.size + 1 + 1, 0, none⟩), .int .i64 r] 93 (0, 0)) := by
    rw [blk_alloc_lt _ _ _ (by simp; omega), blk_alloc_lt _ _ _ (by simp)]
    exact blk_alloc_new _ _
  obtain ⟨e0, e1⟩ := two_cells e
  refine ⟨((((Below.refl _ _).alloc (Nat.le_refl _) _).alloc (by simp) _).alloc (by simp; omega) _).drew, by omega, by simp; omega, e0, e1, ?_⟩
  show (((w.alloc _).alloc _).alloc (txnObj t)).heap[w.heap.size + 1 + 1]? = _
  have := blk_alloc_new ((w.alloc (.cells #[.pointer (some ⟨w.heap.size + 1 + 1, 0, none⟩), .int .i64 r] 93)).alloc (.cells #[.pointer (some ⟨w.heap.size + 1 + 1, 0, none⟩), .int .i64 r] 93)) (txnObj t)
  rwa [nblk_alloc, nblk_alloc] at this

/-- behind bi rounds of the outer building loop -/
structure Bld (w wx : World) (N : Nat) (L : Nat → Nat) (T R : Nat → Nat → Int) (bi : Nat) (V W : Nat → Nat) (X : Nat → Nat → Nat) : Prop where
  bel : Below w.heap.size w wx
  vb : wx.rowIs w.heap.size 91 N (fun i => if i < bi then .slice (some ⟨V i, 0, none⟩) (L i) (L i) else .slice none 0 0)
  wr : wx.rowIs (w.heap.size + 1) 73 N (fun i => if i < bi then .slice (some ⟨W i, 0, none⟩) (L i) (L i) else .slice none 0 0)
  rows : ∀ i, i < bi → wx.rowIs (V i) 93 (L i * 2) (vcell (X i) (R i))
  wrows : ∀ i, i < bi → wx.rowIs (W i) 38 (L i) (fun k => .pointer (some ⟨X i k, 0, none⟩))
  tx : ∀ i k, i < bi → k < L i → TxAt wx (X i k) (T i k)
  inj : ∀ i j, i < bi → j < bi → V i = V j → i = j
  lo : ∀ i, i < bi → w.heap.size ≤ V i

theorem info73 : (Try.prog.info? 73).map (fun i => (i.zero, i.size, i.bytes)) = some (some (.slice none 0 0), 1, 24) := by kernel_rfl
theorem info38 : (Try.prog.info? 38).map (fun i => (i.zero, i.size, i.bytes)) = some (some (.pointer none), 1, 8) := by kernel_rfl

theorem Bld.start (w : World) (N : Nat) (L : Nat → Nat) (T R : Nat → Nat → Int) (V W : Nat → Nat) (X : Nat → Nat → Nat) :
    Bld w ((w.alloc (.cells (madeCells #[.slice none 0 0] N) 91)).alloc (.cells (madeCells #[.slice none 0 0] N) 73)) N L T R 0 V W X := by
  refine ⟨((Below.refl _ _).alloc (Nat.le_refl _) _).alloc (by simp) _, ?_, ?_, ?_, ?_, ?_, ?_, ?_⟩
  · exact ((World.rowIs_made w (.slice none 0 0) N 91).alloc _).congr (fun i _ => by simp)
  · have := World.rowIs_made (w.alloc (.cells (madeCells #[.slice none 0 0] N) 91)) (.slice none 0 0) N 73
    rw [nblk_alloc] at this
    exact this.congr (fun i _ => by simp)
  all_goals intros; omega

theorem In.start {wi w1 : World} {n : Nat} {x : Nat → Nat} {t r : Nat → Int} (h : w1.ownsRow wi.heap.size 93 2 (.slice (some ⟨wi.heap.size, 0, none⟩) n n) n (madeCells #[.pointer none, .int .i64 0] (n * 2)).toList) (hg : wi.grownBy w1 none) :
    In wi (w1.alloc (.cells (madeCells #[.pointer none] n) 38)) wi.heap.size w1.heap.size n 0 x t r := by
  have hs := hg.size
  refine ⟨((Below.refl _ _).grown hg (Nat.le_refl _) (fun _ e => by cases e)).alloc hs _, Nat.le_refl _, hs, ?_, ?_, fun q hq => absurd hq (Nat.not_lt_zero q)⟩
  · refine World.rowIs.alloc ?_ _
    rcases h.2 with ⟨h0, _⟩ | ⟨g', cap', cur, e, _, hb, _, _, hsz, ht⟩
    · cases h0
    · cases e
      have e2 : cur = madeCells #[.pointer none, .int .i64 0] (n * 2) := by
        apply Array.ext'
        rw [← ht, List.take_of_length_le (by simp [hsz])]
      refine ⟨cur, hb, hsz, fun i hi => ?_⟩
      rw [e2]
      have hlt : i % 2 < 2 := Nat.mod_lt _ (by omega)
      simp [madeCells, hi, zcell]
      generalize i % 2 = j at hlt
      match j, hlt with
      | 0, _ => simp
      | 1, _ => simp
  · exact (World.rowIs_made w1 (.pointer none) n 38).congr (fun i _ => by simp)

theorem ne_of_tx {w : World} {b x n : Nat} {ty : TypeId} {f : Nat → Value} {t : Int} (h : w.rowIs b ty n f) (ht : TxAt w x t) (hty : ty ≠ 83) : x ≠ b := by
  intro e
  obtain ⟨c, hc, _, _⟩ := h
  unfold TxAt at ht
  rw [e, hc] at ht
  simp [txnObj] at ht
  exact hty ht.2

theorem ne_of_rows {w : World} {b b' n n' : Nat} {ty ty' : TypeId} {f f' : Nat → Value} (h : w.rowIs b ty n f) (h' : w.rowIs b' ty' n' f') (hty : ty ≠ ty') : b ≠ b' := by
  intro e
  obtain ⟨c, hc, _, _⟩ := h
  obtain ⟨c', hc', _, _⟩ := h'
  rw [e, hc'] at hc
  simp at hc
  exact hty hc.2.symm

theorem TxAt.lt {w : World} {x : Nat} {t : Int} (h : TxAt w x t) : x < w.heap.size := lt_of_block h
theorem TxAt.of_block {w w' : World} {x : Nat} {t : Int} (h : TxAt w x t) (e : w'.heap[x]? = w.heap[x]?) : TxAt w' x t := e.trans h

theorem In.step {wi wr wc : World} {vB wB n q vb x' : Nat} {x : Nat → Nat} {t r : Nat → Int} (I : In wi wr vB wB n q x t r) (M : Made wr wc vb x' (t q) (r q)) :
    In wi ((((wc.setCell ⟨vB, q * 2, none⟩ (.pointer (some ⟨x', 0, none⟩))).setCell ⟨vB, q * 2 + 1, none⟩ (.int .i64 (r q))).setCell ⟨wB, q, none⟩ (.pointer (some ⟨x', 0, none⟩))).alloc (.cells #[.pointer (some ⟨x', 0, none⟩), .int .i64 (r q)] 93))
      vB wB n (q + 1) (fun i => if i = q then x' else x i) t r := by
  have r1 := I.vrow.of_block (M.bel.block _ I.vrow.lt)
  have r2 := I.wrow.of_block (M.bel.block _ I.wrow.lt)
  have ne : vB ≠ wB := ne_of_rows r1 r2 (by decide)
  have hs := I.bel.size
  have hs2 := M.bel.size
  refine ⟨((((I.bel.trans (M.bel.mono hs)).setCell I.hv _).setCell I.hv _).setCell I.hw _).alloc (by simp; omega) _, I.hv, I.hw, ?_, ?_, ?_⟩
  · refine World.rowIs.congr ((((r1.set (q * 2) _).set (q * 2 + 1) _).setOther (a := ⟨wB, q, none⟩) ne _).alloc _) (fun i hi => ?_)
    by_cases e1 : i = q * 2 + 1
    · subst e1
      simp only [if_true]
      rw [if_pos (by omega), vcell, if_neg (by omega), show (q * 2 + 1) / 2 = q by omega]
    · rw [if_neg e1]
      by_cases e2 : i = q * 2
      · subst e2
        simp only [if_true]
        rw [if_pos (by omega), vcell, if_pos (by omega), show q * 2 / 2 = q by omega, if_pos rfl]
      · rw [if_neg e2]
        by_cases e3 : i < q * 2
        · rw [if_pos e3, if_pos (by omega)]
          unfold vcell
          simp only [if_neg (show ¬ i / 2 = q by omega)]
        · rw [if_neg e3, if_neg (by omega)]
  · refine World.rowIs.congr ((((r2.setOther (a := ⟨vB, q * 2, none⟩) ne.symm _).setOther (a := ⟨vB, q * 2 + 1, none⟩) ne.symm _).set q _).alloc _) (fun i hi => ?_)
    by_cases e : i = q
    · subst e; simp
    · rw [if_neg e]
      by_cases e3 : i < q
      · rw [if_pos e3, if_pos (by omega), if_neg e]
      · rw [if_neg e3, if_neg (by omega)]
  · intro i hi
    have key : ∀ y u, TxAt wc y u → TxAt ((((wc.setCell ⟨vB, q * 2, none⟩ (.pointer (some ⟨x', 0, none⟩))).setCell ⟨vB, q * 2 + 1, none⟩ (.int .i64 (r q))).setCell ⟨wB, q, none⟩ (.pointer (some ⟨x', 0, none⟩))).alloc (.cells #[.pointer (some ⟨x', 0, none⟩), .int .i64 (r q)] 93)) y u := by
      intro y u h
      have n1 := ne_of_tx r1 h (by decide)
      have n2 := ne_of_tx r2 h (by decide)
      have hl := h.lt
      refine h.of_block ?_
      rw [blk_alloc_lt _ _ _ (by simp; omega), blk_setCell_other _ _ _ _ n2, blk_setCell_other _ _ _ _ n1, blk_setCell_other _ _ _ _ n1]
    by_cases e : i = q
    · subst e
      rw [if_pos rfl]
      exact key _ _ M.tx
    · rw [if_neg e]
      have h := I.tx i (by omega)
      exact key _ _ (h.of_block (M.bel.block _ h.lt))

theorem Bld.next {w wi wx : World} {N : Nat} {L : Nat → Nat} {T R : Nat → Nat → Int} {bi wB : Nat} {V W : Nat → Nat} {X : Nat → Nat → Nat} {x : Nat → Nat} (B : Bld w wi N L T R bi V W X) (I : In wi wx wi.heap.size wB (L bi) (L bi) x (T bi) (R bi)) :
    Bld w ((wx.setCell ⟨w.heap.size, bi, none⟩ (.slice (some ⟨wi.heap.size, 0, none⟩) (L bi) (L bi))).setCell ⟨w.heap.size + 1, bi, none⟩ (.slice (some ⟨wB, 0, none⟩) (L bi) (L bi))) N L T R (bi + 1)
      (fun i => if i = bi then wi.heap.size else V i) (fun i => if i = bi then wB else W i) (fun i => if i = bi then x else X i) := by
  have old : ∀ k, k < wi.heap.size → wx.heap[k]? = wi.heap[k]? := I.bel.block
  have vb := B.vb.of_block (old _ B.vb.lt)
  have wr := B.wr.of_block (old _ B.wr.lt)
  have hl := B.vb.lt
  have hl2 := B.wr.lt
  have st : ∀ k, k ≠ w.heap.size → k ≠ w.heap.size + 1 → ((wx.setCell ⟨w.heap.size, bi, none⟩ (.slice (some ⟨wi.heap.size, 0, none⟩) (L bi) (L bi))).setCell ⟨w.heap.size + 1, bi, none⟩ (.slice (some ⟨wB, 0, none⟩) (L bi) (L bi))).heap[k]? = wx.heap[k]? := by
    intro k h1 h2
    rw [blk_setCell_other _ _ _ _ h2, blk_setCell_other _ _ _ _ h1]
  refine ⟨((B.bel.trans (I.bel.mono (by omega))).setCell (Nat.le_refl _) _).setCell (by simp) _, ?_, ?_, ?_, ?_, ?_, ?_, ?_⟩
  · refine World.rowIs.congr ((vb.set bi _).setOther (a := ⟨w.heap.size + 1, bi, none⟩) (by simp) _) (fun i hi => ?_)
    by_cases e : i = bi
    · subst e; simp
    · rw [if_neg e]
      by_cases e3 : i < bi
      · rw [if_pos e3, if_pos (by omega), if_neg e]
      · rw [if_neg e3, if_neg (by omega)]
  · refine World.rowIs.congr ((wr.setOther (a := ⟨w.heap.size, bi, none⟩) (by simp) _).set bi _) (fun i hi => ?_)
    by_cases e : i = bi
    · subst e; simp
    · rw [if_neg e]
      by_cases e3 : i < bi
      · rw [if_pos e3, if_pos (by omega), if_neg e]
      · rw [if_neg e3, if_neg (by omega)]
  · intro i hi
    by_cases e : i = bi
    · subst e
      simp only [if_true]
      refine World.rowIs.congr (I.vrow.of_block (st _ (by omega) (by omega))) (fun q hq => ?_)
      rw [if_pos hq]
    · simp only [if_neg e]
      have h := B.rows i (by omega)
      have n1 := ne_of_rows h B.vb (by decide)
      have n2 := ne_of_rows h B.wr (by decide)
      exact h.of_block ((st _ n1 n2).trans (old _ h.lt))
  · intro i hi
    by_cases e : i = bi
    · subst e
      simp only [if_true]
      have hw := I.hw
      refine World.rowIs.congr (I.wrow.of_block (st _ (by omega) (by omega))) (fun q hq => ?_)
      rw [if_pos hq]
    · simp only [if_neg e]
      have h := B.wrows i (by omega)
      have n1 := ne_of_rows h B.vb (by decide)
      have n2 := ne_of_rows h B.wr (by decide)
      exact h.of_block ((st _ n1 n2).trans (old _ h.lt))
  · intro i k hi hk
    by_cases e : i = bi
    · subst e
      simp only [if_true]
      have h := I.tx k hk
      exact h.of_block (st _ (ne_of_tx vb h (by decide)) (ne_of_tx wr h (by decide)))
    · simp only [if_neg e]
      have h := B.tx i k (by omega) hk
      exact h.of_block ((st _ (ne_of_tx B.vb h (by decide)) (ne_of_tx B.wr h (by decide))).trans (old _ h.lt))
  · intro i j hi hj
    by_cases e : i = bi
    · by_cases e' : j = bi
      · intro _; omega
      · simp only [if_pos e, if_neg e']
        intro hh
        have := (B.rows j (by omega)).lt
        omega
    · by_cases e' : j = bi
      · simp only [if_neg e, if_pos e']
        intro hh
        have := (B.rows i (by omega)).lt
        omega
      · simp only [if_neg e, if_neg e']
        exact B.inj i j (by omega) (by omega)
  · intro i hi
    by_cases e : i = bi
    · simp only [if_pos e]; omega
    · simp only [if_neg e]; exact B.lo i (by omega)

attribute [local go_sem ↓] Go.wp_at_zero Go.wp_at_succ

set_option maxHeartbeats 1600000 in
set_option maxRecDepth 1000000 in
theorem build (a : Option Addr) (N c : Nat) (L : Nat → Nat) (A : Nat → Option Addr) (C : Nat → Nat) (T R : Nat → Nat → Int) (w : World) (H : Blks w a N L A C T R) (hN : N ≤ 1000000) (hL : ∀ i, i < N → L i ≤ 1000000) :
    Calls Try.prog 27 #[.slice a N c] w fun e w' => ∃ V W X, e = .returned (.tuple #[.slice (some ⟨w.heap.size, 0, none⟩) N N, .slice (some ⟨w.heap.size + 1, 0, none⟩) N N]) ∧ Bld w w' N L T R N V W X := by
  have HH := hide H
  have HL := hide hL
  clear H hL
  have hmk0 := run_make_row' (P := Try.prog) 54 91 (.slice none 0 0) 24 Try.underlying54 info91 rfl .i64 .i64 N (by omega) (by omega)
  have hmk1 := run_make_row' (P := Try.prog) 55 73 (.slice none 0 0) 24 Try.underlying55 info73 rfl .i64 .i64 N (by omega) (by omega)
  obtain ⟨i0, hi0, hz0, hz1, hz2⟩ := info_parts info93
  go_enter Try.func27, Try.ntmps27
  go_wp2
  clear hmk0 hmk1
  go_loopw [6, 7, 8, 9, 10] (fun i _ _ _ _ wx => ∃ bi : Nat, bi ≤ N ∧ i = .int .i64 bi ∧ ∃ V W X, Bld w wx N L T R bi V W X) (fun i _ _ _ _ _ => N - (intOf i).toNat)
  case atStart => exact ⟨0, Nat.zero_le _, rfl, fun _ => 0, fun _ => 0, fun _ _ => 0, Bld.start _ _ _ _ _ _ _ _⟩
  case round =>
    generalize wr = wi at *
    clear wr
    obtain ⟨bi, hbi, rfl, V, W, X, B⟩ := hrel
    by_cases hlt : bi < N
    · obtain ⟨b, off, rfl, hl, hc⟩ := ((unhide HH).below B.bel).row bi hlt
      have hLb := unhide HL bi hlt
      have hmk2 := run_make_row' (P := Try.prog) 73 38 (.pointer none) 8 Try.underlying73 info38 rfl .i64 .i64 (L bi) (by omega) (by omega)
      have HB := hide B
      clear B
      go_wp2_with (at_make; refine wpList_make_full _ rfl (.tmp 27) (.tmp 27) 91 rfl wi.heap.size 93 i0 _ 2 Try.underlying91 hi0 hz0 hz1 .i64 .i64 _ _ (L bi) rfl rfl rfl rfl ?c1 ?c2 ?c3 ?_)
      case c1 => rw [hz2]; omega
      case c2 => unfold maxLen; omega
      case c3 => exact Nat.le_refl _
      intro w1 hown hgrow
      have hs1 := hgrow.size
      have I0 := hide (In.start (x := fun _ => 0) (t := T bi) (r := R bi) hown hgrow)
      have b1 : Below wi.heap.size wi w1 := (Below.refl _ _).grown hgrow (Nat.le_refl _) (fun _ e => by cases e)
      have hc1 := (b1.cell (p := ⟨b, off + bi, none⟩) hl).trans hc
      clear hown hgrow
      go_wp2
      clear hmk2 hc1
      go_loopw [9, 10] (fun k _ wx => ∃ q : Nat, q ≤ L bi ∧ k = .int .i64 q ∧ ∃ x, In wi wx wi.heap.size w1.heap.size (L bi) q x (T bi) (R bi)) (fun k _ _ => L bi - (intOf k).toNat)
      case atStart => exact ⟨0, Nat.zero_le _, rfl, _, unhide I0⟩
      case round =>
        clear I0
        obtain ⟨q, hq, rfl, x, I⟩ := hrel
        have hc2 := (I.bel.cell (p := ⟨b, off + bi, none⟩) hl).trans hc
        by_cases hqL : q < L bi
        · obtain ⟨b', off', eA, hl', t1, t2⟩ := (((unhide HH).below (unhide HB).bel).below I.bel).el bi q hlt hqL
          rw [eA] at hc2
          have lb : b < wr.heap.size := Nat.lt_of_lt_of_le hl I.bel.size
          have i0 : (0 : Int) ≤ (bi : Int) := by omega
          have i1 : (bi : Int) < (N : Int) := by omega
          have i2 : (0 : Int) ≤ (q : Int) := by omega
          have i3 : (q : Int) < (L bi : Int) := by omega
          have lb1 : b < wr.heap.size + 1 := by omega
          have lb2 : b < wr.heap.size + 1 + 1 := by omega
          have lc1 : b' < wr.heap.size + 1 := by omega
          have lc2 : b' < wr.heap.size + 1 + 1 := by omega
          have HI := hide I
          clear I
          clear eA
          go_upto_region 11 with fail
          go_cut [10] (fun v wc => ∃ vb x', v = .pointer (some ⟨vb, 0, none⟩) ∧ Made wr wc vb x' (T bi q) (R bi q))
          case first =>
            go_region_held3 (fun w' => w'.cell? ⟨b, off + bi, none⟩ = some (.slice (some ⟨b', off', none⟩) (L bi) (C bi)) ∧ w'.cell? ⟨b', off' + q * 2, none⟩ = some (.int .i64 (T bi q)) ∧ w'.cell? ⟨b', off' + q * 2 + 1, none⟩ = some (.int .i64 (R bi q))) ((first | exact ⟨hc2, t1, t2⟩ | (refine ⟨(Below.cell (B := wr.heap.size) (p := ⟨b, off + bi, none⟩) ?_ lb).trans hc2, (Below.cell (B := wr.heap.size) (p := ⟨b', off' + q * 2, none⟩) ?_ hl').trans t1, (Below.cell (B := wr.heap.size) (p := ⟨b', off' + q * 2 + 1, none⟩) ?_ hl').trans t2⟩ <;> (repeat (first | exact Below.refl _ _ | refine Below.drew ?_ | refine Below.alloc ?_ (by first | (simp; done) | (simp; omega)) _ | refine Below.setCell ?_ (by first | (simp; done) | (simp; omega)) _)))))
              ((go_at_call 39; refine (newVersion _ _ _).mono ?_; rintro e w' ⟨rfl, hw⟩; subst hw))
            all_goals (go_wp2_with fail; go_meet; first | exact ⟨_, _, rfl, Made.one _ _ _⟩ | exact ⟨_, _, rfl, Made.two _ _ _⟩)
          case rest =>
            obtain ⟨vb, x', rfl, M⟩ := hcut
            have I := unhide HI
            have r1 := I.vrow.of_block (M.bel.block _ I.vrow.lt)
            have r2 := I.wrow.of_block (M.bel.block _ I.wrow.lt)
            have p0 := r1.cell (i := q * 2) (by omega)
            have p1 := r1.cell (i := q * 2 + 1) (by omega)
            have p2 := r2.cell (i := q) hqL
            have f1 := r1.frozen
            have f2 := r2.frozen
            have m0 := M.c0
            have m1 := M.c1
            have n1 : wi.heap.size ≠ vb := by have := I.vrow.lt; have := M.lo; omega
            have n2 : vb ≠ wi.heap.size := fun e => n1 e.symm
            have n3 : wi.heap.size ≠ w1.heap.size := by
              intro e
              obtain ⟨z1, g1, _, _⟩ := I.vrow
              obtain ⟨z2, g2, _, _⟩ := I.wrow
              rw [e, g2] at g1
              simp at g1
            have n4 : w1.heap.size < wc.heap.size := Nat.lt_of_lt_of_le I.wrow.lt M.bel.size
            have HM := hide M
            clear I M r1 r2
            go_wp2_with (go_at_call 40; refine (versionWriter _ _ _).mono ?_; rintro e w' ⟨rfl, hw⟩; subst hw)
            go_roundw
            case rel =>
              first
              | exact ⟨q + 1, by omega, by go_num, _, (unhide HI).step (unhide HM)⟩
              | (repeat apply Exists.intro
                 exact ⟨⟨q + 1, by omega, by go_num, _, (unhide HI).step (unhide HM)⟩, rfl⟩)
            case measure => simp [intOf]; omega
        · have hqe : q = L bi := by omega
          subst hqe
          have B := unhide HB
          have p0 := B.vb.of_block (I.bel.block _ B.vb.lt)
          have p1 := B.wr.of_block (I.bel.block _ B.wr.lt)
          have c0 := p0.cell (i := bi) hlt
          have c1 := p1.cell (i := bi) hlt
          have f0 := p0.frozen
          have f1 := p1.frozen
          have HN := hide (B.next I)
          simp only [Nat.lt_irrefl, if_false] at c0 c1
          clear B p0 p1 I
          go_wp2
          go_roundw
          case rel => exact ⟨bi + 1, by omega, by go_num, _, _, _, unhide HN⟩
          case measure => simp [intOf]; omega
    · have hbe : bi = N := by omega
      subst hbe
      have HB := hide B
      clear B
      go_wp2
      go_ret2
      exact ⟨V, W, X, rfl, unhide HB⟩
end Go.Proofs.Qxb6616487a.Vr
