import Derived.Test.Qxb6616487aVrD
namespace Go.Proofs.Qxb6616487a.Vr
open Go.RowKit Go.Deep
set_option linter.unusedVariables false

set_option maxHeartbeats 400000 in
theorem newList (ob n c : Nat) (w : World) :
    Calls Try.prog 28 #[.slice (some ⟨ob, 0, none⟩) n c] w fun e w' => e = .returned (.pointer (some ⟨w.heap.size, 0, none⟩)) ∧ w' = w.alloc (.cells #[.slice (some ⟨ob, 0, none⟩) n c] 97) := by
  go_enter Try.func28, Try.ntmps28
  go_wp2
  go_ret
  exact ⟨rfl, rfl⟩

/-- the list of versions in memory: its head block lb, the outer row ob, the inner rows V i, all full -/
structure Lst (w : World) (lb ob : Nat) (D : VD) (V : Nat → Nat) : Prop where
  head : w.heap[lb]? = some (.cells #[.slice (some ⟨ob, 0, none⟩) D.N D.N] 97 (0, 0))
  vb : w.rowIs ob 91 D.N (fun i => .slice (some ⟨V i, 0, none⟩) (D.L i) (D.L i))
  rows : ∀ i, i < D.N → w.rowIs (V i) 93 (D.L i * 2) (vcell (D.X i) (D.R i))
  tx : ∀ i k, i < D.N → k < D.L i → TxAt w (D.X i k) (D.T i k)
  inj : ∀ i j, i < D.N → j < D.N → V i = V j → i = j

theorem TxAt.cell {w : World} {x : Nat} {t : Int} (h : TxAt w x t) : w.cell? ⟨x, 1, none⟩ = some (.int .i64 t) := by
  unfold TxAt at h
  simp [World.cell?, h, txnObj]

theorem vcell_even (x : Nat → Nat) (r : Nat → Int) (k : Nat) : vcell x r (k * 2) = .pointer (some ⟨x k, 0, none⟩) := by
  rw [vcell, if_pos (by omega), show k * 2 / 2 = k by omega]
theorem vcell_odd (x : Nat → Nat) (r : Nat → Int) (k : Nat) : vcell x r (k * 2 + 1) = .int .i64 (r k) := by
  rw [vcell, if_neg (by omega), show (k * 2 + 1) / 2 = k by omega]
theorem vcell_one (x : Nat → Nat) (r : Nat → Int) (q : Nat) : (vcell x r q).oneCell' = true := by
  unfold vcell; split <;> rfl

theorem Lst.rws {w : World} {lb ob : Nat} {D : VD} {V : Nat → Nat} (h : Lst w lb ob D V) : Rws w ob D V D.L where
  outer i hi := h.vb.cell hi
  ptr i k hi hk := by rw [(h.rows i hi).cell (by omega), vcell_even]
  rts i k hi hk := by rw [(h.rows i hi).cell (by omega), vcell_odd]
  ts i k hi hk := (h.tx i k hi hk).cell
  lo := h.vb.lt
  lV i hi := (h.rows i hi).lt
  lX i k hi hk := (h.tx i k hi hk).lt

theorem Lst.below {w w' : World} {lb ob : Nat} {D : VD} {V : Nat → Nat} (h : Lst w lb ob D V) (hb : Below w.heap.size w w') : Lst w' lb ob D V where
  head := (hb.block _ (lt_of_block h.head)).trans h.head
  vb := h.vb.of_block (hb.block _ h.vb.lt)
  rows i hi := (h.rows i hi).of_block (hb.block _ (h.rows i hi).lt)
  tx i k hi hk := (h.tx i k hi hk).of_block (hb.block _ (h.tx i k hi hk).lt)
  inj := h.inj

theorem At.unique {D : VD} {t : Int} {b i b' i' : Nat} (h : At D t b i) (h' : At D t b' i') : b = b' ∧ i = i' := by
  rcases Nat.lt_trichotomy b b' with e | e | e
  · have := h.acr b' i' e h'.hb h'.hi; have := h'.le; omega
  · subst e
    refine ⟨rfl, ?_⟩
    rcases Nat.lt_trichotomy i i' with f | f | f
    · have := h.inB i' f h'.hi; have := h'.le; omega
    · exact f
    · have := h'.inB i f h.hi; have := h.le; omega
  · have := h'.acr b i e h.hb h.hi; have := h.le; omega

theorem At.of_eq {D : VD} (I : Inc D) {b i : Nat} (hb : b < D.N) (hi : i < D.L b) : At D (D.T b i) b i :=
  ⟨hb, hi, Int.le_refl _, fun k h1 h2 => I.inB b i k hb h1 h2, fun j k h1 h2 h3 => I.acr b j i k h1 h2 hi h3⟩

/-- skip place r -/
def sk (r i : Nat) : Nat := if i < r then i else i + 1

/-- version (b, i) struck out of a block that keeps others -/
def delA (D : VD) (b i : Nat) : VD where
  N := D.N
  L := fun j => if j = b then D.L j - 1 else D.L j
  T := fun j k => if j = b then D.T j (sk i k) else D.T j k
  R := fun j k => if j = b then D.R j (sk i k) else D.R j k
  X := fun j k => if j = b then D.X j (sk i k) else D.X j k

/-- block b struck out -/
def delB (D : VD) (b : Nat) : VD where
  N := D.N - 1
  L := fun j => D.L (sk b j)
  T := fun j k => D.T (sk b j) k
  R := fun j k => D.R (sk b j) k
  X := fun j k => D.X (sk b j) k

/-- behind the first statement of remove: the block cut, its slice stored -/
structure Cut (w w' : World) (lb ob : Nat) (D : VD) (V : Nat → Nat) (b i : Nat) : Prop where
  row : w'.rowIs (V b) 93 (D.L b * 2) (del 2 (D.L b) i (fun t => [Value.pointer none, Value.int .i64 0].getD t undef) (vcell (D.X b) (D.R b)))
  vb : w'.rowIs ob 91 D.N (fun j => if j = b then .slice (some ⟨V b, 0, none⟩) (D.L b - 1) (D.L b) else .slice (some ⟨V j, 0, none⟩) (D.L j) (D.L j))
  rest : ∀ k, k ≠ V b → k ≠ ob → w'.heap[k]? = w.heap[k]?
  size : w'.heap.size = w.heap.size
  os : w'.os = w.os
  tape : w'.tape = w.tape
  output : w'.output = w.output

theorem Cut.mk' {w w1 : World} {lb ob : Nat} {D : VD} {V : Nat → Nat} {b i : Nat} (H : Lst w lb ob D V) (hb : b < D.N)
    (hr : w1.rowIs (V b) 93 (D.L b * 2) (del 2 (D.L b) i (fun t => [Value.pointer none, Value.int .i64 0].getD t undef) (vcell (D.X b) (D.R b)))) (ho : Only (V b) w w1) :
    Cut w (w1.setCell ⟨ob, b, none⟩ (.slice (some ⟨V b, 0, none⟩) (D.L b - 1) (D.L b))) lb ob D V b i := by
  have ne : V b ≠ ob := ne_of_rows (H.rows b hb) H.vb (by decide)
  refine ⟨hr.setOther (a := ⟨ob, b, none⟩) ne _, ?_, ?_, by simpa using ho.size, ho.os, ho.tape, ho.output⟩
  · exact (H.vb.of_block (ho.block _ ne.symm)).set b _
  · intro k h1 h2
    rw [blk_setCell_other _ _ _ _ h2]
    exact ho.block k h1

/-- what the rest of the statement reads behind the Delete -/
theorem Only.keeps {w w1 : World} {lb ob : Nat} {D : VD} {V : Nat → Nat} {b : Nat} (H : Lst w lb ob D V) (hb : b < D.N) (ho : Only (V b) w w1) :
    w1.cell? ⟨lb, 0, none⟩ = some (.slice (some ⟨ob, 0, none⟩) D.N D.N) ∧ w1.cell? ⟨ob, b, none⟩ = some (.slice (some ⟨V b, 0, none⟩) (D.L b) (D.L b)) ∧ w1.frozen? ⟨ob, b, none⟩ = false := by
  have ne : V b ≠ ob := ne_of_rows (H.rows b hb) H.vb (by decide)
  have ne2 : lb ≠ V b := by
    intro e
    obtain ⟨c, hc, _, _⟩ := H.rows b hb
    have := H.head
    rw [e, hc] at this
    simp at this
  have r := H.vb.of_block (ho.block _ ne.symm)
  exact ⟨cell_of_one ((ho.block _ ne2).trans H.head), r.cell hb, r.frozen _⟩

theorem Only.ofDrew {b : Nat} {w w' : World} (h : Only b w.drew w') : Only b w w' := ⟨h.os, h.tape, h.output, h.size, h.block⟩

theorem Cut.drew {w w' : World} {lb ob : Nat} {D : VD} {V : Nat → Nat} {b i : Nat} (h : Cut w w' lb ob D V b i) : Cut w w'.drew lb ob D V b i := ⟨h.row, h.vb, h.rest, h.size, h.os, h.tape, h.output⟩

attribute [local go_sem ↓] Go.wp_at_zero Go.wp_at_succ

/-- behind the second Delete and the store of the head -/
structure Cut2 (wc w' : World) (lb ob : Nat) (D : VD) (V : Nat → Nat) (b : Nat) : Prop where
  vb : w'.rowIs ob 91 (D.N * 1) (del 1 D.N b (fun t => [Value.slice none 0 0].getD t undef) (fun j => if j = b then .slice (some ⟨V b, 0, none⟩) (D.L b - 1) (D.L b) else .slice (some ⟨V j, 0, none⟩) (D.L j) (D.L j)))
  head : w'.heap[lb]? = some (.cells #[.slice (some ⟨ob, 0, none⟩) (D.N - 1) D.N] 97 (0, 0))
  rest : ∀ k, k ≠ lb → k ≠ ob → w'.heap[k]? = wc.heap[k]?
  size : w'.heap.size = wc.heap.size
  os : w'.os = wc.os
  tape : w'.tape = wc.tape
  output : w'.output = wc.output

theorem Cut2.mk' {wc w1 : World} {lb ob : Nat} {D : VD} {V : Nat → Nat} {b : Nat} {v : Value} (hl : w1.heap[lb]? = some (.cells #[v] 97 (0, 0)))
    (hr : w1.rowIs ob 91 (D.N * 1) (del 1 D.N b (fun t => [Value.slice none 0 0].getD t undef) (fun j => if j = b then .slice (some ⟨V b, 0, none⟩) (D.L b - 1) (D.L b) else .slice (some ⟨V j, 0, none⟩) (D.L j) (D.L j)))) (ho : Only ob wc w1) :
    Cut2 wc (w1.setCell ⟨lb, 0, none⟩ (.slice (some ⟨ob, 0, none⟩) (D.N - 1) D.N)) lb ob D V b := by
  have ne : ob ≠ lb := by
    intro e
    obtain ⟨c, hc, _, _⟩ := hr
    rw [e, hl] at hc
    simp at hc
  refine ⟨hr.setOther (a := ⟨lb, 0, none⟩) ne _, one_setCell hl, fun k h1 h2 => ?_, by simpa using ho.size, ho.os, ho.tape, ho.output⟩
  rw [blk_setCell_other _ _ _ _ h1]
  exact ho.block k h2

theorem Cut.facts {w wc : World} {lb ob : Nat} {D : VD} {V : Nat → Nat} {b i : Nat} (H : Lst w lb ob D V) (hb : b < D.N) (h : Cut w wc lb ob D V b i) :
    wc.heap[lb]? = some (.cells #[.slice (some ⟨ob, 0, none⟩) D.N D.N] 97 (0, 0)) ∧ wc.cell? ⟨ob, b, none⟩ = some (.slice (some ⟨V b, 0, none⟩) (D.L b - 1) (D.L b)) := by
  have ne2 : lb ≠ V b := by
    intro e
    obtain ⟨c, hc, _, _⟩ := H.rows b hb
    have := H.head
    rw [e, hc] at this
    simp at this
  have ne3 : lb ≠ ob := by
    intro e
    obtain ⟨c, hc, _, _⟩ := H.vb
    have := H.head
    rw [e, hc] at this
    simp at this
  refine ⟨(h.rest _ ne2 ne3).trans H.head, ?_⟩
  have := h.vb.cell hb
  rwa [if_pos rfl] at this

set_option maxHeartbeats 1600000 in
set_option maxRecDepth 1000000 in
theorem remove (lb ob b i : Nat) (D : VD) (V : Nat → Nat) (w : World) (H : Lst w lb ob D V) (I : Inc D) (hb : b < D.N) (hi : i < D.L b) (ht1 : D.T b i ≤ 9223372036854775807) (ht2 : -9223372036854775808 ≤ D.T b i) (hTm : ∀ i k, i < D.N → k < D.L i → D.T i k ≤ 9223372036854775807) (h00 : D.T 0 0 ≤ D.T b i) :
    Calls Try.prog 41 #[.pointer (some ⟨lb, 0, none⟩), .int .i64 (D.T b i)] w fun e w' => e = .returned (.tuple #[]) ∧ ∃ w0 wc, Below w.heap.size w w0 ∧ Cut w0 wc lb ob D V b i ∧ (1 < D.L b → w' = wc) ∧ (D.L b = 1 → Cut2 wc w' lb ob D V b) := by
  have lN := I.nb
  have lL := I.lb b hb
  have hF := hide (find lb ob D.N (D.T b i) D V D.L w (lt_of_block H.head) (cell_of_one H.head) H.rws I (by omega) h00 ht1 ht2 hTm)
  have HH := hide H
  have A0 := hide (At.of_eq I hb hi)
  clear H I hTm h00
  generalize htt : D.T b i = tt at *
  clear htt ht1 ht2
  go_enter Try.func41, Try.ntmps41
  go_wp2_with fail
  refine (unhide hF).mono ?_
  rintro e w0 ⟨b', i', rfl, A1, b0⟩
  obtain ⟨rfl, rfl⟩ := A1.unique (unhide A0)
  have H0 := (unhide HH).below b0
  have c0 := cell_of_one H0.head
  have c1 := H0.vb.cell hb
  have f1 := H0.vb.frozen b'
  have ne1 : ob ≠ V b' := (ne_of_rows (H0.rows b' hb) H0.vb (by decide)).symm
  have C := hide (fun w (h : w.rowIs (V b') 93 (D.L b' * 2) (vcell (D.X b') (D.R b'))) => delete2 (V b') (D.L b') i' (vcell (D.X b') (D.R b')) w h (fun t _ => vcell_one _ _ t) hi lL)
  have HB := hide b0
  have H0' := hide H0
  clear A1 A0 hF b0 H0
  have j1 : (b' : Int) < (D.N : Int) := by omega
  have j0 : (0 : Int) ≤ (b' : Int) := by omega
  have j2 : (0 : Int) ≤ (i' : Int) := by omega
  have j3 : IntKind.i64.wrap ((i' : Int) + 1) = (i' : Int) + 1 := by rw [IntKind.wrap_i64]; omega
  go_upto_region 1 with fail
  go_cut [] (fun wc => Cut w0 wc lb ob D V b' i')
  case first =>
    go_region_with ((go_at_call 46; refine (unhide C _ ?_).mono ?_; exact ((unhide H0').rows b' hb); rintro e w2 ⟨rfl, hr, ho⟩; obtain ⟨k0, k1, k2⟩ := ho.ofDrew.keeps (unhide H0') hb))
    all_goals (go_wp2_with fail; go_meet; exact Cut.mk' (unhide H0') hb hr ho.ofDrew)
  case rest =>
    obtain ⟨q0, q1⟩ := hcut.facts (unhide H0') hb
    have HC := hide hcut
    have q2 := cell_of_one q0
    have q3 := free_of_one q0
    have Q0 := hide q0
    clear hcut q0 c0 c1 f1 C
    by_cases hL : 1 < D.L b'
    · have e1 : (((D.L b' - 1 : Nat) : Int) == 0) = false := beq_eq_false_iff_ne.2 (by omega)
      go_wp2
      go_end0
      exact ⟨rfl, w0, wc, unhide HB, unhide HC, fun _ => rfl, fun h => absurd h (by omega)⟩
    · have hL1 : D.L b' = 1 := by omega
      have e1 : D.L b' - 1 = 0 := by omega
      have e2 : (((D.L b' - 1 : Nat) : Int) == 0) = true := beq_iff_eq.2 (by omega)
      have C1 := hide (delete1 ob D.N b' (fun j => if j = b' then .slice (some ⟨V b', 0, none⟩) (D.L b' - 1) (D.L b') else .slice (some ⟨V j, 0, none⟩) (D.L j) (D.L j)) wc (by rw [Nat.mul_one]; exact (unhide HC).vb) (fun t _ => by split <;> rfl) hb lN)
      have HL1 := hide hL1
      clear hL1 e1
      go_wp2_with fail
      refine (unhide C1).mono ?_
      rintro e w2 ⟨rfl, hr, ho⟩
      have ne3 : lb ≠ ob := by
        intro e
        obtain ⟨c, hc, _, _⟩ := (unhide HC).vb
        have := unhide Q0
        rw [e, hc] at this
        simp at this
      have g0 := (ho.block _ ne3).trans (unhide Q0)
      have g1 := cell_of_one g0
      have g2 := free_of_one g0
      have HK := hide (Cut2.mk' g0 hr ho)
      clear hr ho g0 C1 q1 q2 q3
      go_wp2
      go_end0
      exact ⟨rfl, w0, wc, unhide HB, unhide HC, fun h => absurd h hL, fun _ => unhide HK⟩
end Go.Proofs.Qxb6616487a.Vr
