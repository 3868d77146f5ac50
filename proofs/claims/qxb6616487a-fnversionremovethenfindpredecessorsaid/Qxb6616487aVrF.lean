import Derived.Test.Qxb6616487aVrE
namespace Go.Proofs.Qxb6616487a.Vr
open Go.RowKit Go.Deep
set_option linter.unusedVariables false

/-- what remove leaves -/
structure After (w w' : World) (lb ob oc : Nat) (D' : VD) (V' C' : Nat → Nat) (b0 : Nat) : Prop where
  hd : w'.cell? ⟨lb, 0, none⟩ = some (.slice (some ⟨ob, 0, none⟩) D'.N oc)
  lt : lb < w'.heap.size
  rws : Rws w' ob D' V' C'
  rest : ∀ k, k < w.heap.size → k ≠ lb → k ≠ ob → k ≠ b0 → w'.heap[k]? = w.heap[k]?
  size : w.heap.size ≤ w'.heap.size
  os : w'.os = w.os
  tape : w'.tape = w.tape
  output : w'.output = w.output

theorem sk_lt {r i n : Nat} (h : i < n - 1) : sk r i < n := by unfold sk; split <;> omega
theorem sk_ne (r i : Nat) : sk r i ≠ r := by unfold sk; split <;> omega
theorem sk_mono {r i j : Nat} (h : i < j) : sk r i < sk r j := by unfold sk; split <;> split <;> omega

theorem After.ofA {w w0 wc : World} {lb ob : Nat} {D : VD} {V : Nat → Nat} {b i : Nat} (H : Lst w lb ob D V) (b0 : Below w.heap.size w w0) (hb : b < D.N) (hi : i < D.L b) (K : Cut w0 wc lb ob D V b i) :
    After w wc lb ob D.N (delA D b i) V D.L (V b) := by
  have H0 := H.below b0
  obtain ⟨q0, q1⟩ := K.facts H0 hb
  have hs := K.size
  have hs2 := b0.size
  have keepR : ∀ j, j < D.N → j ≠ b → wc.rowIs (V j) 93 (D.L j * 2) (vcell (D.X j) (D.R j)) := by
    intro j hj hne
    have h := H0.rows j hj
    exact h.of_block (K.rest _ (fun e => hne (H.inj j b hj hb e)) (ne_of_rows h H0.vb (by decide)))
  have keepT : ∀ j k, j < D.N → k < D.L j → TxAt wc (D.X j k) (D.T j k) := by
    intro j k hj hk
    have h := H0.tx j k hj hk
    exact h.of_block (K.rest _ (ne_of_tx (H0.rows b hb) h (by decide)) (ne_of_tx H0.vb h (by decide)))
  refine ⟨cell_of_one q0, lt_of_block q0, ⟨?_, ?_, ?_, ?_, K.vb.lt, ?_, ?_⟩, ?_, by omega, ?_, ?_, ?_⟩
  · intro j hj
    have := K.vb.cell hj
    rw [this]
    show _ = some (Value.slice (some ⟨V j, 0, none⟩) (if j = b then D.L j - 1 else D.L j) (D.L j))
    by_cases e : j = b
    · subst e; simp
    · simp [e]
  · intro j k hj hk
    show _ = some (Value.pointer (some ⟨if j = b then D.X j (sk i k) else D.X j k, 0, none⟩))
    have hk' : k < if j = b then D.L j - 1 else D.L j := hk
    by_cases e : j = b
    · subst e
      rw [if_pos rfl] at hk'
      rw [if_pos rfl, K.row.cell (by omega)]
      unfold del sk
      by_cases h1 : k < i
      · rw [if_pos (by omega), if_pos h1, vcell_even]
      · rw [if_neg (by omega), if_pos (by omega), if_neg h1, show k * 2 + 2 = (k + 1) * 2 by omega, vcell_even]
    · rw [if_neg e] at hk'
      rw [if_neg e, (keepR j hj e).cell (by omega), vcell_even]
  · intro j k hj hk
    show _ = some (Value.int .i64 (if j = b then D.R j (sk i k) else D.R j k))
    have hk' : k < if j = b then D.L j - 1 else D.L j := hk
    by_cases e : j = b
    · subst e
      rw [if_pos rfl] at hk'
      rw [if_pos rfl, K.row.cell (by omega)]
      unfold del sk
      by_cases h1 : k < i
      · rw [if_pos (by omega), if_pos h1, vcell_odd]
      · rw [if_neg (by omega), if_pos (by omega), if_neg h1, show k * 2 + 1 + 2 = (k + 1) * 2 + 1 by omega, vcell_odd]
    · rw [if_neg e] at hk'
      rw [if_neg e, (keepR j hj e).cell (by omega), vcell_odd]
  · intro j k hj hk
    show wc.cell? ⟨if j = b then D.X j (sk i k) else D.X j k, 1, none⟩ = some (Value.int .i64 (if j = b then D.T j (sk i k) else D.T j k))
    have hk' : k < if j = b then D.L j - 1 else D.L j := hk
    by_cases e : j = b
    · rw [if_pos e] at hk'
      rw [if_pos e, if_pos e]
      exact (keepT j _ hj (sk_lt hk')).cell
    · rw [if_neg e] at hk'
      rw [if_neg e, if_neg e]
      exact (keepT j k hj hk').cell
  · intro j hj
    by_cases e : j = b
    · rw [e]; exact K.row.lt
    · exact (keepR j hj e).lt
  · intro j k hj hk
    show (if j = b then D.X j (sk i k) else D.X j k) < _
    have hk' : k < if j = b then D.L j - 1 else D.L j := hk
    by_cases e : j = b
    · rw [if_pos e] at hk'
      rw [if_pos e]
      exact (keepT j _ hj (sk_lt hk')).lt
    · rw [if_neg e] at hk'
      rw [if_neg e]
      exact (keepT j k hj hk').lt
  · intro k hk h1 h2 h3
    exact (K.rest k h3 h2).trans (b0.block k hk)
  · exact K.os.trans b0.os
  · exact K.tape.trans b0.tape
  · exact K.output.trans b0.output

theorem After.ofB {w w0 wc w' : World} {lb ob : Nat} {D : VD} {V : Nat → Nat} {b i : Nat} (H : Lst w lb ob D V) (b0 : Below w.heap.size w w0) (hb : b < D.N) (K : Cut w0 wc lb ob D V b i) (K2 : Cut2 wc w' lb ob D V b) :
    After w w' lb ob D.N (delB D b) (fun j => V (sk b j)) (fun j => D.L (sk b j)) (V b) := by
  have H0 := H.below b0
  have hs := K.size
  have hs3 := K2.size
  have hs2 := b0.size
  have neL : ∀ j, j < D.N → V j ≠ lb := by
    intro j hj e
    obtain ⟨c, hc, _, _⟩ := H.rows j hj
    have := H.head
    rw [← e, hc] at this
    simp at this
  have keepR : ∀ j, j < D.N → j ≠ b → w'.rowIs (V j) 93 (D.L j * 2) (vcell (D.X j) (D.R j)) := by
    intro j hj hne
    have h := H0.rows j hj
    have n2 := ne_of_rows h H0.vb (by decide)
    exact h.of_block ((K2.rest _ (neL j hj) n2).trans (K.rest _ (fun e => hne (H.inj j b hj hb e)) n2))
  have keepT : ∀ j k, j < D.N → k < D.L j → TxAt w' (D.X j k) (D.T j k) := by
    intro j k hj hk
    have h := H0.tx j k hj hk
    have n2 := ne_of_tx H0.vb h (by decide)
    have n3 : D.X j k ≠ lb := by
      intro e
      have h' := h
      unfold TxAt at h'
      rw [e, H0.head] at h'
      simp [txnObj] at h'
    exact h.of_block ((K2.rest _ n3 n2).trans (K.rest _ (ne_of_tx (H0.rows b hb) h (by decide)) n2))
  refine ⟨cell_of_one K2.head, lt_of_block K2.head, ⟨?_, ?_, ?_, ?_, K2.vb.lt, ?_, ?_⟩, ?_, by omega, ?_, ?_, ?_⟩
  · intro j hj
    have hj' : j < D.N - 1 := hj
    show _ = some (Value.slice (some ⟨V (sk b j), 0, none⟩) (D.L (sk b j)) (D.L (sk b j)))
    rw [K2.vb.cell (by omega)]
    have e := sk_ne b j
    unfold del
    by_cases h1 : j < b
    · rw [if_pos (by omega)]
      simp only [if_neg (show ¬ j = b by omega)]
      simp [sk, h1]
    · rw [if_neg (by omega), if_pos (by omega)]
      simp only [if_neg (show ¬ j + 1 = b by omega)]
      simp [sk, h1]
  · intro j k hj hk
    have hj' : sk b j < D.N := sk_lt hj
    rw [(keepR _ hj' (sk_ne b j)).cell (show k * 2 < D.L (sk b j) * 2 by have : k < D.L (sk b j) := hk; omega), vcell_even]
    rfl
  · intro j k hj hk
    have hj' : sk b j < D.N := sk_lt hj
    rw [(keepR _ hj' (sk_ne b j)).cell (show k * 2 + 1 < D.L (sk b j) * 2 by have : k < D.L (sk b j) := hk; omega), vcell_odd]
    rfl
  · intro j k hj hk
    exact (keepT _ k (sk_lt hj) hk).cell
  · intro j hj
    exact (keepR _ (sk_lt hj) (sk_ne b j)).lt
  · intro j k hj hk
    exact (keepT _ k (sk_lt hj) hk).lt
  · intro k hk h1 h2 h3
    exact (K2.rest k h1 h2).trans ((K.rest k h3 h2).trans (b0.block k hk))
  · exact K2.os.trans (K.os.trans b0.os)
  · exact K2.tape.trans (K.tape.trans b0.tape)
  · exact K2.output.trans (K.output.trans b0.output)

theorem Inc.delA {D : VD} (I : Inc D) {b i : Nat} (hb : b < D.N) (h1 : 1 < D.L b) : Inc (delA D b i) where
  pos j hj := by
    show 0 < if j = b then D.L j - 1 else D.L j
    have := I.pos j hj
    split
    · rename_i e; rw [e]; omega
    · exact this
  inB j k l hj hkl hl := by
    show (if j = b then D.T j (sk i k) else D.T j k) < if j = b then D.T j (sk i l) else D.T j l
    have hl' : l < if j = b then D.L j - 1 else D.L j := hl
    by_cases e : j = b
    · rw [if_pos e] at hl'
      rw [if_pos e, if_pos e]
      exact I.inB j _ _ hj (sk_mono hkl) (sk_lt hl')
    · rw [if_neg e] at hl'
      rw [if_neg e, if_neg e]
      exact I.inB j k l hj hkl hl'
  acr j j' k l hjj hj' hk hl := by
    show (if j = b then D.T j (sk i k) else D.T j k) < if j' = b then D.T j' (sk i l) else D.T j' l
    have hk' : k < if j = b then D.L j - 1 else D.L j := hk
    have hl' : l < if j' = b then D.L j' - 1 else D.L j' := hl
    have g1 : ∃ k', k' < D.L j ∧ (if j = b then D.T j (sk i k) else D.T j k) = D.T j k' := by
      by_cases e : j = b
      · rw [if_pos e] at hk'
        exact ⟨sk i k, sk_lt hk', by rw [if_pos e]⟩
      · rw [if_neg e] at hk'
        exact ⟨k, hk', by rw [if_neg e]⟩
    have g2 : ∃ l', l' < D.L j' ∧ (if j' = b then D.T j' (sk i l) else D.T j' l) = D.T j' l' := by
      by_cases e : j' = b
      · rw [if_pos e] at hl'
        exact ⟨sk i l, sk_lt hl', by rw [if_pos e]⟩
      · rw [if_neg e] at hl'
        exact ⟨l, hl', by rw [if_neg e]⟩
    obtain ⟨k', hk2, e1⟩ := g1
    obtain ⟨l', hl2, e2⟩ := g2
    rw [e1, e2]
    exact I.acr j j' k' l' hjj hj' hk2 hl2
  nb := I.nb
  lb j hj := by
    show (if j = b then D.L j - 1 else D.L j) ≤ _
    have := I.lb j hj
    split <;> omega

theorem Inc.delB {D : VD} (I : Inc D) {b : Nat} : Inc (delB D b) where
  pos j hj := I.pos _ (sk_lt hj)
  inB j k l hj hkl hl := I.inB _ k l (sk_lt hj) hkl hl
  acr j j' k l hjj hj' hk hl := I.acr _ _ k l (sk_mono hjj) (sk_lt hj') hk hl
  nb := by have := I.nb; show D.N - 1 ≤ _; omega
  lb j hj := I.lb _ (sk_lt hj)

theorem sk_of_lt {r i : Nat} (h : i < r) : sk r i = i := by rw [sk, if_pos h]
theorem sk_of_ge {r i : Nat} (h : r ≤ i) : sk r i = i + 1 := by rw [sk, if_neg (by omega)]

theorem pred_A1 {D : VD} (I : Inc D) {b i : Nat} (hb : b < D.N) (hi : i < D.L b) (h0 : 0 < i) : At (delA D b i) (D.T b i) b (i - 1) where
  hb := hb
  hi := by show i - 1 < if b = b then D.L b - 1 else D.L b; rw [if_pos rfl]; omega
  le := by
    show (if b = b then D.T b (sk i (i - 1)) else D.T b (i - 1)) ≤ _
    rw [if_pos rfl, sk_of_lt (by omega)]
    exact Int.le_of_lt (I.inB b _ _ hb (by omega) hi)
  inB k h1 h2 := by
    show _ < if b = b then D.T b (sk i k) else D.T b k
    have h2' : k < if b = b then D.L b - 1 else D.L b := h2
    rw [if_pos rfl] at h2'
    rw [if_pos rfl, sk_of_ge (by omega)]
    exact I.inB b _ _ hb (by omega) (by omega)
  acr j k h1 h2 h3 := by
    show _ < if j = b then D.T j (sk i k) else D.T j k
    have h3' : k < if j = b then D.L j - 1 else D.L j := h3
    rw [if_neg (by omega)] at h3'
    rw [if_neg (by omega)]
    exact I.acr b j i k h1 h2 hi h3'

theorem pred_A0 {D : VD} (I : Inc D) {b : Nat} (hb : b < D.N) (h0 : 0 < b) : At (delA D b 0) (D.T b 0) (b - 1) (D.L (b - 1) - 1) where
  hb := by show b - 1 < D.N; omega
  hi := by
    show _ < if b - 1 = b then D.L (b - 1) - 1 else D.L (b - 1)
    have := I.pos (b - 1) (by omega)
    rw [if_neg (by omega)]; omega
  le := by
    show (if b - 1 = b then D.T (b - 1) (sk 0 (D.L (b - 1) - 1)) else D.T (b - 1) (D.L (b - 1) - 1)) ≤ _
    have := I.pos (b - 1) (by omega)
    rw [if_neg (by omega)]
    exact Int.le_of_lt (I.acr (b - 1) b _ 0 (by omega) hb (by omega) (I.pos b hb))
  inB k h1 h2 := by
    have h2' : k < if b - 1 = b then D.L (b - 1) - 1 else D.L (b - 1) := h2
    rw [if_neg (by omega)] at h2'
    omega
  acr j k h1 h2 h3 := by
    show _ < if j = b then D.T j (sk 0 k) else D.T j k
    have h3' : k < if j = b then D.L j - 1 else D.L j := h3
    by_cases e : j = b
    · subst e
      rw [if_pos rfl] at h3'
      rw [if_pos rfl, sk_of_ge (by omega)]
      exact I.inB j 0 (k + 1) hb (by omega) (by omega)
    · rw [if_neg e] at h3'
      rw [if_neg e]
      exact I.acr b j 0 k (by omega) h2 (I.pos b hb) h3'

theorem pred_B {D : VD} (I : Inc D) {b : Nat} (hb : b < D.N) (h0 : 0 < b) : At (delB D b) (D.T b 0) (b - 1) (D.L (b - 1) - 1) where
  hb := by show b - 1 < D.N - 1; omega
  hi := by
    show _ < D.L (sk b (b - 1))
    have := I.pos (b - 1) (by omega)
    rw [sk_of_lt (by omega)]; omega
  le := by
    show D.T (sk b (b - 1)) (D.L (b - 1) - 1) ≤ _
    have := I.pos (b - 1) (by omega)
    rw [sk_of_lt (by omega)]
    exact Int.le_of_lt (I.acr (b - 1) b _ 0 (by omega) hb (by omega) (I.pos b hb))
  inB k h1 h2 := by
    have h2' : k < D.L (sk b (b - 1)) := h2
    rw [sk_of_lt (by omega)] at h2'
    omega
  acr j k h1 h2 h3 := by
    show _ < D.T (sk b j) k
    have h3' : k < D.L (sk b j) := h3
    have h2' : j < D.N - 1 := h2
    rw [sk_of_ge (by omega)] at h3' ⊢
    exact I.acr b (j + 1) 0 k (by omega) (by omega) (I.pos b hb) h3'
end Go.Proofs.Qxb6616487a.Vr
