import Derived.Test.Qxb6616487aVrI
namespace Go.Proofs.Qxb6616487a.Vr
open Go.RowKit Go.Deep
set_option linter.unusedVariables false

def pb (b i : Nat) : Nat := if i = 0 then b - 1 else b
def pi (L : Nat → Nat) (b i : Nat) : Nat := if i = 0 then L (b - 1) - 1 else i - 1

/-- all that the law asks of the list behind remove -/
structure Struck (D D' : VD) (b i : Nat) (ef : Nat → Nat) : Prop where
  m : Match D D' b i ef
  inc : Inc D'
  pos : 0 < D'.N
  t0 : D'.T 0 0 ≤ D.T b i
  tm : ∀ j k, j < D'.N → k < D'.L j → D'.T j k ≤ 9223372036854775807
  at_ : At D' (D.T b i) (pb b i) (pi D.L b i)

theorem Struck.ofA {D : VD} (I : Inc D) {b i : Nat} (hb : b < D.N) (hi : i < D.L b) (h1 : 1 < D.L b) (h0 : 0 < b ∨ 0 < i) (hTm : ∀ i k, i < D.N → k < D.L i → D.T i k ≤ 9223372036854775807) : Struck D (delA D b i) b i (fun i => i) where
  m := Match.ofA I hb hi h1
  inc := I.delA hb h1
  pos := by show 0 < D.N; omega
  t0 := by
    show (if 0 = b then D.T 0 (sk i 0) else D.T 0 0) ≤ _
    by_cases e : 0 = b
    · subst e
      rw [if_pos rfl, sk_of_lt (by omega)]
      exact Int.le_of_lt (I.inB 0 0 i hb (by omega) hi)
    · rw [if_neg e]
      exact Int.le_of_lt (I.acr 0 b 0 i (by omega) hb (I.pos 0 (by omega)) hi)
  tm j k hj hk := by
    show (if j = b then D.T j (sk i k) else D.T j k) ≤ _
    have hk' : k < if j = b then D.L j - 1 else D.L j := hk
    by_cases e : j = b
    · rw [if_pos e] at hk' ⊢
      exact hTm _ _ hj (sk_lt hk')
    · rw [if_neg e] at hk' ⊢
      exact hTm _ _ hj hk'
  at_ := by
    unfold pb pi
    by_cases e : i = 0
    · subst e
      rw [if_pos rfl, if_pos rfl]
      exact pred_A0 I hb (by omega)
    · rw [if_neg e, if_neg e]
      exact pred_A1 I hb hi (by omega)

theorem Struck.ofB {D : VD} (I : Inc D) {b : Nat} (hb : b < D.N) (h1 : D.L b = 1) (h0 : 0 < b) (hTm : ∀ i k, i < D.N → k < D.L i → D.T i k ≤ 9223372036854775807) : Struck D (delB D b) b 0 (efB b) where
  m := Match.ofB I hb h1
  inc := I.delB
  pos := by show 0 < D.N - 1; omega
  t0 := by
    show D.T (sk b 0) 0 ≤ _
    rw [sk_of_lt h0]
    exact Int.le_of_lt (I.acr 0 b 0 0 h0 hb (I.pos 0 (by omega)) (by omega))
  tm j k hj hk := hTm _ _ (sk_lt hj) hk
  at_ := by
    unfold pb pi
    rw [if_pos rfl, if_pos rfl]
    exact pred_B I hb h0

set_option maxHeartbeats 400000 in
theorem removeAfter (lb ob b i : Nat) (D : VD) (V : Nat → Nat) (w : World) (H : Lst w lb ob D V) (I : Inc D) (hb : b < D.N) (hi : i < D.L b) (h0 : 0 < b ∨ 0 < i) (ht2 : -9223372036854775808 ≤ D.T b i) (hTm : ∀ i k, i < D.N → k < D.L i → D.T i k ≤ 9223372036854775807) :
    Calls Try.prog 29 #[.pointer (some ⟨lb, 0, none⟩), .int .i64 (D.T b i)] w fun e w' => e = .returned (.tuple #[]) ∧ ∃ D' V' C' ef, After w w' lb ob D.N D' V' C' (V b) ∧ Struck D D' b i ef := by
  have h00 : D.T 0 0 ≤ D.T b i := by
    rcases Nat.eq_zero_or_pos b with e | e
    · subst e
      rcases Nat.eq_zero_or_pos i with e' | e'
      · rw [e']; exact Int.le_refl _
      · exact Int.le_of_lt (I.inB 0 0 i hb e' hi)
    · exact Int.le_of_lt (I.acr 0 b 0 i e hb (I.pos 0 (by omega)) hi)
  have K := hide (remove lb ob b i D V w H I hb hi (hTm b i hb hi) ht2 hTm h00)
  have HH := hide H
  have HI := hide I
  have HT := hide hTm
  clear H I hTm h00
  go_enter Try.func29, Try.ntmps29
  go_wp2_with fail
  refine (unhide K).mono ?_
  rintro e w' ⟨rfl, w0, wc, b0, hc, hA, hB⟩
  have fin : Hid (∃ D' V' C' ef, After w w' lb ob D.N D' V' C' (V b) ∧ Struck D D' b i ef) := by
    by_cases h1 : 1 < D.L b
    · obtain rfl := hA h1
      exact ⟨_, _, _, _, After.ofA (unhide HH) b0 hb hi hc, Struck.ofA (unhide HI) hb hi h1 h0 (unhide HT)⟩
    · have h1' : D.L b = 1 := by omega
      have hi0 : i = 0 := by omega
      subst hi0
      exact ⟨_, _, _, _, After.ofB (unhide HH) b0 hb hc (hB h1'), Struck.ofB (unhide HI) hb h1' (by omega) (unhide HT)⟩
  clear b0 hc hA hB
  go_wp2
  go_end0
  exact ⟨rfl, unhide fin⟩

set_option maxHeartbeats 400000 in
theorem listBlocks (lb ob n c : Nat) (w : World) (h : w.cell? ⟨lb, 0, none⟩ = some (.slice (some ⟨ob, 0, none⟩) n c)) :
    Calls Try.prog 31 #[.pointer (some ⟨lb, 0, none⟩)] w fun e w' => e = .returned (.slice (some ⟨ob, 0, none⟩) n c) ∧ w' = w := by
  go_enter Try.func31, Try.ntmps31
  go_wp2
  go_ret
  exact ⟨rfl, rfl⟩

set_option maxHeartbeats 400000 in
theorem zzFind (lb ob oc : Nat) (t : Int) (D : VD) (V C : Nat → Nat) (w : World) (hl : lb < w.heap.size) (hh : w.cell? ⟨lb, 0, none⟩ = some (.slice (some ⟨ob, 0, none⟩) D.N oc)) (H : Rws w ob D V C) (I : Inc D) (h0 : 0 < D.N) (hT : D.T 0 0 ≤ t) (ht1 : t ≤ 9223372036854775807) (ht2 : -9223372036854775808 ≤ t) (hTm : ∀ i k, i < D.N → k < D.L i → D.T i k ≤ 9223372036854775807) (b i : Nat) (A : At D t b i) :
    Calls Try.prog 32 #[.pointer (some ⟨lb, 0, none⟩), .int .i64 t] w fun e w' => e = .returned (.tuple #[.int .i64 b, .int .i64 i]) ∧ Below w.heap.size w w' := by
  have K := hide (find lb ob oc t D V C w hl hh H I h0 hT ht1 ht2 hTm)
  have HA := hide A
  clear H I hTm A hT hh
  go_enter Try.func32, Try.ntmps32
  go_wp2_with fail
  refine (unhide K).mono ?_
  rintro e w' ⟨b', i', rfl, A', b0⟩
  obtain ⟨rfl, rfl⟩ := A'.unique (unhide HA)
  clear A'
  go_wp2
  go_ret2
  exact ⟨rfl, b0⟩

theorem Bld.lst {w wx : World} {N : Nat} {L : Nat → Nat} {T R : Nat → Nat → Int} {V W : Nat → Nat} {X : Nat → Nat → Nat} (B : Bld w wx N L T R N V W X) :
    Lst (wx.alloc (.cells #[.slice (some ⟨w.heap.size, 0, none⟩) N N] 97)) wx.heap.size w.heap.size ⟨N, L, T, R, X⟩ V where
  head := blk_alloc_new _ _
  vb := (B.vb.congr (fun i hi => by rw [if_pos hi])).alloc _
  rows i hi := (B.rows i hi).alloc _
  tx i k hi hk := (B.tx i k hi hk).of_block (blk_alloc_lt _ _ _ (B.tx i k hi hk).lt)
  inj := B.inj

theorem After.wrs {w wx w' : World} {N : Nat} {L : Nat → Nat} {T R : Nat → Nat → Int} {V W : Nat → Nat} {X : Nat → Nat → Nat} {oc : Nat} {D' : VD} {V' C' : Nat → Nat} {b : Nat} (B : Bld w wx N L T R N V W X) (hb : b < N)
    (A : After (wx.alloc (.cells #[.slice (some ⟨w.heap.size, 0, none⟩) N N] 97)) w' wx.heap.size w.heap.size oc D' V' C' (V b)) :
    Wrs w' (w.heap.size + 1) N L W X ∧ Below w.heap.size w w' := by
  have hs := B.bel.size
  have hlt1 := B.wr.lt
  have wr' : w'.rowIs (w.heap.size + 1) 73 N (fun i => if i < N then .slice (some ⟨W i, 0, none⟩) (L i) (L i) else .slice none 0 0) := by
    refine B.wr.of_block ?_
    rw [A.rest _ (by simp; omega) (by omega) (by omega) (ne_of_rows B.wr (B.rows b hb) (by decide)), blk_alloc_lt _ _ _ hlt1]
  have ws' : ∀ i, i < N → w'.rowIs (W i) 38 (L i) (fun k => .pointer (some ⟨X i k, 0, none⟩)) := by
    intro i hi
    have h := B.wrows i hi
    refine h.of_block ?_
    rw [A.rest _ (by have := h.lt; simp; omega) (by have := h.lt; omega) (ne_of_rows h B.vb (by decide)) (ne_of_rows h (B.rows b hb) (by decide)), blk_alloc_lt _ _ _ h.lt]
  refine ⟨⟨fun i hi => ?_, fun i k hi hk => (ws' i hi).cell hk, wr'.lt, fun i hi => (ws' i hi).lt⟩, ?_⟩
  · rw [wr'.cell hi, if_pos hi]
  · have h1 : Below w.heap.size w (wx.alloc (.cells #[.slice (some ⟨w.heap.size, 0, none⟩) N N] 97)) := B.bel.alloc hs _
    refine h1.trans ⟨A.os, A.tape, A.output, A.size, fun k hk => ?_⟩
    have hlo := B.lo b hb
    exact A.rest k (by simp; omega) (by omega) (by omega) (by omega)
end Go.Proofs.Qxb6616487a.Vr
