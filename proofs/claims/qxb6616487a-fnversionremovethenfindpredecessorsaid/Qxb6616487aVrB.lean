import Derived.Test.Qxb6616487aVrA
namespace Go.Proofs.Qxb6616487a.Vr
open Go.RowKit Go.Deep
set_option linter.unusedVariables false

set_option maxHeartbeats 400000 in
/-- the last block whose first timestamp is not above ts -/
theorem last1 (ob oc : Nat) (t : Int) (D : VD) (V C : Nat → Nat) (w : World) (H : Rws w ob D V C) (I : Inc D) (h0 : 0 < D.N) (hT : D.T 0 0 ≤ t) (ht : t < 9223372036854775807) (ht2 : -9223372036854775808 ≤ t) :
    Calls Try.prog 48 #[.slice (some ⟨ob, 0, none⟩) D.N oc, .int .i64 t, .func (Fn.func 49) #[] #[]] w fun e w' => ∃ r : Nat, e = .returned (.int .i64 r) ∧ r < D.N ∧ D.T r 0 ≤ t ∧ (∀ i, r < i → i < D.N → t < D.T i 0) ∧ Below w.heap.size w w' := by
  have nb := I.nb
  have b0 : Below w.heap.size w (w.alloc (.cells #[.func (Fn.func 49) #[] #[]] 105)) := (Below.refl _ _).alloc (Nat.le_refl _) _
  have K := hide (bs1 ob oc w.heap.size (t + 1) D V C (w.alloc (.cells #[.func (Fn.func 49) #[] #[]] 105)) (H.below b0) I (by simp) (by simp))
  clear H I
  go_enter Try.func48, Try.ntmps48
  go_wp2_with fail
  refine (unhide K).mono ?_
  rintro e w1 ⟨r, bl, rfl, hr, hlo, hhi, rfl⟩
  have hr0 : 0 < r := by
    rcases Nat.eq_zero_or_pos r with e | e
    · subst e
      have := hhi 0 (Nat.le_refl _) h0
      omega
    · exact e
  have Hlo := hide hlo
  have Hhi := hide hhi
  clear hlo hhi hT
  go_wp2
  go_ret
  refine ⟨r - 1, ret_int (by omega), by omega, ?_, ?_, b0⟩
  · have := unhide Hlo (r - 1) (by omega); omega
  · intro i hi hn
    have := unhide Hhi i (by omega) hn
    omega

set_option maxHeartbeats 400000 in
theorem last2 (ob b0 : Nat) (t : Int) (D : VD) (V C : Nat → Nat) (w : World) (H : Rws w ob D V C) (I : Inc D) (hb : b0 < D.N) (hT : D.T b0 0 ≤ t) (ht : t < 9223372036854775807) (ht2 : -9223372036854775808 ≤ t) :
    Calls Try.prog 50 #[.slice (some ⟨V b0, 0, none⟩) (D.L b0) (C b0), .int .i64 t, .func (Fn.func 51) #[] #[]] w fun e w' => ∃ r : Nat, e = .returned (.int .i64 r) ∧ r < D.L b0 ∧ D.T b0 r ≤ t ∧ (∀ i, r < i → i < D.L b0 → t < D.T b0 i) ∧ Below w.heap.size w w' := by
  have nb := I.lb b0 hb
  have h0 := I.pos b0 hb
  have b1 : Below w.heap.size w (w.alloc (.cells #[.func (Fn.func 51) #[] #[]] 99)) := (Below.refl _ _).alloc (Nat.le_refl _) _
  have K := hide (bs2 ob b0 w.heap.size (t + 1) D V C (w.alloc (.cells #[.func (Fn.func 51) #[] #[]] 99)) (H.below b1) I hb (by simp) (by simp))
  clear H I
  go_enter Try.func50, Try.ntmps50
  go_wp2_with fail
  refine (unhide K).mono ?_
  rintro e w1 ⟨r, bl, rfl, hr, hlo, hhi, b2⟩
  have b3 := chain b1 b2
  have hr0 : 0 < r := by
    rcases Nat.eq_zero_or_pos r with e | e
    · subst e
      have := hhi 0 (Nat.le_refl _) h0
      omega
    · exact e
  have Hlo := hide hlo
  have Hhi := hide hhi
  clear hlo hhi hT b2
  go_wp2
  go_ret
  refine ⟨r - 1, ret_int (by omega), by omega, ?_, ?_, b3⟩
  · have := unhide Hlo (r - 1) (by omega); omega
  · intro i hi hn
    have := unhide Hhi i (by omega) hn
    omega

/-- (b, i) is the last place whose timestamp is not above ts -/
structure At (D : VD) (t : Int) (b i : Nat) : Prop where
  hb : b < D.N
  hi : i < D.L b
  le : D.T b i ≤ t
  inB : ∀ k, i < k → k < D.L b → t < D.T b k
  acr : ∀ j k, b < j → j < D.N → k < D.L j → t < D.T j k

theorem Int.ofNat_pred {n : Nat} (h : 0 < n) : (n : Int) - 1 = ((n - 1 : Nat) : Int) := by omega

set_option maxHeartbeats 400000 in
theorem find (lb ob oc : Nat) (t : Int) (D : VD) (V C : Nat → Nat) (w : World) (hl : lb < w.heap.size) (hh : w.cell? ⟨lb, 0, none⟩ = some (.slice (some ⟨ob, 0, none⟩) D.N oc)) (H : Rws w ob D V C) (I : Inc D) (h0 : 0 < D.N) (hT : D.T 0 0 ≤ t) (ht1 : t ≤ 9223372036854775807) (ht2 : -9223372036854775808 ≤ t) (hTm : ∀ i k, i < D.N → k < D.L i → D.T i k ≤ 9223372036854775807) :
    Calls Try.prog 44 #[.pointer (some ⟨lb, 0, none⟩), .int .i64 t] w fun e w' => ∃ b i : Nat, e = .returned (.tuple #[.int .i64 b, .int .i64 i]) ∧ At D t b i ∧ Below w.heap.size w w' := by
  have nb := I.nb
  have hN : D.N - 1 < D.N := by omega
  have hLp := I.pos _ hN
  have hLb := I.lb _ hN
  have hLl : D.L (D.N - 1) - 1 < D.L (D.N - 1) := by omega
  have q1 := H.outer _ hN
  have q2 := H.ptr _ _ hN hLl
  have q3 := H.ts _ _ hN hLl
  have e1 : (D.N : Int) - 1 = ((D.N - 1 : Nat) : Int) := by omega
  have e2 : (D.L (D.N - 1) : Int) - 1 = ((D.L (D.N - 1) - 1 : Nat) : Int) := by omega
  by_cases hlast : D.T (D.N - 1) (D.L (D.N - 1) - 1) ≤ t
  · have fin : At D t (D.N - 1) (D.L (D.N - 1) - 1) := ⟨hN, hLl, hlast, fun k h1 h2 => absurd h1 (by omega), fun j k h1 h2 _ => absurd h1 (by omega)⟩
    have FIN := hide fin
    clear fin H I
    go_enter Try.func44, Try.ntmps44
    go_wp2
    go_ret2
    exact ⟨D.N - 1, D.L (D.N - 1) - 1, rfl, unhide FIN, Below.refl _ _⟩
  · have hTl := hTm _ _ hN hLl
    have ht3 : t < 9223372036854775807 := by omega
    have HH := hide H
    have HI := hide I
    clear H I
    go_enter Try.func44, Try.ntmps44
    go_wp2_with fail
    refine (last1 ob oc t D V C w (unhide HH) (unhide HI) h0 hT ht3 ht2).mono ?_
    rintro e w1 ⟨r, rfl, hr, hTr, hhi, b1⟩
    have hh1 := (b1.cell (p := ⟨lb, 0, none⟩) hl).trans hh
    have HH1 := hide ((unhide HH).below b1)
    have q4 := (unhide HH1).outer r hr
    have i1 : (r : Int) < (D.N : Int) := by omega
    have Hhi := hide hhi
    clear hhi q1 q2 q3 e1 e2
    go_wp2_with fail
    refine (last2 ob r t D V C w1 (unhide HH1) (unhide HI) hr hTr ht3 ht2).mono ?_
    rintro e w2 ⟨i, rfl, hi, hTi, hin, b2⟩
    have b3 := chain b1 b2
    have A : At D t r i := ⟨hr, hi, hTi, hin, fun j k h1 h2 h3 => by
      have g1 := unhide Hhi j h1 h2
      rcases Nat.eq_zero_or_pos k with e | e
      · rw [e]; exact g1
      · exact Int.lt_trans g1 ((unhide HI).inB j 0 k h2 e h3)⟩
    have HA := hide A
    clear A hin b1 b2 q4 hh1
    go_wp2
    go_ret2
    exact ⟨r, i, rfl, unhide HA, b3⟩
end Go.Proofs.Qxb6616487a.Vr
