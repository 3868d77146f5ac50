import Derived.Test.Qxb6616487aVrH
namespace Go.Proofs.Qxb6616487a.Vr
open Go.RowKit Go.Deep
set_option linter.unusedVariables false

/-- what flatIndexOf answers -/
def Flat (e : Ending) (w w' : World) (N : Nat) (L : Nat → Nat) (T : Nat → Nat → Int) (ts : Int) : Prop :=
  ∃ r : Int, e = .returned (.int .i64 r) ∧ (r ≤ 0 ∨ ∃ bi k : Nat, bi < N ∧ k < L bi ∧ T bi k = ts ∧ r = ((off L bi + k : Nat) : Int)) ∧ w' = w
theorem flat_mk {e : Ending} {w w' : World} {N : Nat} {L : Nat → Nat} {T : Nat → Nat → Int} {ts : Int} (r : Int) (h1 : e = .returned (.int .i64 r)) (h2 : r ≤ 0 ∨ ∃ bi k : Nat, bi < N ∧ k < L bi ∧ T bi k = ts ∧ r = ((off L bi + k : Nat) : Int)) (h3 : w' = w) : Flat e w w' N L T ts := ⟨r, h1, h2, h3⟩

set_option maxHeartbeats 1000000 in
theorem flatIndexOf (a : Option Addr) (N c : Nat) (ts : Int) (L : Nat → Nat) (A : Nat → Option Addr) (C : Nat → Nat) (T R : Nat → Nat → Int) (w : World) (H : Blks w a N L A C T R) (hN : N ≤ 1000000) (hL : ∀ i, i < N → L i ≤ 1000000) (hO : off L N ≤ 1000000) :
    Calls Try.prog 25 #[.slice a N c, .int .i64 ts] w fun e w' => Flat e w w' N L T ts := by
  have HH := hide H
  have HL := hide hL
  have HO : Hid (∀ bi, bi ≤ N → off L bi ≤ 1000000) := fun bi h => Nat.le_trans (off_le h) hO
  clear H hL hO
  go_enter Try.func25, Try.ntmps25
  go_wp2
  go_loop [5, 6, 7] (fun f i _ => ∃ bi : Nat, bi ≤ N ∧ i = .int .i64 bi ∧ f = .int .i64 (off L bi)) (fun _ i _ => N - (intOf i).toNat)
  case atStart => exact ⟨0, Nat.zero_le _, rfl, rfl⟩
  case round =>
    obtain ⟨bi, hbi, rfl, rfl⟩ := hrel
    have g1 := unhide HO bi hbi
    by_cases hlt : bi < N
    · obtain ⟨b, o, rfl, hl, hc⟩ := (unhide HH).row bi hlt
      have hLb := unhide HL bi hlt
      have i1 : (bi : Int) < (N : Int) := by omega
      go_wp2
      go_loop [5, 7] (fun f k => ∃ q : Nat, q ≤ L bi ∧ k = .int .i64 q ∧ f = .int .i64 ((off L bi : Int) + q)) (fun _ k => L bi - (intOf k).toNat)
      case atStart => exact ⟨0, Nat.zero_le _, rfl, by simp⟩
      case round =>
        obtain ⟨q, hq, rfl, rfl⟩ := hrel
        by_cases hqL : q < L bi
        · obtain ⟨b', o', eA, hl', t1, t2⟩ := (unhide HH).el bi q hlt hqL
          have hc2 := hc
          rw [eA] at hc2
          clear eA t2
          have HC := hide hc
          clear hc
          have i2 : (q : Int) < (L bi : Int) := by omega
          by_cases ht : T bi q = ts
          · have e1 : (T bi q == ts) = true := beq_iff_eq.2 ht
            have HT := hide ht
            clear ht
            go_wp2
            go_ret
            exact flat_mk _ rfl (.inr ⟨bi, q, hlt, hqL, unhide HT, by omega⟩) rfl
          · have e1 : (T bi q == ts) = false := beq_eq_false_iff_ne.2 ht
            go_wp2
            go_round
            case rel => exact ⟨q + 1, by omega, by go_num, by go_num⟩
            case measure => simp [intOf]; omega
        · have hqe : q = L bi := by omega
          subst hqe
          go_wp2
          go_round
          case rel => exact ⟨bi + 1, by omega, by go_num, by simp only [off]; go_num⟩
          case measure => simp [intOf]; omega
    · go_wp2
      go_ret
      exact flat_mk (-1) rfl (.inl (by omega)) rfl

set_option maxHeartbeats 1000000 in
theorem placeOf (a : Option Addr) (N c : Nat) (ts : Int) (L : Nat → Nat) (A : Nat → Option Addr) (C : Nat → Nat) (T R : Nat → Nat → Int) (w : World) (H : Blks w a N L A C T R) (hN : N ≤ 1000000) (hL : ∀ i, i < N → L i ≤ 1000000) (hex : ∃ i k, i < N ∧ k < L i ∧ T i k = ts) :
    Calls Try.prog 26 #[.slice a N c, .int .i64 ts] w fun e w' => ∃ bi k : Nat, e = .returned (.tuple #[.int .i64 bi, .int .i64 k]) ∧ bi < N ∧ k < L bi ∧ T bi k = ts ∧ w' = w := by
  have HH := hide H
  have HL := hide hL
  have HX := hide hex
  clear H hL hex
  go_enter Try.func26, Try.ntmps26
  go_wp2
  go_loop [6, 7] (fun i _ => ∃ bi : Nat, bi ≤ N ∧ i = .int .i64 bi ∧ ∀ j k, j < bi → k < L j → T j k ≠ ts) (fun i _ => N - (intOf i).toNat)
  case atStart => exact ⟨0, Nat.zero_le _, rfl, fun j k hj => absurd hj (Nat.not_lt_zero j)⟩
  case round =>
    obtain ⟨bi, hbi, rfl, hno⟩ := hrel
    have Hno := hide hno
    clear hno
    by_cases hlt : bi < N
    · obtain ⟨b, o, rfl, hl, hc⟩ := (unhide HH).row bi hlt
      have hLb := unhide HL bi hlt
      have i1 : (bi : Int) < (N : Int) := by omega
      go_wp2
      go_loop [7] (fun k => ∃ q : Nat, q ≤ L bi ∧ k = .int .i64 q ∧ ∀ k, k < q → T bi k ≠ ts) (fun k => L bi - (intOf k).toNat)
      case atStart => exact ⟨0, Nat.zero_le _, rfl, fun k hk => absurd hk (Nat.not_lt_zero k)⟩
      case round =>
        obtain ⟨q, hq, rfl, hno2⟩ := hrel
        have Hno2 := hide hno2
        clear hno2
        by_cases hqL : q < L bi
        · obtain ⟨b', o', eA, hl', t1, t2⟩ := (unhide HH).el bi q hlt hqL
          have hc2 := hc
          rw [eA] at hc2
          clear eA t2
          have HC := hide hc
          clear hc
          have i2 : (q : Int) < (L bi : Int) := by omega
          by_cases ht : T bi q = ts
          · have e1 : (T bi q == ts) = true := beq_iff_eq.2 ht
            have HT := hide ht
            clear ht
            go_wp2
            go_ret2
            exact ⟨bi, q, rfl, hlt, hqL, unhide HT, rfl⟩
          · have e1 : (T bi q == ts) = false := beq_eq_false_iff_ne.2 ht
            have HT := hide ht
            clear ht
            go_wp2
            go_round
            case rel => exact ⟨q + 1, by omega, by go_num, fun k hk => by rcases Nat.lt_succ_iff_lt_or_eq.1 hk with e | rfl; exact unhide Hno2 k e; exact unhide HT⟩
            case measure => simp [intOf]; omega
        · have hqe : q = L bi := by omega
          subst hqe
          go_wp2
          go_round
          case rel => exact ⟨bi + 1, by omega, by go_num, fun j k hj hk => by rcases Nat.lt_succ_iff_lt_or_eq.1 hj with e | rfl; exact unhide Hno j k e hk; exact unhide Hno2 k hk⟩
          case measure => simp [intOf]; omega
    · obtain ⟨i, k, hi, hk, ht⟩ := unhide HX
      exact absurd ht (unhide Hno i k (by omega) hk)

theorem Incr.inc {N : Nat} {L : Nat → Nat} {T R : Nat → Nat → Int} {X : Nat → Nat → Nat} (h : Incr L T N 0) (hp : ∀ i, i < N → 0 < L i) (hN : N ≤ 1000000) (hL : ∀ i, i < N → L i ≤ 1000000) : Inc ⟨N, L, T, R, X⟩ where
  pos := hp
  inB i k l hi hkl hl := h i k i l (Nat.lt_trans hkl hl) hl (.inl hi) (.inr ⟨rfl, hkl⟩)
  acr i j k l hij hj hk hl := h i k j l hk hl (.inl hj) (.inl hij)
  nb := hN
  lb := hL

/-- one timestamp, one place -/
theorem Inc.uniq {D : VD} (I : Inc D) {i k j l : Nat} (hi : i < D.N) (hj : j < D.N) (hk : k < D.L i) (hl : l < D.L j) (h : D.T i k = D.T j l) : i = j ∧ k = l := by
  rcases Nat.lt_trichotomy i j with e | e | e
  · have := I.acr i j k l e hj hk hl; omega
  · subst e
    refine ⟨rfl, ?_⟩
    rcases Nat.lt_trichotomy k l with f | f | f
    · have := I.inB i k l hi f hl; omega
    · exact f
    · have := I.inB i l k hi f hk; omega
  · have := I.acr j i l k e hi hl hk; omega

theorem Match.ofA {D : VD} (I : Inc D) {rb ri : Nat} (hrb : rb < D.N) (hri : ri < D.L rb) (h1 : 1 < D.L rb) : Match D (delA D rb ri) rb ri (fun i => i) where
  e0 := rfl
  es bi hbi := by
    have := I.pos bi hbi
    have hne : kc rb ri bi (D.L bi) ≠ 0 := by
      unfold kc
      split
      · rename_i h; rw [h.1]; omega
      · omega
    rw [if_neg hne]
  eN := rfl
  le bi hbi _ := by
    refine ⟨hbi, ?_⟩
    show (if bi = rb then D.L bi - 1 else D.L bi) = kc rb ri bi (D.L bi)
    unfold kc
    by_cases e : bi = rb
    · rw [if_pos e, if_pos ⟨e, by rw [e]; exact hri⟩]
    · rw [if_neg e, if_neg (fun h => e h.1)]
  el bi k hbi hk hne := by
    have sk1 : bi = rb → sk ri (kc rb ri bi k) = k := by
      intro e
      unfold kc
      by_cases h : ri < k
      · rw [if_pos ⟨e, h⟩, sk_of_ge (by omega)]; omega
      · rw [if_neg (fun h' => h h'.2)]
        exact sk_of_lt (by have : k ≠ ri := fun e' => hne ⟨e, e'⟩; omega)
    have sk2 : bi ≠ rb → kc rb ri bi k = k := by
      intro e
      unfold kc
      rw [if_neg (fun h => e h.1)]
    refine ⟨?_, ?_, ?_, ?_⟩
    · unfold kc
      by_cases e : bi = rb
      · subst e
        by_cases h : ri < k
        · rw [if_pos ⟨rfl, h⟩, if_pos ⟨rfl, by omega⟩]; omega
        · rw [if_neg (fun h' => h h'.2), if_pos ⟨rfl, hri⟩]
          have : k ≠ ri := fun e' => hne ⟨rfl, e'⟩
          omega
      · rw [if_neg (fun h => e h.1), if_neg (fun h => e h.1)]; exact hk
    · show (if bi = rb then D.X bi (sk ri (kc rb ri bi k)) else D.X bi (kc rb ri bi k)) = _
      by_cases e : bi = rb
      · rw [if_pos e, sk1 e]
      · rw [if_neg e, sk2 e]
    · show (if bi = rb then D.R bi (sk ri (kc rb ri bi k)) else D.R bi (kc rb ri bi k)) = _
      by_cases e : bi = rb
      · rw [if_pos e, sk1 e]
      · rw [if_neg e, sk2 e]
    · show (if bi = rb then D.T bi (sk ri (kc rb ri bi k)) else D.T bi (kc rb ri bi k)) = _
      by_cases e : bi = rb
      · rw [if_pos e, sk1 e]
      · rw [if_neg e, sk2 e]

def efB (rb i : Nat) : Nat := if i ≤ rb then i else i - 1

theorem Match.ofB {D : VD} (I : Inc D) {rb : Nat} (hrb : rb < D.N) (h1 : D.L rb = 1) : Match D (delB D rb) rb 0 (efB rb) where
  e0 := by simp [efB]
  es bi hbi := by
    have := I.pos bi hbi
    by_cases e : bi = rb
    · have hk : kc rb 0 bi (D.L bi) = 0 := by
        subst e
        unfold kc
        rw [if_pos ⟨rfl, by omega⟩]; omega
      rw [if_pos hk]
      unfold efB
      rw [if_neg (by omega), if_pos (by omega)]; omega
    · have hk : kc rb 0 bi (D.L bi) ≠ 0 := by
        unfold kc
        rw [if_neg (fun h => e h.1)]; omega
      rw [if_neg hk]
      unfold efB
      split <;> split <;> omega
  eN := by
    show efB rb D.N = D.N - 1
    unfold efB
    rw [if_neg (by omega)]
  le bi hbi hne := by
    have e : bi ≠ rb := by
      intro e
      apply hne
      subst e
      unfold kc
      rw [if_pos ⟨rfl, by omega⟩]; omega
    have hs : sk rb (efB rb bi) = bi := by
      unfold efB
      by_cases h : bi ≤ rb
      · rw [if_pos h, sk_of_lt (by omega)]
      · rw [if_neg h, sk_of_ge (by omega)]; omega
    refine ⟨?_, ?_⟩
    · show efB rb bi < D.N - 1
      unfold efB
      split <;> omega
    · show D.L (sk rb (efB rb bi)) = _
      rw [hs]
      unfold kc
      rw [if_neg (fun h => e h.1)]
  el bi k hbi hk hne := by
    have e : bi ≠ rb := by
      intro e
      subst e
      exact hne ⟨rfl, by omega⟩
    have hs : sk rb (efB rb bi) = bi := by
      unfold efB
      by_cases h : bi ≤ rb
      · rw [if_pos h, sk_of_lt (by omega)]
      · rw [if_neg h, sk_of_ge (by omega)]; omega
    have hk2 : kc rb 0 bi k = k := by
      unfold kc
      rw [if_neg (fun h => e h.1)]
    refine ⟨?_, ?_, ?_, ?_⟩
    · rw [hk2]
      unfold kc
      rw [if_neg (fun h => e h.1)]; exact hk
    · show D.X (sk rb (efB rb bi)) _ = _
      rw [hs, hk2]
    · show D.R (sk rb (efB rb bi)) _ = _
      rw [hs, hk2]
    · show D.T (sk rb (efB rb bi)) _ = _
      rw [hs, hk2]
end Go.Proofs.Qxb6616487a.Vr
