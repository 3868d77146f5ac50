import Derived.Test.Qxb6616487aVrG
namespace Go.Proofs.Qxb6616487a.Vr
open Go.RowKit Go.Deep
set_option linter.unusedVariables false

/-- the call answers a bool of which P holds, and leaves the world -/
def Ans (e : Ending) (w w' : World) (P : Bool → Prop) : Prop := ∃ r : Bool, e = .returned (.bool r) ∧ P r ∧ w' = w
theorem ans {e : Ending} {w w' : World} {P : Bool → Prop} (r : Bool) (h1 : e = .returned (.bool r)) (h2 : P r) (h3 : w' = w) : Ans e w w' P := ⟨r, h1, h2, h3⟩

set_option maxHeartbeats 400000 in
theorem bytes (a : Option Addr) (N c : Nat) (ts : Int) (L : Nat → Nat) (A : Nat → Option Addr) (C : Nat → Nat) (T R : Nat → Nat → Int) (w : World) (H : Blks w a N L A C T R) (hN : N ≤ 9223372036854775807) (hL : ∀ i, i < N → L i ≤ 9223372036854775807) :
    Calls Try.prog 22 #[.slice a N c, .int .i64 ts] w fun e w' => Ans e w w' (fun _ => True) := by
  have HH := hide H
  have HL := hide hL
  clear H hL
  by_cases h1 : N ≤ 1048576
  · go_enter Try.func22, Try.ntmps22
    go_wp2
    go_loop [5, 6] (fun z i => ∃ (k : Nat) (s : Int), k ≤ N ∧ i = .int .i64 k ∧ z = .int .i64 s ∧ 0 ≤ s ∧ s ≤ 1048576) (fun _ i => N - (intOf i).toNat)
    case atStart => exact ⟨0, N, Nat.zero_le _, rfl, rfl, by omega, by omega⟩
    case round =>
      obtain ⟨k, s, hk, rfl, rfl, hs0, hs1⟩ := hrel
      by_cases hlt : k < N
      · obtain ⟨b, o, rfl, hl, hc⟩ := (unhide HH).row k hlt
        have hLk := unhide HL k hlt
        by_cases q1 : L k ≤ 1048576
        · by_cases q2 : s + L k ≤ 1048576
          · go_wp2
            go_round
            case rel => exact ⟨k + 1, s + L k, by omega, by go_num, rfl, by omega, q2⟩
            case measure => simp [intOf]; omega
          · go_wp2
            go_ret
            exact ans _ rfl trivial rfl
        · go_wp2
          go_ret
          exact ans _ rfl trivial rfl
      · go_wp2
        go_ret
        exact ans _ rfl trivial rfl
  · go_enter Try.func22, Try.ntmps22
    go_wp2
    go_ret
    exact ans _ rfl trivial rfl

set_option maxHeartbeats 400000 in
theorem fit (a : Option Addr) (N c : Nat) (L : Nat → Nat) (A : Nat → Option Addr) (C : Nat → Nat) (T R : Nat → Nat → Int) (w : World) (H : Blks w a N L A C T R) (hN : N ≤ 9223372036854775807) (hL : ∀ i, i < N → L i ≤ 9223372036854775807) :
    Calls Try.prog 23 #[.slice a N c] w fun e w' => Ans e w w' (fun r => r = true → N ≤ 1000000 ∧ off L N ≤ 1000000 ∧ ∀ i, i < N → L i ≤ 1000000) := by
  have HH := hide H
  have HL := hide hL
  clear H hL
  go_enter Try.func23, Try.ntmps23
  go_wp2
  go_loop [3, 4] (fun z i => ∃ k : Nat, k ≤ N ∧ i = .int .i64 k ∧ z = .int .i64 (24 * (k : Int) + 16 * (off L k : Int)) ∧ 24 * k + 16 * off L k ≤ 1048576 ∧ ∀ i, i < k → L i ≤ 65536) (fun _ i => N - (intOf i).toNat)
  case atStart => exact ⟨0, Nat.zero_le _, rfl, rfl, by simp [off], fun i hi => absurd hi (Nat.not_lt_zero i)⟩
  case round =>
    obtain ⟨k, hk, rfl, rfl, hs, hlo⟩ := hrel
    have Hlo := hide hlo
    clear hlo
    by_cases hlt : k < N
    · obtain ⟨b, o, rfl, hl, hc⟩ := (unhide HH).row k hlt
      have hLk := unhide HL k hlt
      by_cases q1 : L k ≤ 65536
      · by_cases q2 : 24 * k + 16 * off L k + (24 + 16 * L k) ≤ 1048576
        · go_wp2
          go_round
          case rel => exact ⟨k + 1, by omega, by go_num, by simp only [off]; go_num, by simp only [off]; omega, fun i hi => by rcases Nat.lt_succ_iff_lt_or_eq.1 hi with e | rfl; exact unhide Hlo i e; exact q1⟩
          case measure => simp [intOf]; omega
        · go_wp2
          go_ret
          exact ans false rfl (fun h => by cases h) rfl
      · go_wp2
        go_ret
        exact ans false rfl (fun h => by cases h) rfl
    · have hkn : k = N := by omega
      subst hkn
      go_wp2
      go_ret
      exact ans true rfl (fun _ => ⟨by omega, by omega, fun i hi => Nat.le_trans (unhide Hlo i hi) (by omega)⟩) rfl

/-- place (i, k) stands ahead of (j, l) -/
def Bf (i k j l : Nat) : Prop := i < j ∨ (i = j ∧ k < l)

/-- all places ahead of (bi, q) increase -/
def Incr (L : Nat → Nat) (T : Nat → Nat → Int) (bi q : Nat) : Prop := ∀ i k j l, k < L i → l < L j → Bf j l bi q → Bf i k j l → T i k < T j l
/-- what 'prev' and 'first' hold there -/
def Prev (L : Nat → Nat) (T : Nat → Nat → Int) (bi q : Nat) (fb : Bool) (p : Int) : Prop := (fb = true ∧ bi = 0 ∧ q = 0) ∨ (fb = false ∧ ∀ i k, k < L i → Bf i k bi q → T i k ≤ p)

theorem Incr.step {L : Nat → Nat} {T : Nat → Nat → Int} {bi q : Nat} {fb : Bool} {p : Int} (hI : Incr L T bi q) (hP : Prev L T bi q fb p) (hok : fb = true ∨ p < T bi q) : Incr L T bi (q + 1) ∧ Prev L T bi (q + 1) false (T bi q) := by
  have key : ∀ i k, k < L i → Bf i k bi q → T i k < T bi q := by
    intro i k hk hb
    rcases hP with ⟨_, rfl, rfl⟩ | ⟨h1, h2⟩
    · rcases hb with h | h <;> omega
    · have := h2 i k hk hb
      rcases hok with h | h
      · rw [h1] at h; cases h
      · omega
  refine ⟨fun i k j l hk hl hj hi => ?_, .inr ⟨rfl, fun i k hk hb => ?_⟩⟩
  · by_cases e : j = bi ∧ l = q
    · obtain ⟨rfl, rfl⟩ := e
      exact key i k hk hi
    · refine hI i k j l hk hl ?_ hi
      rcases hj with h | ⟨h1, h2⟩
      · exact .inl h
      · exact .inr ⟨h1, by have : l ≠ q := fun e' => e ⟨h1, e'⟩; omega⟩
  · by_cases e : i = bi ∧ k = q
    · obtain ⟨rfl, rfl⟩ := e; exact Int.le_refl _
    · refine Int.le_of_lt (key i k hk ?_)
      rcases hb with h | ⟨h1, h2⟩
      · exact .inl h
      · exact .inr ⟨h1, by have : k ≠ q := fun e' => e ⟨h1, e'⟩; omega⟩

theorem Incr.next {L : Nat → Nat} {T : Nat → Nat → Int} {bi : Nat} {fb : Bool} {p : Int} (hI : Incr L T bi (L bi)) (hP : Prev L T bi (L bi) fb p) (h0 : 0 < L bi) : Incr L T (bi + 1) 0 ∧ Prev L T (bi + 1) 0 fb p := by
  have cv : ∀ i k, k < L i → Bf i k (bi + 1) 0 → Bf i k bi (L bi) := by
    intro i k hk hb
    rcases hb with h | ⟨_, h⟩
    · rcases Nat.lt_or_eq_of_le (Nat.lt_succ_iff.1 h) with e | e
      · exact .inl e
      · exact .inr ⟨e, by rw [← e]; exact hk⟩
    · omega
  refine ⟨fun i k j l hk hl hj hi => hI i k j l hk hl (cv j l hl hj) hi, ?_⟩
  rcases hP with ⟨_, _, h⟩ | ⟨h1, h2⟩
  · omega
  · exact .inr ⟨h1, fun i k hk hb => h2 i k hk (cv i k hk hb)⟩

set_option maxHeartbeats 1000000 in
theorem wellFormed (a : Option Addr) (N c : Nat) (L : Nat → Nat) (A : Nat → Option Addr) (C : Nat → Nat) (T R : Nat → Nat → Int) (w : World) (H : Blks w a N L A C T R) (hN : N ≤ 1000000) (hL : ∀ i, i < N → L i ≤ 1000000) :
    Calls Try.prog 24 #[.slice a N c] w fun e w' => Ans e w w' (fun r => r = true → 0 < N ∧ (∀ i, i < N → 0 < L i) ∧ Incr L T N 0) := by
  have HH := hide H
  have HL := hide hL
  clear H hL
  by_cases h0 : N = 0
  · have e0 : ((N : Int) == 0) = true := beq_iff_eq.2 (by omega)
    go_enter Try.func24, Try.ntmps24
    go_wp2
    go_ret
    exact ans false rfl (fun h => by cases h) rfl
  · have e0 : ((N : Int) == 0) = false := beq_eq_false_iff_ne.2 (by omega)
    go_enter Try.func24, Try.ntmps24
    go_wp2
    go_loop [3, 4, 5, 6, 7] (fun pv fs i _ _ => ∃ (bi : Nat) (fb : Bool) (p : Int), bi ≤ N ∧ i = .int .i64 bi ∧ fs = .bool fb ∧ pv = .int .i64 p ∧ (∀ i, i < bi → 0 < L i) ∧ Incr L T bi 0 ∧ Prev L T bi 0 fb p) (fun _ _ i _ _ => N - (intOf i).toNat)
    case atStart => exact ⟨0, true, 0, Nat.zero_le _, rfl, rfl, rfl, fun i hi => absurd hi (Nat.not_lt_zero i), fun i k j l _ _ hj _ => by rcases hj with h | ⟨_, h⟩ <;> omega, .inl ⟨rfl, rfl, rfl⟩⟩
    case round =>
      obtain ⟨bi, fb, p, hbi, rfl, rfl, rfl, hpos, hI, hP⟩ := hrel
      have Hpos := hide hpos
      have HI := hide hI
      have HP := hide hP
      clear hpos hI hP
      by_cases hlt : bi < N
      · obtain ⟨b, o, rfl, hl, hc⟩ := (unhide HH).row bi hlt
        have hLb := unhide HL bi hlt
        by_cases hz : L bi = 0
        · have e1 : ((L bi : Int) == 0) = true := beq_iff_eq.2 (by omega)
          go_wp2
          go_ret
          exact ans false rfl (fun h => by cases h) rfl
        · have e1 : ((L bi : Int) == 0) = false := beq_eq_false_iff_ne.2 (by omega)
          have i1 : (bi : Int) < (N : Int) := by omega
          go_wp2
          go_loop [3, 4, 6, 7] (fun pv fs k _ => ∃ (q : Nat) (fb : Bool) (p : Int), q ≤ L bi ∧ k = .int .i64 q ∧ fs = .bool fb ∧ pv = .int .i64 p ∧ Incr L T bi q ∧ Prev L T bi q fb p) (fun _ _ k _ => L bi - (intOf k).toNat)
          case atStart => exact ⟨0, fb, p, Nat.zero_le _, rfl, rfl, rfl, unhide HI, unhide HP⟩
          case round =>
            clear HI HP
            obtain ⟨q, fb', p', hq, rfl, rfl, rfl, hI, hP⟩ := hrel
            have HI := hide hI
            have HP := hide hP
            clear hI hP
            by_cases hqL : q < L bi
            · obtain ⟨b', o', eA, hl', t1, t2⟩ := (unhide HH).el bi q hlt hqL
              have hc2 := hc
              rw [eA] at hc2
              clear eA t2
              have HC := hide hc
              clear hc
              have i2 : (q : Int) < (L bi : Int) := by omega
              cases fb'
              · by_cases hp : T bi q ≤ p'
                · go_wp2
                  go_ret
                  exact ans false rfl (fun h => by cases h) rfl
                · obtain ⟨k1, k2⟩ := (unhide HI).step (unhide HP) (.inr (by omega))
                  have K1 := hide k1
                  have K2 := hide k2
                  clear k1 k2
                  go_wp2
                  go_round
                  case rel => exact ⟨q + 1, false, _, by omega, by go_num, rfl, rfl, unhide K1, unhide K2⟩
                  case measure => simp [intOf]; omega
              · obtain ⟨k1, k2⟩ := (unhide HI).step (unhide HP) (.inl rfl)
                have K1 := hide k1
                have K2 := hide k2
                clear k1 k2
                go_wp2
                go_round
                case rel => exact ⟨q + 1, false, _, by omega, by go_num, rfl, rfl, unhide K1, unhide K2⟩
                case measure => simp [intOf]; omega
            · have hqe : q = L bi := by omega
              subst hqe
              obtain ⟨k1, k2⟩ := (unhide HI).next (unhide HP) (by omega)
              have K1 := hide k1
              have K2 := hide k2
              clear k1 k2
              go_wp2
              go_round
              case rel => exact ⟨bi + 1, fb', p', by omega, by go_num, rfl, rfl, fun i hi => by rcases Nat.lt_succ_iff_lt_or_eq.1 hi with e | rfl; exact unhide Hpos i e; omega, unhide K1, unhide K2⟩
              case measure => simp [intOf]; omega
      · have hbe : bi = N := by omega
        subst hbe
        go_wp2
        go_ret
        exact ans true rfl (fun _ => ⟨by omega, unhide Hpos, unhide HI⟩) rfl
end Go.Proofs.Qxb6616487a.Vr
