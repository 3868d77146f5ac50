import Derived.Test.Qxb6616086aFmtDwQ
namespace Go.Proofs.Qxb6616086aFmt.Dw
open Go.RowKit Go.Deep Go.Extern.Stop Go.Stop Go.Extern Go.Maps Go.WideShapes Go.ChangeMaps
set_option linter.unusedVariables false

/-- how a field came out -/
def FX (B : Nat → Int) (n p : Nat) (bad : Bool) (p' : Nat) (bad' : Bool) (x : ByteArray) : Prop :=
  (bad = true ∧ bad' = true) ∨ (bad = false ∧ bad' = true ∧ fld B n p = none ∧ x = ByteArray.empty) ∨ (bad = false ∧ bad' = false ∧ ∃ s, fld B n p = some (s, p') ∧ x = nm B s p')
/-- what 'field' leaves, whatever came before -/
structure FP (w w' : World) (rb pb n : Nat) (B : Nat → Int) (p : Nat) (bad : Bool) (v : Value) (x : ByteArray) (p' : Nat) (bad' : Bool) : Prop where
  cv : (convert 22 9 v).run Tryf.prog w' = .ok (.string x) w'
  sub : ∃ s e, Sub pb s e v ∧ e ≤ n
  rs : RS w' rb pb n p' bad'
  sz : x.size ≤ 65536
  gr : w.grownBy w' (some rb)
  fx : FX B n p bad p' bad' x

theorem fieldX (F : Interp) {rb pb n p : Nat} {bad : Bool} {B : Nat → Int} {w : World} (hF : F.answers w.tape) (S : RS w rb pb n p bad) (hP : PB w pb n B) (hn : n ≤ 65536) (hne : pb ≠ rb) :
    Calls Tryf.prog 20 #[.pointer (some ⟨rb, 0, none⟩)] w fun r w' => ∃ a l c x p' bad', r = .returned (.slice a l c) ∧ FP w w' rb pb n B p bad (.slice a l c) x p' bad' := by
  have nilsub : ∃ s e, Sub pb s e (.slice none 0 0) ∧ e ≤ n := ⟨0, 0, ⟨Nat.le_refl _, none, 0, rfl, fun h => absurd h (Nat.lt_irrefl _)⟩, Nat.zero_le _⟩
  cases bad with
  | true =>
    refine (rsFieldErr S hP hn).mono ?_
    rintro r w' ⟨rfl, ⟨p', R⟩, g⟩
    exact ⟨none, 0, 0, ByteArray.empty, p', true, rfl, conv_nil w', nilsub, R, by simp, g, .inl ⟨rfl, rfl⟩⟩
  | false =>
    cases hf : fld B n p with
    | none =>
      refine (rsFieldBad F hF S hP hn hf).mono ?_
      rintro r w' ⟨rfl, ⟨p', R⟩, g⟩
      exact ⟨none, 0, 0, ByteArray.empty, p', true, rfl, conv_nil w', nilsub, R, by simp, g, .inr (.inl ⟨rfl, rfl, hf, rfl⟩)⟩
    | some se =>
      obtain ⟨s, e⟩ := se
      obtain ⟨h1, h2, h3⟩ := fld_some hf
      refine (rsField S hP hn hf).mono ?_
      rintro r w' ⟨⟨v, rfl, hv⟩, R, g⟩
      have hcv := conv (hP.grown g hne) h3 hv
      have hv' := hv
      obtain ⟨_, ad, c, rfl, _⟩ := hv'
      exact ⟨ad, e - s, c, nm B s e, e, false, rfl, hcv, ⟨s, e, hv, h3⟩, R, by rw [nm_size]; omega, g, .inr (.inr ⟨rfl, rfl, s, hf, rfl⟩)⟩

/-- how a number came out -/
def UX (B : Nat → Int) (n p : Nat) (bad : Bool) (c : Int) (p' : Nat) (bad' : Bool) : Prop :=
  (bad = true ∧ bad' = true ∧ c = 0) ∨ (bad = false ∧ bad' = true ∧ uv B n p = none ∧ c = 0) ∨ (bad = false ∧ bad' = false ∧ uv B n p = some (c, p'))
theorem uvX {rb pb n p : Nat} {bad : Bool} {B : Nat → Int} {w : World} (S : RS w rb pb n p bad) (hP : PB w pb n B) (hn : n ≤ 65536) :
    Calls Tryf.prog 21 #[.pointer (some ⟨rb, 0, none⟩)] w fun r w' => ∃ c p' bad', r = .returned (.int .u64 c) ∧ RS w' rb pb n p' bad' ∧ UX B n p bad c p' bad' ∧ w.grownBy w' (some rb) := by
  cases bad with
  | true =>
    refine (rsUvErr S hP hn).mono ?_
    rintro r w' ⟨rfl, R, g⟩
    exact ⟨0, p, true, rfl, R, .inl ⟨rfl, rfl, rfl⟩, g⟩
  | false =>
    cases hu : uv B n p with
    | none =>
      refine (rsUvBad S hP hn hu).mono ?_
      rintro r w' ⟨rfl, R, g⟩
      exact ⟨0, p, true, rfl, R, .inr (.inl ⟨rfl, rfl, hu, rfl⟩), g⟩
    | some cq =>
      obtain ⟨c, q⟩ := cq
      refine (rsUv S hP hn hu).mono ?_
      rintro r w' ⟨rfl, R, g⟩
      exact ⟨c, q, false, rfl, R, .inr (.inr ⟨rfl, rfl, hu⟩), g⟩

/-- how a kind came out, no error being set -/
def KX (B : Nat → Int) (n p : Nat) (k : Int) (p' : Nat) (bad' : Bool) : Prop := (p < n ∧ k = B p ∧ p' = p + 1 ∧ bad' = false) ∨ (p = n ∧ k = 0 ∧ bad' = true)
theorem kindX {rb pb n p : Nat} {B : Nat → Int} {w : World} (S : RS w rb pb n p false) (hP : PB w pb n B) :
    Calls Tryf.prog 22 #[.pointer (some ⟨rb, 0, none⟩)] w fun r w' => ∃ k p' bad', r = .returned (.int .u8 k) ∧ RS w' rb pb n p' bad' ∧ KX B n p k p' bad' ∧ w.grownBy w' (some rb) := by
  by_cases h : p < n
  · refine (rsKind S hP h).mono ?_
    rintro r w' ⟨rfl, R, g⟩
    exact ⟨_, _, _, rfl, R, .inl ⟨h, rfl, rfl, rfl⟩, g⟩
  · have hpn : p = n := by have := S.le; omega
    subst hpn
    refine (rsKindEnd S).mono ?_
    rintro r w' ⟨rfl, R, g⟩
    exact ⟨_, _, _, rfl, R, .inr ⟨rfl, rfl, rfl⟩, g⟩

/-- 'fail', whatever came before -/
theorem failX {rb pb n p : Nat} {bad : Bool} {w : World} (S : RS w rb pb n p bad) (t : TypeId) (y : Value) :
    Calls Tryf.prog 24 #[.pointer (some ⟨rb, 0, none⟩), .iface t y] w fun r w' => r = .returned (.tuple #[]) ∧ RS w' rb pb n p true ∧ w.grownBy w' (some rb) := by
  obtain ⟨v, er, R, a, b⟩ := S
  cases bad with
  | true =>
    obtain ⟨t', y', rfl⟩ := b
    refine (failAgain rb _ t' y' w R.c1).mono ?_
    rintro r w' ⟨rfl, rfl⟩
    exact ⟨rfl, ⟨v, _, R, a, t', y', rfl⟩, grefl _ _⟩
  | false =>
    cases b
    refine (fail1 rb v t y w R).mono ?_
    rintro r w' ⟨rfl, R', g⟩
    exact ⟨rfl, ⟨v, _, R', a, t, y, rfl⟩, g⟩

/-- the rest of the record, behind the inner loop -/
noncomputable def rest2 (B : Nat → Int) (n : Nat) (L : List ByteArray) : Option Nat → List ByteArray
  | none => L
  | some q => outer B n q L

section
variable {B : Nat → Int} {n : Nat} {cn : Int} {p : Nat} {k : Int} {p4 : Nat} {bad4 : Bool} {p5 : Nat} {bad5 : Bool} {p6 : Nat} {bad6 : Bool} {x x6 : ByteArray} {L O : List ByteArray}
theorem eqTwo (hO : O = rest2 B n L (inner B n cn p)) (hc : 0 < cn) (K : KX B n p k p4 bad4) (X : FX B n p4 bad4 p5 bad5 x) (h3 : k ≠ 3) (h : k = 2) :
    (O = if bad5 then L else rest2 B n L (inner B n (cn - 1) p5)) ∧ (bad5 = false → p + 1 < p5) ∧ p < n := by
  rcases K with ⟨a1, a2, a3, a4⟩ | ⟨_, a2, _⟩
  · subst a3; subst a4
    refine ⟨?_, ?_, a1⟩
    · rcases X with ⟨b, _⟩ | ⟨_, b, hf, _⟩ | ⟨_, b, s, hf, _⟩
      · cases b
      · subst b
        rw [hO, inner_short (by omega) (by omega) (a2 ▸ h3) hf]
        rfl
      · subst b
        rw [hO, inner_key (by omega) (by omega) (a2 ▸ h3) hf, if_pos (a2 ▸ h)]
        rfl
    · intro hb
      rcases X with ⟨b, _⟩ | ⟨_, b, hf, _⟩ | ⟨_, b, s, hf, _⟩
      · cases b
      · rw [hb] at b; cases b
      · have := fld_some hf; omega
  · omega
theorem eqOne (hO : O = rest2 B n L (inner B n cn p)) (hc : 0 < cn) (K : KX B n p k p4 bad4) (X : FX B n p4 bad4 p5 bad5 x) (X6 : FX B n p5 bad5 p6 bad6 x6) (h3 : k ≠ 3) (h : k = 1) :
    (O = if bad6 then L else rest2 B n L (inner B n (cn - 1) p6)) ∧ (bad6 = false → p + 1 < p6) ∧ p < n := by
  rcases K with ⟨a1, a2, a3, a4⟩ | ⟨_, a2, _⟩
  · subst a3; subst a4
    refine ⟨?_, ?_, a1⟩
    · rcases X with ⟨b, _⟩ | ⟨_, b, hf, _⟩ | ⟨_, b, s, hf, _⟩
      · cases b
      · subst b
        rcases X6 with ⟨_, d⟩ | ⟨d, _⟩ | ⟨d, _⟩
        · subst d
          rw [hO, inner_short (by omega) (by omega) (a2 ▸ h3) hf]
          rfl
        · cases d
        · cases d
      · subst b
        have hk := inner_key (cnt := cn) (by omega) (by omega) (a2 ▸ h3) hf
        rw [if_neg (by omega), if_pos (a2 ▸ h)] at hk
        rcases X6 with ⟨d, _⟩ | ⟨_, d, hv, _⟩ | ⟨_, d, s6, hv, _⟩
        · cases d
        · subst d
          rw [hv] at hk
          rw [hO, hk]
          rfl
        · subst d
          rw [hv] at hk
          rw [hO, hk]
          rfl
    · intro hb
      rcases X with ⟨b, _⟩ | ⟨_, b, hf, _⟩ | ⟨_, b, s, hf, _⟩
      · cases b
      · rcases X6 with ⟨_, d⟩ | ⟨d, _⟩ | ⟨d, _⟩
        · rw [hb] at d; cases d
        · rw [b] at d; cases d
        · rw [b] at d; cases d
      · rcases X6 with ⟨d, _⟩ | ⟨_, d, hv, _⟩ | ⟨_, d, s6, hv, _⟩
        · rw [b] at d; cases d
        · rw [hb] at d; cases d
        · have := fld_some hf; have := fld_some hv; omega
  · omega
theorem eqElse (hO : O = rest2 B n L (inner B n cn p)) (hc : 0 < cn) (K : KX B n p k p4 bad4) (X : FX B n p4 bad4 p5 bad5 x) (h3 : k ≠ 3) (h2 : k ≠ 2) (h1 : k ≠ 1) : O = L := by
  rcases K with ⟨a1, a2, a3, a4⟩ | ⟨a1, a2, a4⟩
  · subst a3; subst a4
    rcases X with ⟨b, _⟩ | ⟨_, b, hf, _⟩ | ⟨_, b, s, hf, _⟩
    · cases b
    · rw [hO, inner_short (by omega) (by omega) (a2 ▸ h3) hf]; rfl
    · rw [hO, inner_key (by omega) (by omega) (a2 ▸ h3) hf, if_neg (a2 ▸ h2), if_neg (a2 ▸ h1)]; rfl
  · rw [hO, inner_end (by omega) (by omega)]; rfl
end

structure DO (w wr : World) (B : Nat → Int) (pb n : Nat) (L : List ByteArray) (p : Nat) (bad : Bool) : Prop where
  bel : Below w.heap.size w wr
  rs : RS wr (w.heap.size + 1 + 1) pb n p bad
  ws : ∃ v ix M, WS wr w.heap.size (w.heap.size + 1) v ix L M ∧ M ≤ n ∧ (bad = false → M ≤ p)
  res : wr.heap[w.heap.size]? = some (.cells #[.slice none 0 0, .map none] 31 (0, 0))
  ln : L.length ≤ n ∧ (bad = false → L.length ≤ p)
  eq : outer B n 0 [] = if bad then L else outer B n p L

structure DI (w wr : World) (B : Nat → Int) (pb n : Nat) (L : List ByteArray) (g cap t : Nat) (c : Int) (p : Nat) (bad : Bool) : Prop where
  bel : Below w.heap.size w wr
  rs : RS wr (w.heap.size + 1 + 1) pb n p bad
  ws : ∃ ix M, WS wr w.heap.size (w.heap.size + 1) (.slice (some ⟨g, 0, none⟩) L.length cap) ix L M ∧ M ≤ n ∧ (bad = false → M ≤ p)
  res : wr.heap[w.heap.size]? = some (.cells #[.slice none 0 0, .map none] 31 (0, 0))
  ln : L.length ≤ n ∧ (bad = false → L.length ≤ p)
  tl : t < L.length
  c0 : 0 ≤ c
  c1 : c < 18446744073709551616
  eq : outer B n 0 [] = if bad then L else rest2 B n L (inner B n c p)

/-- from a name to the inner loop -/
theorem DO.enter {w wr w1 w2 w3 : World} {B : Nat → Int} {pb n : Nat} {L : List ByteArray} {p : Nat} {v : Value} {x : ByteArray} {p1 : Nat} {bad1 : Bool} {M : Nat} {r : Ending} {c : Int} {p3 : Nat} {bad3 : Bool}
    (O : DO w wr B pb n L p false) (hp : p < n) (hn : n ≤ 65536) (X : FP wr w1 (w.heap.size + 1 + 1) pb n B p false v x p1 bad1) (hM : M ≤ p) (T : TB w1 w2 w.heap.size (w.heap.size + 1) L M x r)
    (R3 : RS w3 (w.heap.size + 1 + 1) pb n p3 bad3) (U : UX B n p1 bad1 c p3 bad3) (g3 : w2.grownBy w3 (some (w.heap.size + 1 + 1))) :
    ∃ g cap t, r = .returned (.pointer (some ⟨g, t * 4, none⟩)) ∧ DI w w3 B pb n (addN L x) g cap t c p3 bad3 ∧ (bad3 = false → p < p3) := by
  obtain ⟨ix', g, cap, t, rfl, S2, ht, Mv2⟩ := T
  have B1 : Below w.heap.size w w1 := O.bel.trans (gto X.gr (by omega) O.bel.size)
  have B2 : Below w.heap.size w w2 := B1.trans Mv2.below
  have ro : ∃ c, w2.heap[w.heap.size + 1 + 1]? = some (.cells c 63 (0, 0)) := by
    obtain ⟨c, hc⟩ := X.rs.obj
    exact ⟨c, (Mv2.keep _ c 63 hc (by decide) (by omega)).trans hc⟩
  have lnx := addN_len L x
  have lp := O.ln.2 rfl
  have res1 : w1.heap[w.heap.size]? = some (.cells #[.slice none 0 0, .map none] 31 (0, 0)) := (X.gr.block _ (Array.getElem?_eq_some_iff.1 O.res).1 (fun e => by have := Option.some.inj e; omega)).trans O.res
  have res2 := (Mv2.keep _ _ 31 res1 (by decide) (by omega)).trans res1
  have res3 := (g3.block _ (Array.getElem?_eq_some_iff.1 res2).1 (fun e => by have := Option.some.inj e; omega)).trans res2
  have oe := O.eq
  simp only [Bool.false_eq_true, if_false] at oe
  have hq : bad3 = false → p < p3 := by
    intro hb
    rcases U with ⟨_, h2, _⟩ | ⟨_, h2, _⟩ | ⟨h1, _, h3⟩
    · rw [hb] at h2; cases h2
    · rw [hb] at h2; cases h2
    · obtain ⟨_, _, u3, _⟩ := uv_some h3
      rcases X.fx with ⟨h, _⟩ | ⟨_, h, _⟩ | ⟨_, _, s, hf, _⟩
      · cases h
      · rw [h1] at h; cases h
      · have := fld_some hf; omega
  have hc : 0 ≤ c ∧ c < 18446744073709551616 := by
    rcases U with ⟨_, _, h⟩ | ⟨_, _, _, h⟩ | ⟨_, _, h⟩
    · omega
    · omega
    · have := uv_some h; omega
  refine ⟨g, cap, t, rfl, ?_, hq⟩
  refine ⟨B2.trans (gto g3 (by omega) B2.size), R3, ⟨ix', M, S2.reader g3 ro, by omega, fun hb => by have := hq hb; omega⟩, res3, ⟨by omega, fun hb => by have := hq hb; omega⟩, ht, hc.1, hc.2, ?_⟩
  rcases X.fx with ⟨h, _⟩ | ⟨_, h, hf, hx⟩ | ⟨_, h, s, hf, hx⟩
  · cases h
  · subst h
    rcases U with ⟨_, h2, _⟩ | ⟨h1, _⟩ | ⟨h1, _⟩
    · subst h2
      rw [if_pos rfl, oe, outer_short (by omega) hf, hx]
    · cases h1
    · cases h1
  · subst h
    rcases U with ⟨h1, _⟩ | ⟨_, h2, hu, _⟩ | ⟨_, h2, hu⟩
    · cases h1
    · subst h2
      rw [if_pos rfl, oe, outer_name (by omega) hf, hu, hx]
    · subst h2
      rw [oe, outer_name (by omega) hf, hu, hx]
      simp only [Bool.false_eq_true, if_false]
      cases inner B n c p3 <;> rfl
end Go.Proofs.Qxb6616086aFmt.Dw
