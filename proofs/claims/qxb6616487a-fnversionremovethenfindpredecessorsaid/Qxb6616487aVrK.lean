import Derived.Test.Qxb6616487aVrJ
namespace Go.Proofs.Qxb6616487a.Vr
open Go.RowKit Go.Deep
set_option linter.unusedVariables false

set_option maxHeartbeats 1000000 in
set_option maxRecDepth 100000 in
theorem walk (a : Option Addr) (N c : Nat) (ts : Int) (L : Nat → Nat) (A : Nat → Option Addr) (C : Nat → Nat) (T R : Nat → Nat → Int) (w : World) (H : Blks w a N L A C T R) (hN : N ≤ 9223372036854775807) (hL : ∀ i, i < N → L i ≤ 9223372036854775807)
    (hT : ∀ i k, i < N → k < L i → -9223372036854775808 ≤ T i k ∧ T i k ≤ 9223372036854775807) :
    Calls Try.prog 6 #[.slice a N c, .int .i64 ts] w fun e w' => e = .returned (.bool true) ∧ Below w.heap.size w w' := by
  have HH := hide H
  have HL := hide hL
  have HT := hide hT
  clear H hL hT
  go_enter Try.func6, Try.ntmps6
  go_wp2_with fail
  refine (bytes a N c ts L A C T R w (unhide HH) hN (unhide HL)).mono ?_
  rintro e w1 ⟨r1, rfl, _, hw⟩
  obtain rfl := hw.symm
  clear hw
  cases r1
  · go_wp2
    go_ret
    exact ⟨rfl, Below.refl _ _⟩
  go_wp2_with fail
  refine (fit a N c L A C T R _ (unhide HH) hN (unhide HL)).mono ?_
  rintro e w2 ⟨r2, rfl, hfit, hw⟩
  obtain rfl := hw.symm
  clear hw
  cases r2
  · clear hfit
    go_wp2
    go_ret
    exact ⟨rfl, Below.refl _ _⟩
  obtain ⟨n1, n2, n3⟩ := hfit rfl
  have N3 := hide n3
  clear hfit n3
  go_wp2_with fail
  refine (wellFormed a N c L A C T R _ (unhide HH) n1 (unhide N3)).mono ?_
  rintro e w3 ⟨r3, rfl, hwf, hw⟩
  obtain rfl := hw.symm
  clear hw
  cases r3
  · clear hwf
    go_wp2
    go_ret
    exact ⟨rfl, Below.refl _ _⟩
  obtain ⟨f1, f2, f3⟩ := hwf rfl
  have F2 := hide f2
  have F3 := hide f3
  clear hwf f2 f3
  go_wp2_with fail
  refine (flatIndexOf a N c ts L A C T R _ (unhide HH) n1 (unhide N3) n2).mono ?_
  rintro e w4 ⟨r, rfl, hr, hw⟩
  obtain rfl := hw.symm
  clear hw
  by_cases hr0 : r ≤ 0
  · clear hr
    go_wp2
    go_ret
    exact ⟨rfl, Below.refl _ _⟩
  obtain ⟨rb, ri, hrb, hri, htT, rfl⟩ : ∃ bi k : Nat, bi < N ∧ k < L bi ∧ T bi k = ts ∧ r = ((off L bi + k : Nat) : Int) := by
    rcases hr with h | h
    · exact absurd h hr0
    · exact h
  subst htT
  clear hr
  have hpos : 0 < rb ∨ 0 < ri := by
    rcases Nat.eq_zero_or_pos rb with e | e
    · subst e
      right
      simp [off] at hr0
      omega
    · exact .inl e
  go_wp2_with fail
  refine (placeOf a N c (T rb ri) L A C T R _ (unhide HH) n1 (unhide N3) ⟨rb, ri, hrb, hri, rfl⟩).mono ?_
  rintro e w5 ⟨rb', ri', rfl, hb', hi', hT', hw⟩
  obtain rfl := hw.symm
  clear hw
  obtain ⟨rfl, rfl⟩ : rb' = rb ∧ ri' = ri := ((unhide F3).inc (R := R) (X := fun _ _ => 0) (unhide F2) n1 (unhide N3)).uniq hb' hrb hi' hri hT'
  clear hT' hb' hi'
  go_wp2_with fail
  refine (build a N c L A C T R _ (unhide HH) n1 (unhide N3)).mono ?_
  rintro e wx ⟨V, W, X, rfl, B⟩
  have HB := hide B
  have hI := hide ((unhide F3).inc (R := R) (X := X) (unhide F2) n1 (unhide N3))
  clear B
  go_wp2_with fail
  refine (newList _ _ _ _).mono ?_
  rintro e w6 ⟨rfl, hw⟩
  subst hw
  go_wp2_with fail
  obtain ⟨ht1, ht2⟩ := unhide HT rb' ri' hrb hri
  refine (removeAfter _ _ rb' ri' ⟨N, L, T, R, X⟩ V _ (unhide HB).lst (unhide hI) hrb hri hpos ht1 (fun i k hi hk => (unhide HT i k hi hk).2)).mono ?_
  rintro e w7 ⟨rfl, D', V', C', ef, hA, hS⟩
  obtain ⟨hW, hbel⟩ := hA.wrs (unhide HB) hrb
  have HA := hide hA
  have HS := hide hS
  have HW := hide hW
  have d1 := hA.hd
  have d2 := hA.lt
  clear hA hS hW
  generalize wx.heap.size = lb at *
  go_wp2_with (go_at_call 31; refine (listBlocks _ _ _ _ _ d1).mono ?_; rintro e w' ⟨rfl, hw⟩; have hw2 := hw.symm; subst hw2; clear hw)
  refine (agrees _ _ _ rb' ri' a c ⟨N, L, T, R, X⟩ D' V' C' W A C ef w7 (unhide HA).rws (unhide HW) ((unhide HH).below hbel) (unhide HS).m hri hrb n1 (unhide N3) n2 (unhide HS).inc.nb).mono ?_
  rintro e w8 ⟨rfl, b8⟩
  have hbel8 := hbel.trans (b8.mono hbel.size)
  have d3 := (b8.cell (p := ⟨lb, 0, none⟩) d2).trans d1
  have d4 : lb < w8.heap.size := Nat.lt_of_lt_of_le d2 b8.size
  have R8 := hide ((unhide HA).rws.below b8)
  clear b8 d1 d2
  have hF := hide (zzFind lb _ N (T rb' ri') D' V' C' w8 d4 d3 (unhide R8) (unhide HS).inc (unhide HS).pos (unhide HS).t0 ht2 ht1 (unhide HS).tm _ _ (unhide HS).at_)
  have g1 := unhide N3 rb' hrb
  by_cases hz : ri' = 0
  · subst hz
    have hrb0 : 0 < rb' := by omega
    obtain ⟨b, o, rfl, hl, hc⟩ := ((unhide HH).below hbel8).row (rb' - 1) (by omega)
    have g2 := unhide N3 (rb' - 1) (by omega)
    have g3 := unhide F2 (rb' - 1) (by omega)
    have e1 : (rb' : Int) - 1 = ((rb' - 1 : Nat) : Int) := by omega
    have e2 : (L (rb' - 1) : Int) - 1 = ((L (rb' - 1) - 1 : Nat) : Int) := by omega
    have i1 : ((rb' - 1 : Nat) : Int) < (N : Int) := by omega
    simp only [pb, pi, if_true] at hF
    go_wp2_with fail
    refine (unhide hF).mono ?_
    rintro e w9 ⟨rfl, b9⟩
    have b10 := hbel8.trans (b9.mono hbel8.size)
    clear b9
    go_wp2
    go_ret
    exact ⟨rfl, b10⟩
  · have e0 : ((ri' : Int) == 0) = false := beq_eq_false_iff_ne.2 (by omega)
    have e1 : (ri' : Int) - 1 = ((ri' - 1 : Nat) : Int) := by omega
    simp only [pb, pi, if_neg hz] at hF
    go_wp2_with fail
    refine (unhide hF).mono ?_
    rintro e w9 ⟨rfl, b9⟩
    have b10 := hbel8.trans (b9.mono hbel8.size)
    clear b9
    go_wp2
    go_ret
    exact ⟨rfl, b10⟩
end Go.Proofs.Qxb6616487a.Vr
