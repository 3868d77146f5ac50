import Derived.Test.Qxb6616487aFrC
namespace Go.Proofs.Qxb6616487a.Fr
open Go.RowKit Go.Deep

/-- k is the place of the first read from wn -/
def Fst (f : Nat → Acc) (n : Nat) (wn : Int) (k : Nat) : Prop := k < n ∧ rd (f k) wn = true ∧ ∀ j, j < k → rd (f j) wn = false

set_option maxHeartbeats 400000 in
theorem indexFunc (g n cb wb : Nat) (wn : Int) (f : Nat → Acc) (w : World) (hq : QuadsAt w (some ⟨g, 0, none⟩) n f) (hc : w.cell? ⟨cb, 0, none⟩ = some (.pointer (some ⟨wb, 0, none⟩))) (hw : w.cell? ⟨wb, 0, none⟩ = some (.int .i64 wn)) (lc : cb < w.heap.size) (lw : wb < w.heap.size) (hn : n ≤ 10000000)
    (hex : ∃ i, i < n ∧ rd (f i) wn = true) :
    Calls Try.prog 52 #[.slice (some ⟨g, 0, none⟩) n n, .func (Fn.func 53) #[] #[.pointer (some ⟨cb, 0, none⟩)]] w fun e w' => ∃ k, Fst f n wn k ∧ e = .returned (.int .i64 k) ∧ Below w.heap.size w w' := by
  have HE := hide hex
  have HQ := hide hq
  clear hex hq
  go_enter Try.func52, Try.ntmps52
  go_wp2
  go_loopw [8] (fun i wx => ∃ k : Nat, k ≤ n ∧ i = .int .i64 k ∧ (∀ j, j < k → rd (f j) wn = false) ∧ Below w.heap.size w wx) (fun i _ => n - (intOf i).toNat)
  case atStart => exact ⟨0, Nat.zero_le _, rfl, fun j hj => absurd hj (Nat.not_lt_zero j), Below.refl _ _⟩
  case round =>
    obtain ⟨k, hk, rfl, hx, hb⟩ := hrel
    have Hx := hide hx
    clear hx
    by_cases hlt : k < n
    · obtain ⟨b, off, hbo, hl, hcc⟩ := ((unhide HQ).below hb) k hlt
      simp at hbo
      obtain ⟨rfl, rfl⟩ := hbo
      simp only [Nat.zero_add] at hcc
      obtain ⟨c0, c1, c2, c3⟩ := hcc
      have e1 := (hb.cell (p := ⟨cb, 0, none⟩) lc).trans hc
      have e2 := (hb.cell (p := ⟨wb, 0, none⟩) lw).trans hw
      have l1 : cb < wr.heap.size := Nat.lt_of_lt_of_le lc hb.size
      have l2 : wb < wr.heap.size := Nat.lt_of_lt_of_le lw hb.size
      cases hrd : rd (f k) wn
      · go_wp2_with (go_at_call 53; refine (closureX _ _ _ _ _ e1 e2 l1 l2).mono ?_; rintro e w' ⟨rfl, hw9⟩)
        go_roundw
        case rel =>
          exact ⟨k + 1, by omega, by go_num, fun j hj => by rcases Nat.lt_succ_iff_lt_or_eq.1 hj with h | rfl; exact unhide Hx j h; exact hrd, hb.trans (hw9.mono hb.size)⟩
        case measure => simp [intOf]; omega
      · go_wp2_with (go_at_call 53; refine (closureX _ _ _ _ _ e1 e2 l1 l2).mono ?_; rintro e w' ⟨rfl, hw9⟩)
        go_ret
        exact ⟨k, ⟨hlt, hrd, unhide Hx⟩, rfl, hb.trans (hw9.mono hb.size)⟩
    · obtain ⟨i, hi, hr⟩ := unhide HE
      have := unhide Hx i (by omega)
      rw [hr] at this
      cases this

set_option maxHeartbeats 400000 in
theorem firstRead (tb wb g n : Nat) (wn : Int) (f : Nat → Acc) (w : World) (ht : w.cell? ⟨tb, 4, none⟩ = some (.slice (some ⟨g, 0, none⟩) n n)) (hq : QuadsAt w (some ⟨g, 0, none⟩) n f) (hw : w.cell? ⟨wb, 0, none⟩ = some (.int .i64 wn)) (lt : tb < w.heap.size) (lw : wb < w.heap.size) (hn : n ≤ 10000000)
    (hex : ∃ i, i < n ∧ rd (f i) wn = true) :
    Calls Try.prog 38 #[.pointer (some ⟨tb, 0, none⟩), .pointer (some ⟨wb, 0, none⟩)] w fun e w' => ∃ k, Fst f n wn k ∧ e = .returned (.pointer (some ⟨g, k * 4, none⟩)) ∧ Below w.heap.size w w' := by
  have h0 : Below w.heap.size w (w.alloc (.cells #[.pointer (some ⟨wb, 0, none⟩)] 38)) := (Below.refl _ _).alloc (Nat.le_refl _) _
  have C := hide (indexFunc g n w.heap.size wb wn f (w.alloc (.cells #[.pointer (some ⟨wb, 0, none⟩)] 38)) (hq.below h0) (by simp) ((h0.cell (p := ⟨wb, 0, none⟩) lw).trans hw) (by simp) (by simp; omega) hn hex)
  clear hex hq hw
  go_enter Try.func38, Try.ntmps38
  go_wp2_with (go_at_call 45; go_in)
  refine (unhide C).mono ?_
  rintro e w' ⟨k, hk, rfl, hb⟩
  have hb2 : Below w.heap.size w w' := h0.trans (hb.mono (by simp))
  have c1 := (hb2.cell (p := ⟨tb, 4, none⟩) lt).trans ht
  have HK := hide hk
  have i0 : (0 : Int) ≤ (k : Int) := by omega
  have i1 : (k : Int) < (n : Int) := by have := hk.1; omega
  clear hk hb h0
  go_wp2
  go_ret
  exact ⟨k, unhide HK, by simp, hb2⟩

theorem info84some : (Try.prog.info? 84).isSome = true := by kernel_rfl
theorem info84size : ∃ j, Try.prog.info? 84 = some j ∧ j.size ≠ 0 := by
  obtain ⟨i0, hi, _, hz1, _⟩ := info_parts info84
  exact ⟨i0, hi, by omega⟩
theorem eql74 (b o o' : Nat) (w : World) : (binOp .eql 74 (.pointer (some ⟨b, o, none⟩)) (.pointer (some ⟨b, o', none⟩))).run Try.prog w = .ok (.bool (o == o')) w := by
  obtain ⟨j, hj, hs⟩ := info84size
  exact run_eql_ptr_block w b o o' Try.underlying74 hj hs

set_option maxHeartbeats 400000 in
theorem posOf (g n k : Nat) (w : World) (hk : k < n) (hn : n ≤ 10000000) :
    Calls Try.prog 36 #[.slice (some ⟨g, 0, none⟩) n n, .pointer (some ⟨g, k * 4, none⟩)] w fun e w' => e = .returned (.int .i64 k) ∧ w' = w := by
  have he := eql74
  go_enter Try.func36, Try.ntmps36
  go_wp2
  go_loop [5] (fun i => ∃ j : Nat, j ≤ k ∧ i = .int .i64 j) (fun i => n - (intOf i).toNat)
  case atStart => exact ⟨0, Nat.zero_le _, rfl⟩
  case round =>
    obtain ⟨j, hj, rfl⟩ := hrel
    have i1 : (j : Int) < (n : Int) := by omega
    by_cases e : j = k
    · subst e
      go_wp2
      go_ret
      exact ⟨rfl, rfl⟩
    · have e1 : (j == k) = false := by simp [e]
      have e2 : (j * 4 == k * 4) = false := beq_eq_false_iff_ne.2 (by omega)
      have Hj : j < k := by omega
      go_wp2
      go_round
      case rel => exact ⟨j + 1, by omega, by go_num⟩
      case measure => simp [intOf]; omega

set_option maxHeartbeats 400000 in
theorem foundAt (tb wb g n : Nat) (wn : Int) (f : Nat → Acc) (w : World) (ht : w.cell? ⟨tb, 4, none⟩ = some (.slice (some ⟨g, 0, none⟩) n n)) (hq : QuadsAt w (some ⟨g, 0, none⟩) n f) (hw : w.cell? ⟨wb, 0, none⟩ = some (.int .i64 wn)) (lt : tb < w.heap.size) (lw : wb < w.heap.size) (hn : n ≤ 10000000)
    (hex : ∃ i, i < n ∧ rd (f i) wn = true) :
    Calls Try.prog 18 #[.pointer (some ⟨tb, 0, none⟩), .pointer (some ⟨wb, 0, none⟩)] w fun e w' => ∃ k, Fst f n wn k ∧ e = .returned (.int .i64 k) ∧ Below w.heap.size w w' := by
  have C := hide (firstRead tb wb g n wn f w ht hq hw lt lw hn hex)
  clear hex hq hw
  go_enter Try.func18, Try.ntmps18
  go_wp2_with (go_at_call 37; refine (txnAccesses _ _ _ _ _ ht).mono ?_; rintro e w' ⟨rfl, hw⟩; have hw2 := hw.symm; subst hw2; clear hw)
  refine (unhide C).mono ?_
  rintro e w' ⟨k, hk, rfl, hb⟩
  have HK := hide hk
  have hk1 := hk.1
  clear hk ht
  go_wp2_with fail
  refine (posOf g n k _ hk1 hn).mono ?_
  rintro e w2 ⟨rfl, hw⟩
  subst hw
  go_wp2
  go_ret
  exact ⟨k, unhide HK, rfl, hb⟩
end Go.Proofs.Qxb6616487a.Fr
