import Derived.Test.Qxb6616487aHoldB
import Derived.Test.Qxb6616487aPtr
namespace Go.Proofs.Qxb6616487a.Hold
open Go.RowKit Go.Deep

theorem hide {p : Prop} (h : p) : Hid p := h
theorem unhide {p : Prop} (h : Hid p) : p := h

theorem info69 : (Try.prog.info? 69).isSome = true := by kernel_rfl
theorem neq27 (a : Addr) (w : World) : (binOp .neq 27 (.pointer (some a)) (.pointer (some a))).run Try.prog w = .ok (.bool false) w := by
  obtain ⟨j, hj⟩ := Option.isSome_iff_exists.1 info69
  exact run_neq_ptr_same w a Try.underlying27 hj

theorem P4.drewN {w wr : World} {n m k g cap : Nat} {M0 M1 X1 : Nat → Int} (h : P4 w wr n m k g cap M0 M1 X1) (q : Nat) : P4 w (wr.drewN q) n m k g cap M0 M1 X1 :=
  ⟨⟨h.bel.os, h.bel.tape, h.bel.output, h.bel.size, h.bel.block⟩, h.lo, h.olds, h.locks, h.news, h.done, h.todo, h.box, h.own, h.whr⟩

attribute [local go_sem ↓] Go.wp_at_zero Go.wp_at_succ

set_option maxHeartbeats 1000000 in
set_option maxRecDepth 100000 in
theorem walk (a0 a1 : Option Addr) (n0 c0 n1 c1 : Nat) (M0 X0 M1 X1 : Nat → Int) (w : World) (p0 : PairsAt w a0 n0 M0 X0) (p1 : PairsAt w a1 n1 M1 X1) (hs : n0 + n1 ≤ 1048576) (h0 : n0 ≤ 32768) (h1 : n1 ≤ 32768) :
    Calls Try.prog 3 #[.slice a0 n0 c0, .slice a1 n1 c1] w fun e w' => e = .returned (.bool true) ∧ Below w.heap.size w w' := by
  have hmk0 := run_make_row' (P := Try.prog) 26 27 (.pointer none) 8 Try.underlying26 info27 rfl .i64 .i64 n0 (by omega) (by omega)
  have hmk1 := run_make_row' (P := Try.prog) 26 27 (.pointer none) 8 Try.underlying26 info27 rfl .i64 .i64 n1 (by omega) (by omega)
  go_enter Try.func3, Try.ntmps3
  go_wp2_with (go_at_call 8; refine (bytesYes _ _ _ _ _ _ _ hs).mono ?_; rintro e w' ⟨rfl, hw⟩; have hw2 := hw.symm; subst hw2; clear hw)
  go_loop [5] (fun i => ∃ k : Nat, k ≤ n0 ∧ i = .int .i64 k ∧ ∀ j, j < k → X0 j = j) (fun i => n0 - (intOf i).toNat)
  case atStart => exact ⟨0, Nat.zero_le _, rfl, fun j hj => absurd hj (Nat.not_lt_zero j)⟩
  case round =>
    obtain ⟨k, hk, rfl, hx⟩ := hrel
    have Hx : Hid (∀ j, j < k → X0 j = j) := hx
    clear hx
    by_cases hlt : k < n0
    · obtain ⟨b, off, rfl, hb, g0, g1⟩ := p0 k hlt
      by_cases hxk : X0 k = k
      · rw [hxk] at g1
        go_wp2
        go_round
        case rel => exact ⟨k + 1, by omega, by go_num, fun j hj => by rcases Nat.lt_succ_iff_lt_or_eq.1 hj with h | rfl; exact Hx.out j h; exact hxk⟩
        case measure => simp [intOf]; omega
      · have hne : (X0 k != (k : Int)) = true := by simpa using hxk
        go_wp2
        go_ret
        exact ⟨rfl, Below.refl _ _⟩
    · have hkn : n0 = k := by omega
      subst hkn
      go_wp2
      clear hlt hk
      go_loopw [8] (fun i wr => ∃ k : Nat, k ≤ n0 ∧ i = .int .i64 k ∧ P2 w wr n0 k M0) (fun i _ => n0 - (intOf i).toNat)
      case atStart => exact ⟨0, Nat.zero_le _, rfl, P2.start _ _ _⟩
      case round =>
        obtain ⟨k, hk, rfl, hp⟩ := hrel
        by_cases hlt : k < n0
        · obtain ⟨b, off, rfl, hb, g0, g1⟩ := p0 k hlt
          rw [Hx.out k hlt] at g1
          have hsz := hp.size
          have c0 := (hp.bel.cell (p := ⟨b, off + k * 2, none⟩) hb).trans g0
          have c1 := (hp.bel.cell (p := ⟨b, off + k * 2 + 1, none⟩) hb).trans g1
          have c2 := hp.olds.cell hlt
          have c3 := hp.held.cell hlt
          have f2 := hp.olds.frozen k
          have f3 := hp.held.frozen k
          have l0 : w.heap.size < wr.heap.size := by omega
          have l1 : w.heap.size + 1 < wr.heap.size := by omega
          have l2 : b < wr.heap.size := by omega
          have i0 : (0 : Int) ≤ (k : Int) := by omega
          have i1 : (k : Int) < (n0 : Int) := by omega
          simp only [ptrs, Nat.lt_irrefl, if_false] at c2 c3
          clear hsz g0 g1
          go_wp2
          go_region_held3 (fun w' => w'.cell? ⟨b, off + k * 2, none⟩ = some (.int .u8 (M0 k)) ∧ w'.cell? ⟨b, off + k * 2 + 1, none⟩ = some (.int .i64 k)) (go_keep)
            ((go_at_call 9; refine (newLock _ _ _).mono ?_; rintro e w' ⟨rfl, hw⟩; subst hw))
          go_wp2
          go_roundw
          case rel => exact ⟨k + 1, by omega, by go_num, hp.step.drew⟩
          case measure => simp [intOf]; omega
        · have hkn : n0 = k := by omega
          subst hkn
          clear hlt hk
          have hsz := hp.size
          go_wp2
          clear hsz
          go_loopw [11] (fun i wr => ∃ k : Nat, k ≤ n1 ∧ i = .int .i64 k ∧ P3 w wr n0 n1 k M0 M1 X1) (fun i _ => n1 - (intOf i).toNat)
          case atStart => exact ⟨0, Nat.zero_le _, rfl, P3.start hp⟩
          case round =>
            obtain ⟨k, hk, rfl, hp⟩ := hrel
            by_cases hlt : k < n1
            · obtain ⟨b, off, rfl, hb, g0, g1⟩ := p1 k hlt
              have hsz := hp.size
              have c0 := (hp.bel.cell (p := ⟨b, off + k * 2, none⟩) hb).trans g0
              have c1 := (hp.bel.cell (p := ⟨b, off + k * 2 + 1, none⟩) hb).trans g1
              have c2 := hp.news.cell hlt
              have f2 := hp.news.frozen k
              have l0 : w.heap.size + 2 + n0 < wr.heap.size := by omega
              have l2 : b < wr.heap.size := by omega
              have l3 : b ≠ w.heap.size + 2 + n0 := by omega
              have l4 : w.heap.size + 2 + n0 ≠ b := by omega
              have i0 : (0 : Int) ≤ (k : Int) := by omega
              have i1 : (k : Int) < (n1 : Int) := by omega
              simp only [ptrs, Nat.lt_irrefl, if_false] at c2
              clear hsz g0 g1
              go_wp2
              go_region_held3 (fun w' => w'.cell? ⟨b, off + k * 2, none⟩ = some (.int .u8 (M1 k)) ∧ w'.cell? ⟨b, off + k * 2 + 1, none⟩ = some (.int .i64 (X1 k))) (go_keep)
                ((go_at_call 9; refine (newLock _ _ _).mono ?_; rintro e w' ⟨rfl, hw⟩; subst hw))
              go_wp2
              go_roundw
              case rel => exact ⟨k + 1, by omega, by go_num, hp.step.drew⟩
              case measure => simp [intOf]; omega
            · have hkn : n1 = k := by omega
              subst hkn
              clear hlt hk
              have hsz := hp.size
              go_wp2
              clear hsz
              go_loopw [13] (fun i wr => ∃ k g cap : Nat, k ≤ n1 ∧ i = .int .i64 k ∧ P4 w wr n0 n1 k g cap M0 M1 X1) (fun i _ => n1 - (intOf i).toNat)
              case atStart => exact ⟨0, _, _, Nat.zero_le _, rfl, P4.start hp (by omega)⟩
              case round =>
                obtain ⟨k, g, cap, hk, rfl, hp⟩ := hrel
                by_cases hlt : k < n1
                · have hwh := hp.whr
                  have hlo := hp.lo
                  have c2 := hp.news.cell hlt
                  have e1 : w.heap.size + 2 + n0 + 1 + n1 ≠ g := by omega
                  have e2 : w.heap.size + 2 + n0 + 1 + k ≠ g := by omega
                  have i0 : (0 : Int) ≤ (k : Int) := by omega
                  have i1 : (k : Int) < (n1 : Int) := by omega
                  have HP : Hid (P4 w wr n0 n1 k g cap M0 M1 X1) := hp
                  have hpush := push (w.heap.size + 2 + n0 + 1 + n1) (w.heap.size + 2 + n0 + 1 + k) g (n0 + k) cap (w.heap.size + 1) (M1 k) (X1 k) (all w.heap.size n0 k) wr hp.box (hp.todo k (Nat.le_refl _) hlt) hp.own (by omega) e1 e2 (by omega) (by omega)
                  have HPu := hide hpush
                  simp only [ptrs, hlt, if_true] at c2
                  clear hwh hlo hp hpush e1 e2
                  go_wp2_with (go_at_call 11; refine (unhide HPu).mono ?_; rintro e w' ⟨rfl, hw⟩)
                  rename_i hw
                  obtain ⟨g', cap', hpd⟩ := hw
                  go_roundw
                  case rel =>
                    repeat apply Exists.intro
                    exact ⟨⟨k + 1, g', cap', by omega, by go_num, HP.out.step hlt hpd⟩, rfl⟩
                  case measure => simp [intOf]; omega
                · have hkn : n1 = k := by omega
                  subst hkn
                  clear hlt hk
                  have cb := cell_of_one hp.box
                  have hne : ((n0 + n1 : Nat) : Int) = (n0 : Int) + n1 := by omega
                  go_wp2
                  clear hne
                  go_loopw [15] (fun i wx => ∃ k : Nat, k ≤ n0 ∧ i = .int .i64 k ∧ P4 w wx n0 n1 n1 g cap M0 M1 X1) (fun i _ => n0 - (intOf i).toNat)
                  case atStart => exact ⟨0, Nat.zero_le _, rfl, hp⟩
                  case round =>
                    clear cb hp
                    obtain ⟨k, hk, rfl, hp⟩ := hrel
                    by_cases hlt : k < n0
                    · obtain ⟨b, off, rfl, hb, g0, g1⟩ := p0 k hlt
                      have d0 := (hp.bel.cell (p := ⟨b, off + k * 2, none⟩) hb).trans g0
                      have d2 := hp.olds.cell hlt
                      have d3 := own_cell hp.own (i := k) (by omega) (all_old _ _ _ _ hlt)
                      have j0 : (0 : Int) ≤ (k : Int) := by omega
                      have j1 : (k : Int) < (n0 : Int) := by omega
                      have j2 : (k : Int) < (n0 : Int) + n1 := by omega
                      have hl := hp.locks k hlt
                      have HP : Hid (P4 w wr n0 n1 n1 g cap M0 M1 X1) := hp
                      have HL := hide hl
                      have hpn := neq27
                      have cb := cell_of_one hp.box
                      simp only [ptrs, hlt, if_true] at d2
                      clear hp hl g0 g1
                      go_wp2
                      go_quiet ((first | (go_at_call 12; refine Calls.quiet_of_same (lockIndex _ (M0 k) k _ ?_); exact unhide HL) | (go_at_call 13; refine Calls.quiet_of_same (lockMode _ (M0 k) k _ ?_); exact unhide HL)))
                      go_wp2
                      go_roundw
                      case rel => exact ⟨k + 1, by omega, by go_num, HP.out.drewN _⟩
                      case measure => simp [intOf]; omega
                    · have hkn : n0 = k := by omega
                      subst hkn
                      clear hlt hk
                      go_wp2
                      go_loopw [16, 17] (fun i _ wx => ∃ k : Nat, k ≤ n1 ∧ i = .int .i64 k ∧ P4 w wx n0 n1 n1 g cap M0 M1 X1) (fun i _ _ => n1 - (intOf i).toNat)
                      case atStart => exact ⟨0, Nat.zero_le _, rfl, hp⟩
                      case round =>
                        clear hp
                        obtain ⟨k, hk, rfl, hp⟩ := hrel
                        by_cases hlt : k < n1
                        · obtain ⟨b, off, rfl, hb, g0, g1⟩ := p1 k hlt
                          have d0 := (hp.bel.cell (p := ⟨b, off + k * 2, none⟩) hb).trans g0
                          have d2 := hp.news.cell hlt
                          have d3 := own_cell hp.own (i := n0 + k) (by omega) (all_new _ _ _ _ hlt)
                          have j0 : (0 : Int) ≤ (k : Int) := by omega
                          have j1 : (k : Int) < (n1 : Int) := by omega
                          have j2 : (n0 : Int) + k < (n0 : Int) + n1 := by omega
                          have j3 : ((n0 : Int) + k).toNat = n0 + k := by omega
                          have hl := hp.done k hlt
                          have HP : Hid (P4 w wr n0 n1 n1 g cap M0 M1 X1) := hp
                          have HL := hide hl
                          have hpn := neq27
                          have cb := cell_of_one hp.box
                          simp only [ptrs, hlt, if_true] at d2
                          clear hp hl g0 g1
                          go_wp2
                          go_quiet ((first | (go_at_call 12; refine Calls.quiet_of_same (lockIndex _ (M1 k) ((n0 + k : Nat) : Int) _ ?_); exact unhide HL) | (go_at_call 13; refine Calls.quiet_of_same (lockMode _ (M1 k) ((n0 + k : Nat) : Int) _ ?_); exact unhide HL)))
                          go_wp2
                          go_roundw
                          case rel => exact ⟨k + 1, by omega, by go_num, HP.out.drewN _⟩
                          case measure => simp [intOf]; omega
                        · go_wp2
                          go_ret
                          exact ⟨rfl, hp.bel⟩

set_option maxHeartbeats 1000000 in
set_option maxRecDepth 100000 in
theorem walkAll (a0 a1 : Option Addr) (n0 c0 n1 c1 : Nat) (M0 X0 M1 X1 : Nat → Int) (w : World) (p0 : PairsAt w a0 n0 M0 X0) (p1 : PairsAt w a1 n1 M1 X1) (m0 : n0 ≤ 9223372036854775807) (m1 : n1 ≤ 9223372036854775807) :
    Calls Try.prog 3 #[.slice a0 n0 c0, .slice a1 n1 c1] w fun e w' => e = .returned (.bool true) ∧ Below w.heap.size w w' := by
  by_cases hs : n0 + n1 ≤ 1048576
  · by_cases h0 : n0 ≤ 32768
    · by_cases h1 : n1 ≤ 32768
      · exact walk a0 a1 n0 c0 n1 c1 M0 X0 M1 X1 w p0 p1 hs h0 h1
      · clear p0 p1
        go_enter Try.func3, Try.ntmps3
        go_wp2_with (go_at_call 8; refine (bytesYes _ _ _ _ _ _ _ hs).mono ?_; rintro e w' ⟨rfl, rfl⟩)
        go_ret
        exact ⟨rfl, Below.refl _ _⟩
    · clear p0 p1
      go_enter Try.func3, Try.ntmps3
      go_wp2_with (go_at_call 8; refine (bytesYes _ _ _ _ _ _ _ hs).mono ?_; rintro e w' ⟨rfl, rfl⟩)
      go_ret
      exact ⟨rfl, Below.refl _ _⟩
  · clear p0 p1
    go_enter Try.func3, Try.ntmps3
    go_wp2_with (go_at_call 8; refine (bytesNo _ _ _ _ _ _ _ hs m0 m1).mono ?_; rintro e w' ⟨rfl, rfl⟩)
    go_ret
    exact ⟨rfl, Below.refl _ _⟩
end Go.Proofs.Qxb6616487a.Hold
