import Derived.Test.Qxb6616086aFmtDwB
namespace Go.Proofs.Qxb6616086aFmt.Dw
open Go.RowKit Go.Deep Go.Extern.Stop Go.Stop Go.Extern
set_option linter.unusedVariables false

/-- what binary.Uvarint hands back -/
def Uans (p : Nat) (r : Option (Int × Nat)) (e : Ending) : Prop :=
  match r with
  | none => ∃ m : Int, m ≤ 0 ∧ e = .returned (.tuple #[.int .u64 0, .int .i64 m])
  | some (x, q) => e = .returned (.tuple #[.int .u64 x, .int .i64 ((q - p : Nat) : Int)])

theorem Uans.fails {p : Nat} {r : Option (Int × Nat)} (hr : r = none) {m : Int} (hm : m ≤ 0) : Uans p r (.returned (.tuple #[.int .u64 0, .int .i64 m])) := by
  subst hr
  exact ⟨m, hm, rfl⟩
theorem Uans.hits {p : Nat} {r : Option (Int × Nat)} {x : Int} {q : Nat} (hr : r = some (x, q)) {m : Int} (hm : m = ((q - p : Nat) : Int)) : Uans p r (.returned (.tuple #[.int .u64 x, .int .i64 m])) := by
  subst hr
  subst hm
  exact rfl

set_option maxHeartbeats 1000000 in
set_option maxRecDepth 100000 in
theorem binUvarint (ad : Option Addr) (n c : Nat) (p : Nat) (B : Nat → Int) (w : World) (hp : p ≤ n) (hn : n ≤ 65536) (hB : Bts w ad (n - p) (fun i => B (p + i))) :
    Calls Tryf.prog 29 #[.slice ad (n - p) c] w fun e w' => Uans p (uv B n p) e ∧ w' = w := by
  go_enter Tryf.func29, Tryf.ntmps29
  go_wp2_with fail
  go_loop [4, 5, 10] (fun x s i => ∃ k : Nat, k ≤ 10 ∧ k ≤ n - p ∧ i = .int .i64 k ∧ s = .int .u64 (7 * k : Nat) ∧ x = .int .u64 (acc B p k) ∧ uv B n p = uvGo B n p (10 - k) k) (fun x s i => 10 - (intOf i).toNat)
  case atStart => exact ⟨0, by omega, by omega, rfl, rfl, rfl, rfl⟩
  case round =>
    obtain ⟨k, hk, hkL, rfl, rfl, rfl, hu⟩ := hrel
    by_cases hpn : k < n - p
    · obtain ⟨b, off, rfl, hc⟩ := hB k hpn
      have i1 : (k : Int) < ((n - p : Nat) : Int) := by omega
      have i2 : (0 : Int) ≤ (k : Int) := by omega
      have HB := hide hB
      clear hB
      by_cases h10 : k < 10
      · have e10 : ((k : Int) == 10) = false := beq_eq_false_iff_ne.2 (by omega)
        have hf : uvGo B n p (10 - k) k = if p + k < n then (if B (p + k) < 128 then (if k = 9 ∧ 1 < B (p + k) then none else some (lastV (acc B p k) (B (p + k)) k, p + k + 1)) else uvGo B n p (10 - (k + 1)) (k + 1)) else none := by
          rw [show 10 - k = (10 - (k + 1)) + 1 by omega]; rfl
        rw [hf, if_pos (by omega)] at hu
        clear hf
        by_cases hlt : B (p + k) < 128
        · rw [if_pos hlt] at hu
          by_cases h9 : k = 9
          · have e9 : ((k : Int) == 9) = true := beq_iff_eq.2 (by omega)
            by_cases h1 : 1 < B (p + k)
            · rw [if_pos ⟨h9, h1⟩] at hu
              have HU := hide hu
              clear hu h9
              go_wp2
              go_ret2
              exact ⟨Uans.fails (unhide HU) (by omega), rfl⟩
            · rw [if_neg (by omega)] at hu
              have HU := hide hu
              clear hu h9
              go_wp2
              go_ret2
              exact ⟨Uans.hits (unhide HU) (by omega), rfl⟩
          · rw [if_neg (by omega)] at hu
            have HU := hide hu
            clear hu
            have e9 : ((k : Int) == 9) = false := beq_eq_false_iff_ne.2 (by omega)
            go_wp2
            go_ret2
            exact ⟨Uans.hits (unhide HU) (by omega), rfl⟩
        · rw [if_neg hlt] at hu
          have HU := hide hu
          clear hu
          go_wp2
          go_round
          case rel => exact ⟨k + 1, by omega, by omega, by go_num, by go_num, rfl, unhide HU⟩
          case measure => simp [intOf]; omega
      · have e10 : ((k : Int) == 10) = true := beq_iff_eq.2 (by omega)
        have hke : k = 10 := by omega
        have hu' : uv B n p = none := by rw [hu, hke]; rfl
        have HU := hide hu'
        clear hu hu' hke
        go_wp2
        go_ret2
        exact ⟨Uans.fails (unhide HU) (by omega), rfl⟩
    · have i1 : ¬ (k : Int) < ((n - p : Nat) : Int) := by omega
      have hu' : uv B n p = none := by
        rw [hu]
        by_cases h10 : k < 10
        · rw [show 10 - k = (10 - (k + 1)) + 1 by omega]
          unfold uvGo
          rw [if_neg (by omega)]
        · rw [show 10 - k = 0 by omega]
          rfl
      have HU := hide hu'
      clear hu hu'
      go_wp2
      go_ret2
      exact ⟨Uans.fails (unhide HU) (by omega), rfl⟩

/-- a field: a length, then that many bytes -/
def fld (B : Nat → Int) (n p : Nat) : Option (Nat × Nat) :=
  match uv B n p with
  | none => none
  | some (x, q) => if x ≤ ((n - q : Nat) : Int) then some (q, q + x.toNat) else none

def fldTup (p : Nat) : Option (Nat × Nat) → Value
  | none => .tuple #[.int .i64 p, .int .i64 p, .bool false]
  | some (s, e) => .tuple #[.int .i64 s, .int .i64 e, .bool true]

theorem fld_some {B : Nat → Int} {n p s e : Nat} (h : fld B n p = some (s, e)) : p < s ∧ s ≤ e ∧ e ≤ n := by
  unfold fld at h
  split at h
  · cases h
  · rename_i x q hu
    obtain ⟨h0, _, h2, h3⟩ := uv_some hu
    split at h
    · simp only [Option.some.injEq, Prod.mk.injEq] at h
      omega
    · cases h

set_option maxHeartbeats 1000000 in
theorem zzField (ad : Option Addr) (n c : Nat) (p : Nat) (B : Nat → Int) (w : World) (hp : p ≤ n) (hn : n ≤ 65536) (hB : Bts w ad n B) :
    Calls Tryf.prog 13 #[.slice ad n c, .int .i64 p] w fun e w' => e = .returned (fldTup p (fld B n p)) ∧ w' = w := by
  have C := zzUvarint ad n c p B w hp hn hB
  unfold fld
  cases hu : uv B n p with
  | none =>
    rw [hu] at C
    simp only [uvTup] at C
    have HC := hide C
    clear C hB
    go_enter Tryf.func13, Tryf.ntmps13
    go_wp2_with (go_at_call 15; refine (unhide HC).mono ?_; rintro e w' ⟨rfl, hw⟩; subst hw)
    go_ret3
    exact ⟨rfl, rfl⟩
  | some xq =>
    obtain ⟨x, q⟩ := xq
    rw [hu] at C
    simp only [uvTup] at C
    obtain ⟨h0, h1, h2, h3⟩ := uv_some hu
    have HC := hide C
    have e1 : IntKind.u64.wrap ((n : Int) - (q : Int)) = ((n - q : Nat) : Int) := by rw [IntKind.wrap_u64]; omega
    clear C hB hu
    by_cases hx : x ≤ ((n - q : Nat) : Int)
    · have hx' : ¬ ((n - q : Nat) : Int) < x := by omega
      have e2 : IntKind.i64.wrap x = x := by rw [IntKind.wrap_i64]; omega
      simp only [hx, if_true]
      go_enter Tryf.func13, Tryf.ntmps13
      go_wp2_with (go_at_call 15; refine (unhide HC).mono ?_; rintro e w' ⟨rfl, hw⟩; subst hw)
      go_ret3
      refine ⟨?_, rfl⟩
      show Ending.returned (.tuple #[.int .i64 q, .int .i64 ((q : Int) + x), .bool true]) = .returned (.tuple #[.int .i64 q, .int .i64 ((q + x.toNat : Nat) : Int), .bool true])
      rw [show ((q : Int) + x) = ((q + x.toNat : Nat) : Int) by omega]
    · have hx' : ((n - q : Nat) : Int) < x := by omega
      simp only [hx, if_false]
      go_enter Tryf.func13, Tryf.ntmps13
      go_wp2_with (go_at_call 15; refine (unhide HC).mono ?_; rintro e w' ⟨rfl, hw⟩; subst hw)
      go_ret3
      exact ⟨rfl, rfl⟩
end Go.Proofs.Qxb6616086aFmt.Dw
