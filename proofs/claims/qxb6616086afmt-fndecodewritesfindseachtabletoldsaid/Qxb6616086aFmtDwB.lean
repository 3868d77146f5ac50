import Derived.Test.Qxb6616086aFmtDwA
import Derived.OpenShut
namespace Go.Proofs.Qxb6616086aFmt.Dw
open Go.RowKit Go.Deep Go.Extern.Stop Go.Stop Go.Extern
set_option linter.unusedVariables false

def lastV (X c : Int) (k : Nat) : Int := bits BinOp.or IntKind.u64 X (IntKind.u64.wrap (IntKind.u64.wrap c * 2 ^ (7 * k)))
def nextV (X c : Int) (k : Nat) : Int := bits BinOp.or IntKind.u64 X (IntKind.u64.wrap (IntKind.u64.wrap (bits BinOp.and IntKind.u8 c 127) * 2 ^ (7 * k)))
def acc (B : Nat → Int) (p : Nat) : Nat → Int
  | 0 => 0
  | k + 1 => nextV (acc B p k) (B (p + k)) k
def uvGo (B : Nat → Int) (n p : Nat) : Nat → Nat → Option (Int × Nat)
  | 0, _ => none
  | f + 1, k => if p + k < n then (if B (p + k) < 128 then (if k = 9 ∧ 1 < B (p + k) then none else some (lastV (acc B p k) (B (p + k)) k, p + k + 1)) else uvGo B n p f (k + 1)) else none
/-- a number in groups of seven bits at p: its value, and the position behind it -/
def uv (B : Nat → Int) (n p : Nat) : Option (Int × Nat) := uvGo B n p 10 0

def uvTup (p : Nat) : Option (Int × Nat) → Value
  | none => .tuple #[.int .u64 0, .int .i64 p, .bool false]
  | some (x, q) => .tuple #[.int .u64 x, .int .i64 q, .bool true]

theorem u64_bounds {x : Int} (h : (Lit.int .u64 x).wf = true) : 0 ≤ x ∧ x < 18446744073709551616 := by
  have h2 : decide ((0 : Int) ≤ x) = true ∧ decide (x ≤ (18446744073709551615 : Int)) = true := by
    have := h
    simp only [Lit.wf, Bool.and_eq_true] at this
    exact this
  have := of_decide_eq_true h2.1
  have := of_decide_eq_true h2.2
  omega
theorem lastV_in (X c : Int) (k : Nat) : 0 ≤ lastV X c k ∧ lastV X c k < 18446744073709551616 := u64_bounds (wf_bits _ _ _ _)
theorem uvGo_some {B : Nat → Int} {n p : Nat} : ∀ {f k x q}, uvGo B n p f k = some (x, q) → 0 ≤ x ∧ x < 18446744073709551616 ∧ p + k < q ∧ q ≤ n
  | 0, k, x, q, h => by cases h
  | f + 1, k, x, q, h => by
    unfold uvGo at h
    split at h
    · split at h
      · split at h
        · cases h
        · simp only [Option.some.injEq, Prod.mk.injEq] at h
          obtain ⟨rfl, rfl⟩ := h
          have := lastV_in (acc B p k) (B (p + k)) k
          exact ⟨this.1, this.2, by omega, by omega⟩
      · obtain ⟨h1, h2, h3, h4⟩ := uvGo_some h
        exact ⟨h1, h2, by omega, h4⟩
    · cases h
theorem uv_some {B : Nat → Int} {n p : Nat} {x : Int} {q : Nat} (h : uv B n p = some (x, q)) : 0 ≤ x ∧ x < 18446744073709551616 ∧ p < q ∧ q ≤ n := by
  obtain ⟨h1, h2, h3, h4⟩ := uvGo_some h
  exact ⟨h1, h2, by omega, h4⟩

/-- a slice of n bytes -/
def Bts (w : World) (ad : Option Addr) (n : Nat) (B : Nat → Int) : Prop := ∀ i, i < n → ∃ b off, ad = some ⟨b, off, none⟩ ∧ w.cell? ⟨b, off + i, none⟩ = some (.int .u8 (B i))

set_option maxHeartbeats 1000000 in
set_option maxRecDepth 100000 in
theorem zzUvarint (ad : Option Addr) (n c : Nat) (p : Nat) (B : Nat → Int) (w : World) (hp : p ≤ n) (hn : n ≤ 65536) (hB : Bts w ad n B) :
    Calls Tryf.prog 15 #[.slice ad n c, .int .i64 p] w fun e w' => e = .returned (uvTup p (uv B n p)) ∧ w' = w := by
  go_enter Tryf.func15, Tryf.ntmps15
  go_wp2_with fail
  go_loop [7, 8, 9] (fun x s i => ∃ k : Nat, k ≤ 10 ∧ i = .int .i64 k ∧ s = .int .u64 (7 * k : Nat) ∧ x = .int .u64 (acc B p k) ∧ uv B n p = uvGo B n p (10 - k) k) (fun x s i => 10 - (intOf i).toNat)
  case atStart => exact ⟨0, by omega, rfl, rfl, rfl, rfl⟩
  case round =>
    obtain ⟨k, hk, rfl, rfl, rfl, hu⟩ := hrel
    by_cases h10 : k < 10
    · have hf : uvGo B n p (10 - k) k = if p + k < n then (if B (p + k) < 128 then (if k = 9 ∧ 1 < B (p + k) then none else some (lastV (acc B p k) (B (p + k)) k, p + k + 1)) else uvGo B n p (10 - (k + 1)) (k + 1)) else none := by
        rw [show 10 - k = (10 - (k + 1)) + 1 by omega]; rfl
      rw [hf] at hu
      clear hf
      by_cases hpn : p + k < n
      · rw [if_pos hpn] at hu
        obtain ⟨b, off, rfl, hc⟩ := hB (p + k) hpn
        have i0 : (k : Int) < 10 := by omega
        have i1 : (p : Int) + (k : Int) < (n : Int) := by omega
        have i2 : (0 : Int) ≤ (p : Int) + (k : Int) := by omega
        have hc' : w.cell? ⟨b, off + ((p : Int) + (k : Int)).toNat, none⟩ = some (.int .u8 (B (p + k))) := by rw [show ((p : Int) + (k : Int)).toNat = p + k by omega]; exact hc
        have HB := hide hB
        clear hB
        by_cases hlt : B (p + k) < 128
        · rw [if_pos hlt] at hu
          by_cases h9 : k = 9
          · have e9 : ((k : Int) == 9) = true := beq_iff_eq.2 (by omega)
            by_cases h1 : 1 < B (p + k)
            · rw [if_pos ⟨h9, h1⟩] at hu
              have HU := hide hu
              clear hu h9
              go_wp2
              go_ret3
              rw [unhide HU]
              exact ⟨rfl, rfl⟩
            · rw [if_neg (by omega)] at hu
              have HU := hide hu
              clear hu h9
              go_wp2
              go_ret3
              rw [unhide HU]
              exact ⟨rfl, rfl⟩
          · rw [if_neg (by omega)] at hu
            have HU := hide hu
            clear hu
            have e9 : ((k : Int) == 9) = false := beq_eq_false_iff_ne.2 (by omega)
            go_wp2
            go_ret3
            rw [unhide HU]
            exact ⟨rfl, rfl⟩
        · rw [if_neg hlt] at hu
          have HU := hide hu
          clear hu
          go_wp2
          go_round
          case rel => exact ⟨k + 1, by omega, by go_num, by go_num, rfl, unhide HU⟩
          case measure => simp [intOf]; omega
      · rw [if_neg hpn] at hu
        have i0 : (k : Int) < 10 := by omega
        have i1 : ¬ (p : Int) + (k : Int) < (n : Int) := by omega
        have HU := hide hu
        clear hu
        go_wp2
        go_ret3
        rw [unhide HU]
        exact ⟨rfl, rfl⟩
    · have hke : k = 10 := by omega
      subst hke
      have hu' : uv B n p = none := hu
      have HU := hide hu'
      clear hu hu'
      go_wp2
      go_ret3
      rw [unhide HU]
      exact ⟨rfl, rfl⟩
end Go.Proofs.Qxb6616086aFmt.Dw
