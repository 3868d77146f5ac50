import Derived.Test.Qxb6616086aFmtDwG
import Derived.Lib.SliceRun
namespace Go.Proofs.Qxb6616086aFmt.Dw
open Go.RowKit Go.Deep Go.Extern.Stop Go.Stop Go.Extern
set_option linter.unusedVariables false

/-! the record, plainly -/
def inner (B : Nat → Int) (n : Nat) (cnt : Int) (p : Nat) : Option Nat :=
  if cnt ≤ 0 then some p else
  if h : n ≤ p then none else
  if B p = 3 then inner B n (cnt - 1) (p + 1) else
  match hk : fld B n (p + 1) with
  | none => none
  | some (s, e) =>
    if B p = 2 then inner B n (cnt - 1) e
    else if B p = 1 then
      match hv : fld B n e with
      | none => none
      | some (s2, e2) => inner B n (cnt - 1) e2
    else none
termination_by n - p
decreasing_by
  · omega
  · have := fld_some hk; omega
  · have := fld_some hk; have := fld_some hv; omega

section
variable {B : Nat → Int} {n : Nat} {cnt : Int} {p : Nat}
theorem inner_zero (h : cnt ≤ 0) : inner B n cnt p = some p := by rw [inner, if_pos h]
theorem inner_end (h : ¬ cnt ≤ 0) (hp : n ≤ p) : inner B n cnt p = none := by rw [inner, if_neg h, dif_pos hp]
theorem inner_drop (h : ¬ cnt ≤ 0) (hp : ¬ n ≤ p) (hk : B p = 3) : inner B n cnt p = inner B n (cnt - 1) (p + 1) := by rw [inner, if_neg h, dif_neg hp, if_pos hk]
theorem inner_short (h : ¬ cnt ≤ 0) (hp : ¬ n ≤ p) (hk : ¬ B p = 3) (hf : fld B n (p + 1) = none) : inner B n cnt p = none := by
  rw [inner, if_neg h, dif_neg hp, if_neg hk]
  split
  · rfl
  · rename_i s e hf2
    rw [hf] at hf2
    cases hf2
theorem inner_key {s e : Nat} (h : ¬ cnt ≤ 0) (hp : ¬ n ≤ p) (hk : ¬ B p = 3) (hf : fld B n (p + 1) = some (s, e)) :
    inner B n cnt p = if B p = 2 then inner B n (cnt - 1) e else if B p = 1 then (match fld B n e with | none => none | some (s2, e2) => inner B n (cnt - 1) e2) else none := by
  rw [inner, if_neg h, dif_neg hp, if_neg hk]
  split
  · rename_i hf2
    rw [hf] at hf2
    cases hf2
  · rename_i s' e' hf2
    rw [hf] at hf2
    simp only [Option.some.injEq, Prod.mk.injEq] at hf2
    obtain ⟨rfl, rfl⟩ := hf2
    by_cases h2 : B p = 2
    · rw [if_pos h2, if_pos h2]
    · rw [if_neg h2, if_neg h2]
      by_cases h1 : B p = 1
      · rw [if_pos h1, if_pos h1]
        split <;> rename_i hv <;> rw [hv]
      · rw [if_neg h1, if_neg h1]
end
theorem inner_le {B : Nat → Int} {n : Nat} : ∀ (k : Nat) {cnt : Int} {p q : Nat}, n - p ≤ k → inner B n cnt p = some q → p ≤ q := by
  intro k
  induction k with
  | zero =>
    intro cnt p q hk h
    by_cases h0 : cnt ≤ 0
    · rw [inner_zero h0] at h; cases h; exact Nat.le_refl _
    · rw [inner_end h0 (by omega)] at h; cases h
  | succ k ih =>
    intro cnt p q hk h
    by_cases h0 : cnt ≤ 0
    · rw [inner_zero h0] at h; cases h; exact Nat.le_refl _
    · by_cases hp : n ≤ p
      · rw [inner_end h0 hp] at h; cases h
      · by_cases h3 : B p = 3
        · rw [inner_drop h0 hp h3] at h
          have := ih (by omega) h
          omega
        · cases hf : fld B n (p + 1) with
          | none => rw [inner_short h0 hp h3 hf] at h; cases h
          | some se =>
            obtain ⟨s, e⟩ := se
            have hse := fld_some hf
            rw [inner_key h0 hp h3 hf] at h
            split at h
            · have := ih (by omega) h
              omega
            · split at h
              · split at h
                · cases h
                · rename_i s2 e2 hv
                  have := fld_some hv
                  have := ih (by omega) h
                  omega
              · cases h
theorem inner_some {B : Nat → Int} {n : Nat} {cnt : Int} {p q : Nat} (h : inner B n cnt p = some q) : p ≤ q := inner_le (n - p) (Nat.le_refl _) h

noncomputable def outer (B : Nat → Int) (n : Nat) (p : Nat) (L : List ByteArray) : List ByteArray :=
  if h : n ≤ p then L else
  match hf : fld B n p with
  | none => addN L ByteArray.empty
  | some (s, e) =>
    match hu : uv B n e with
    | none => addN L (nm B s e)
    | some (cnt, q) =>
      match hi : inner B n cnt q with
      | none => addN L (nm B s e)
      | some p' => outer B n p' (addN L (nm B s e))
termination_by n - p
decreasing_by
  have := fld_some hf; have := uv_some hu; have := inner_some hi; omega

section
variable {B : Nat → Int} {n p : Nat} {L : List ByteArray}
theorem outer_end (h : n ≤ p) : outer B n p L = L := by rw [outer, dif_pos h]
theorem outer_short (h : ¬ n ≤ p) (hf : fld B n p = none) : outer B n p L = addN L ByteArray.empty := by
  rw [outer, dif_neg h]
  split
  · rfl
  · rename_i s e hf2; rw [hf] at hf2; cases hf2
theorem outer_name {s e : Nat} (h : ¬ n ≤ p) (hf : fld B n p = some (s, e)) :
    outer B n p L = match uv B n e with | none => addN L (nm B s e) | some (cnt, q) => (match inner B n cnt q with | none => addN L (nm B s e) | some p' => outer B n p' (addN L (nm B s e))) := by
  rw [outer, dif_neg h]
  split
  · rename_i hf2; rw [hf] at hf2; cases hf2
  · rename_i s' e' hf2
    rw [hf] at hf2
    simp only [Option.some.injEq, Prod.mk.injEq] at hf2
    obtain ⟨rfl, rfl⟩ := hf2
    split <;> rename_i hu <;> rw [hu]
    split <;> rename_i hi <;> simp only [hi]
end

theorem info5 : (Tryf.prog.info? 5).map (fun i => (i.zero, i.size, i.bytes)) = some (some (.int .u8 0), 1, 1) := by kernel_rfl

theorem eqNil (a : Option Addr) (l c : Nat) (w : World) : (binOp .eql 22 (.slice a l c) (.slice none 0 0)).run Tryf.prog w = .ok (.bool a.isNone) w := Lib.run_eql_slice_nil w 22 5 a l c 0 0 Tryf.underlying22

/-- what zzClone leaves -/
def Cl (w w' : World) (a : Option Addr) (n : Nat) (X : Nat → Int) (e : Ending) : Prop :=
  (a = none ∧ e = .returned (.slice none 0 0) ∧ w' = w) ∨ (a ≠ none ∧ e = .returned (.slice (some ⟨w.heap.size, 0, none⟩) n n) ∧ Below w.heap.size w w' ∧ PB w' w.heap.size n X ∧ w.heap.size < w'.heap.size)

structure ClI (w wr : World) (n k : Nat) (X : Nat → Int) : Prop where
  bel : Below w.heap.size w wr
  row : wr.rowIs w.heap.size 5 n (fun i => if i < k then .int .u8 (X i) else .int .u8 0)

set_option maxHeartbeats 1000000 in
set_option maxRecDepth 100000 in
theorem zzClone (a : Option Addr) (n c : Nat) (X : Nat → Int) (w : World) (hB : Bts w a n X) (hn : n ≤ 1048576) (hlt : ∀ b off, a = some ⟨b, off, none⟩ → 0 < n → b < w.heap.size) :
    Calls Tryf.prog 6 #[.slice a n c] w fun e w' => Cl w w' a n X e := by
  have hnil := eqNil
  cases a with
  | none =>
    clear hB hlt
    go_enter Tryf.func6, Tryf.ntmps6
    go_wp2
    go_ret
    exact .inl ⟨rfl, rfl, rfl⟩
  | some ad =>
    have hmk := run_make_row' (P := Tryf.prog) 22 5 (.int .u8 0) 1 Tryf.underlying22 info5 rfl .i64 .i64 n (by omega) (by omega)
    have HB := hide hB
    have HL := hide hlt
    clear hB hlt
    go_enter Tryf.func6, Tryf.ntmps6
    go_wp2_with fail
    go_loopw [4] (fun i wr => ∃ k : Nat, k ≤ n ∧ i = .int .i64 k ∧ ClI w wr n k X) (fun i _ => n - (intOf i).toNat)
    case atStart => exact ⟨0, by omega, rfl, (Below.refl _ _).alloc (Nat.le_refl _) _, (World.rowIs_made w (.int .u8 0) n 5).congr fun i hi => by simp⟩
    case round =>
      obtain ⟨k, hk, rfl, I⟩ := hrel
      by_cases hkn : k < n
      · obtain ⟨b, off, e1, hc⟩ := unhide HB k hkn
        cases e1
        have hl := unhide HL b off rfl (by omega)
        have hc' := (I.bel.cell (p := ⟨b, off + k, none⟩) hl).trans hc
        have c1 := I.row.cell hkn
        have f1 := I.row.frozen k
        have i0 : (0 : Int) ≤ (k : Int) := by omega
        have i1 : (k : Int) < (n : Int) := by omega
        have HI := hide I
        clear I HB HL hmk
        go_wp2
        go_roundw
        case rel =>
          have I := unhide HI
          refine ⟨k + 1, by omega, by go_num, I.bel.setCell (by simp) _, (I.row.set k _).congr fun i hi => ?_⟩
          show (if i = k then Value.int .u8 (X k) else (if i < k then Value.int .u8 (X i) else .int .u8 0)) = (if i < k + 1 then Value.int .u8 (X i) else .int .u8 0)
          by_cases e : i = k
          · subst e; simp
          · by_cases l : i < k
            · rw [if_neg e, if_pos l, if_pos (by omega)]
            · rw [if_neg e, if_neg l, if_neg (by omega)]
        case measure => simp [intOf]; omega
      · have hke : k = n := by omega
        subst hke
        have HI := hide I
        clear I hmk
        go_wp2
        go_ret
        refine .inr ⟨by simp, rfl, (unhide HI).bel, fun i hi => ?_, (unhide HI).row.lt⟩
        rw [(unhide HI).row.cell hi]
        simp [hi]
end Go.Proofs.Qxb6616086aFmt.Dw
