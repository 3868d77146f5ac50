import Derived.Test.Qxb6616086aFmtDwS
namespace Go.Proofs.Qxb6616086aFmt.Dw
open Go.RowKit Go.Deep Go.Extern.Stop Go.Stop Go.Extern Go.Maps Go.WideShapes Go.ChangeMaps
set_option linter.unusedVariables false

/-- the names' list is without repeats -/
theorem addN_nodup {L : List ByteArray} (h : L.Nodup) (x : ByteArray) : (addN L x).Nodup := by
  by_cases hx : x ∈ L
  · rw [addN_pos hx]; exact h
  · rw [addN_neg hx]
    exact List.nodup_append.2 ⟨h, by simp, fun a ha b hb => by simp at hb; subst hb; intro e; exact hx (e ▸ ha)⟩
theorem outer_nodup {B : Nat → Int} {n : Nat} : ∀ (k : Nat) {p : Nat} {L : List ByteArray}, n - p ≤ k → L.Nodup → (outer B n p L).Nodup := by
  intro k
  induction k with
  | zero => intro p L hk h; rw [outer_end (by omega)]; exact h
  | succ k ih =>
    intro p L hk h
    by_cases hp : n ≤ p
    · rw [outer_end hp]; exact h
    · cases hf : fld B n p with
      | none => rw [outer_short hp hf]; exact addN_nodup h _
      | some se =>
        obtain ⟨s, e⟩ := se
        have := fld_some hf
        rw [outer_name hp hf]
        cases hu : uv B n e with
        | none => exact addN_nodup h _
        | some cq =>
          obtain ⟨c, q⟩ := cq
          have := uv_some hu
          simp only
          cases hi : inner B n c q with
          | none => exact addN_nodup h _
          | some p' =>
            have := inner_some hi
            exact ih (by omega) (addN_nodup h _)

set_option maxHeartbeats 1000000 in
theorem zzBytes (a : Option Addr) (n c : Nat) (s : ByteArray) (w : World) (h1 : n + s.size ≤ 1048576) :
    Calls Tryf.prog 11 #[.slice a n c, .string s] w fun e w' => e = .returned (.bool true) ∧ w' = w := by
  have i1 : ¬ (1048576 : Int) < (n : Int) := by omega
  have i2 : ¬ (1048576 : Int) < (s.size : Int) := by omega
  have i3 : ¬ (1048576 : Int) < (n : Int) + (s.size : Int) := by omega
  go_enter Tryf.func11, Tryf.ntmps11
  go_wp2
  go_ret
  exact ⟨rfl, rfl⟩
end Go.Proofs.Qxb6616086aFmt.Dw
