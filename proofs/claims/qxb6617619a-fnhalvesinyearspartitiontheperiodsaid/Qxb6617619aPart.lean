/- The frame is the kit's shell for this law (proof-skeleton.mjs); the walk is filled in. -/
import Derived.Test.Qxb6617619aRows
import Derived.Test.Qxb6617619aHv
import Derived.WalkKit
import Derived.ProofKit
import Derived.OpenShut
import Derived.ShutString
namespace Go.Proofs.Qxb6617619a.fnHalvesInYearsPartitionThePeriod
open Go.ChangeShapes Go.WideShapes Go.ChangeAt Go.RowKit
open Go.ChangeMaps (open_string shut_string)
set_option linter.unusedVariables false      -- a walk need not use every 'w<i>' (that an integer argument fits its kind)

theorem own : ownKnob Try.prog.godebug = none := by kernel_rfl

theorem hide {p : Prop} (h : p) : Hid p := h
/-- the halves of [f, e) in the years below y -/
def sm (f e y : Int) : Int := max (min e (y * 24) - f) 0
theorem sm_step (f e y : Int) : sm f e (y + 1) = sm f e y + hv f e y := by unfold sm hv; omega
theorem hv_bd (f e y : Int) : 0 ≤ hv f e y ∧ hv f e y ≤ 24 := by unfold hv; omega

set_option maxHeartbeats 1000000 in
set_option maxRecDepth 100000 in
/-- from the loop on: lo, hi are the ends in order -/
theorem core (f e lo hi want : Int) (f1 : -17179869184 ≤ f) (f2 : f ≤ 17179869184) (e1 : -17179869184 ≤ e) (e2 : e ≤ 17179869184) (hlo : (f ≤ e ∧ lo = f ∧ hi = e ∧ want = e - f) ∨ (e < f ∧ lo = e ∧ hi = f ∧ want = 0)) (hd : hi - lo ≤ 65536) (w : World) :
    Calls Try.prog 4 #[.int .i64 f, .int .i64 e] w fun r w' => r = .returned (.bool true) ∧ Grown w w' := by
  have hbd : ∀ y, 0 ≤ hv f e y ∧ hv f e y ≤ 24 := hv_bd f e
  have main : ∀ (y0 last : Int), y0 = lo / 24 - 1 → last = hi / 24 + 1 → sm f e y0 = 0 ∧ sm f e (last + 1) = want ∧ 0 ≤ want ∧ want ≤ 65536 ∧ ∀ y, y0 ≤ y → y ≤ last + 1 → 0 ≤ sm f e y ∧ sm f e y ≤ 65536 := by
    intro y0 last h0 h1
    unfold sm
    refine ⟨by omega, by omega, by omega, by omega, fun y _ _ => by omega⟩
  obtain ⟨s0, s1, s2, s3, s4⟩ := main _ _ rfl rfl
  have S0 := hide s0
  have S1 := hide s1
  have S4 := hide s4
  have SB := hide hbd
  clear main s0 s1 s4 hbd
  rcases hlo with ⟨hfe, rfl, rfl, rfl⟩ | ⟨hfe, rfl, rfl, rfl⟩
  · go_enter Try.func4, Try.ntmps4
    go_wp2_with (go_at_call 6; refine (floorDiv _ _ (by omega) (by omega)).mono ?_; rintro r w' ⟨rfl, hw⟩; have hw2 := hw.symm; subst hw2; clear hw)
    go_loopw [9, 10, 11] (fun s i _ wx => ∃ y : Int, lo / 24 - 1 ≤ y ∧ y ≤ hi / 24 + 1 + 1 ∧ i = .int .i64 y ∧ s = .int .i64 (sm lo hi y) ∧ Grown w wx) (fun _ i _ _ => (hi / 24 + 1 + 1 - intOf i).toNat)
    case atStart => exact ⟨_, by omega, by omega, rfl, by rw [S0.out], Grown.refl _⟩
    case round =>
      obtain ⟨y, hy1, hy2, rfl, rfl, hg⟩ := hrel
      have G := hide hg
      clear hg
      obtain ⟨t1, t2⟩ := S4.out y hy1 hy2
      by_cases hlt : y ≤ hi / 24 + 1
      · obtain ⟨p1, p2⟩ := SB.out y
        have hs := hide (sm_step lo hi y)
        obtain ⟨t3, t4⟩ := S4.out (y + 1) (by omega) (by omega)
        go_wp2_with fail
        refine (halves lo hi y _ (by omega) (by omega) (by omega) (by omega) (by omega) (by omega)).mono ?_
        rintro r w1 ⟨rfl, g1⟩
        have G1 := hide (grown_trans G.out g1)
        clear g1
        go_wp2
        go_roundw
        case rel => exact ⟨y + 1, by omega, by omega, rfl, by rw [hs.out], G1.out⟩
        case measure => simp [intOf]; omega
      · obtain rfl : y = hi / 24 + 1 + 1 := by omega
        clear t1 t2
        rw [S1.out]
        go_wp2
        go_ret
        exact ⟨rfl, G.out⟩
  · go_enter Try.func4, Try.ntmps4
    go_wp2_with (go_at_call 6; refine (floorDiv _ _ (by omega) (by omega)).mono ?_; rintro r w' ⟨rfl, hw⟩; have hw2 := hw.symm; subst hw2; clear hw)
    go_loopw [9, 10, 11] (fun s i _ wx => ∃ y : Int, lo / 24 - 1 ≤ y ∧ y ≤ hi / 24 + 1 + 1 ∧ i = .int .i64 y ∧ s = .int .i64 (sm hi lo y) ∧ Grown w wx) (fun _ i _ _ => (hi / 24 + 1 + 1 - intOf i).toNat)
    case atStart => exact ⟨_, by omega, by omega, rfl, by rw [S0.out], Grown.refl _⟩
    case round =>
      obtain ⟨y, hy1, hy2, rfl, rfl, hg⟩ := hrel
      have G := hide hg
      clear hg
      obtain ⟨t1, t2⟩ := S4.out y hy1 hy2
      by_cases hlt : y ≤ hi / 24 + 1
      · obtain ⟨p1, p2⟩ := SB.out y
        have hs := hide (sm_step hi lo y)
        obtain ⟨t3, t4⟩ := S4.out (y + 1) (by omega) (by omega)
        go_wp2_with fail
        refine (halves hi lo y _ (by omega) (by omega) (by omega) (by omega) (by omega) (by omega)).mono ?_
        rintro r w1 ⟨rfl, g1⟩
        have G1 := hide (grown_trans G.out g1)
        clear g1
        go_wp2
        go_roundw
        case rel => exact ⟨y + 1, by omega, by omega, rfl, by rw [hs.out], G1.out⟩
        case measure => simp [intOf]; omega
      · obtain rfl : y = hi / 24 + 1 + 1 := by omega
        clear t1 t2
        rw [S1.out]
        go_wp2
        go_ret
        exact ⟨rfl, G.out⟩
/-! ### the walk -/
theorem walk (a0 : Int) (a1 : Int) (w0 : (Lit.int .i64 a0).wf = true) (w1 : (Lit.int .i64 a1).wf = true) (w : World) :
    Calls Try.prog 4 #[.int .i64 a0, .int .i64 a1] w fun e w' => e = .returned (.bool true) ∧ Grown w w' := by
  by_cases d0 : -17179869184 ≤ a0 ∧ a0 ≤ 17179869184
  · obtain ⟨d01, d02⟩ := d0
    by_cases d1 : -17179869184 ≤ a1 ∧ a1 ≤ 17179869184
    · obtain ⟨d11, d12⟩ := d1
      by_cases k : a0 ≤ a1
      · by_cases hd : a1 - a0 ≤ 65536
        · exact core a0 a1 a0 a1 (a1 - a0) d01 d02 d11 d12 (.inl ⟨k, rfl, rfl, rfl⟩) hd w
        · go_enter Try.func4, Try.ntmps4
          go_wp2
          go_ret
          exact ⟨rfl, by repeat (first | exact Grown.refl _ | apply Grown.drew | apply Grown.alloc)⟩
      · by_cases hd : a0 - a1 ≤ 65536
        · exact core a0 a1 a1 a0 0 d01 d02 d11 d12 (.inr ⟨by omega, rfl, rfl, rfl⟩) hd w
        · go_enter Try.func4, Try.ntmps4
          go_wp2
          go_ret
          exact ⟨rfl, by repeat (first | exact Grown.refl _ | apply Grown.drew | apply Grown.alloc)⟩
    · by_cases k : a1 < -17179869184
      all_goals
        go_enter Try.func4, Try.ntmps4
        go_wp2
        go_ret
        exact ⟨rfl, by repeat (first | exact Grown.refl _ | apply Grown.drew | apply Grown.alloc)⟩
  · by_cases k : a0 < -17179869184
    all_goals
      go_enter Try.func4, Try.ntmps4
      go_wp2
      go_ret
      exact ⟨rfl, by repeat (first | exact Grown.refl _ | apply Grown.drew | apply Grown.alloc)⟩

/-! ### the row's step -/
set_option maxRecDepth 100000 in
theorem lifted (os : Os) (started : os.Started) (H : Type) (enc : TypeId × Value → H) :
    ReturnsInHanded {} Try.checked os 4 .any (Rows.fnHalvesInYearsPartitionThePeriodSpec.pre6 enc Try.prog Try.f4 Rows.fnHalvesInYearsPartitionThePeriodRow.domain false) (Rows.fnHalvesInYearsPartitionThePeriodSpec.post enc Try.prog Try.f4 false true false false) := by
  refine returnsInHanded_of_change (C := Try.checked) own started (by kernel_rfl) Try.func4
    (ChangeSpec.witness6 (enc := enc) (C := Try.checked) false ⟨#[], #[.int .i64 0, .int .i64 0], []⟩ 8 (by kernel_rfl) (by kernel_rfl) (by kernel_rfl) (by kernel_rfl)) ?_
  intro W base args ds gs before hval0 hW hcnd _
  have hval : ∀ (j : Nat) t v, Try.f4.params[j]? = some t → args[j]? = some v → Value.okWide Try.prog W .any base t v := hval0
  have hW' := hW
  obtain ⟨p, q, hA0, hV, rfl, hfz, hnd⟩ := hW
  have hA : DataW.TrodAll enc Try.prog W 0 (fun _ => true) true Try.f4.params.toList args.toList ds p := hA0
  rw [Try.params4] at hA hval
  obtain ⟨v0, vs0, d0, ds0, p0, q0, hargs, rfl, rfl, h0, r0⟩ := trodAll_cons hA
  obtain ⟨v1, vs1, d1, ds1, p1, q1, rfl, rfl, rfl, h1, r1⟩ := trodAll_cons r0
  obtain ⟨rfl, rfl, rfl⟩ := trodAll_nil r1
  obtain rfl : args = #[v0, v1] := by cases args; simp_all
  obtain ⟨rfl, rfl⟩ := trodVars_none hV
  obtain ⟨a0, rfl, rfl, rfl, w0⟩ := open_int Try.underlying2 (hval 0 2 v0 rfl rfl) h0
  obtain ⟨a1, rfl, rfl, rfl, w1⟩ := open_int Try.underlying2 (hval 1 2 v1 rfl rfl) h1
  clear hA0 hval0
  simp only [List.append_nil] at hW'
  refine (walk a0 a1 w0 w1 W).mono fun e W' ⟨he, hg⟩ => ?_
  subst he
  exact ⟨_, rfl, post_of_same (pa := []) (pv := []) hW' (fun _ _ _ => (trodAll_cons_mk (shut_bool Try.underlying4 _) trodAll_mk0)) (fun sp _ => (trodAll_cons_mk (shut_int Try.underlying2 w0) (trodAll_cons_mk (shut_int Try.underlying2 w1) trodAll_mk0))) (fun _ _ => rfl) rfl
    (hg.frame _) hg.2.1 (ok_one (by kernel_rfl) rfl (okWide_bool_mk Try.underlying4 _))⟩

theorem over : Rows.fnHalvesInYearsPartitionThePeriodRow.holds Try.pinned (OpenSpec.ofChange Rows.fnHalvesInYearsPartitionThePeriodSpec) :=
  OpenClaim.holds_of_wide 4 Try.f4 rfl rfl rfl rfl rfl rfl rfl ⟨rfl, rfl, rfl, rfl, rfl⟩ rfl rfl rfl rfl rfl (by kernel_rfl) Try.func4 (by kernel_rfl)
    (of_decide_eq_true (by kernel_rfl)) (by unfold Func.isWrapper; first | (rw [if_pos (by decide +kernel)]; kernel_rfl) | (rw [if_neg (by decide +kernel)]; exact ⟨rfl, rfl⟩))
    (fun os started H enc _ => lifted os started H enc)

/-- THE STATEMENT -/
theorem proved : Rows.FnHalvesInYearsPartitionThePeriodSaid :=
  over
end Go.Proofs.Qxb6617619a.fnHalvesInYearsPartitionThePeriod
