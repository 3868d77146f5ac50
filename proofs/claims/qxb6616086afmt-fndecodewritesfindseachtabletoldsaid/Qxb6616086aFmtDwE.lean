import Derived.Test.Qxb6616086aFmtDwD
import Derived.Laws.BytesString
import Derived.Laws.Cells
import Derived.WideShapes
namespace Go.Proofs.Qxb6616086aFmt.Dw
open Go.RowKit Go.Deep Go.Extern.Stop Go.Stop Go.Extern
set_option linter.unusedVariables false

theorem RS.grown {w w' : World} {rb pb n p : Nat} {bad : Bool} {r : Nat} (S : RS w rb pb n p bad) (h : w.grownBy w' (some r)) (hr : rb ≠ r) : RS w' rb pb n p bad := by
  obtain ⟨v, er, R, a, b⟩ := S
  exact ⟨v, er, (h.block rb R.lt (fun e => hr (Option.some.inj e))).trans R, a, b⟩
theorem RS.below {w w' : World} {rb pb n p : Nat} {bad : Bool} {B : Nat} (S : RS w rb pb n p bad) (h : Below B w w') (hr : rb < B) : RS w' rb pb n p bad := by
  obtain ⟨v, er, R, a, b⟩ := S
  exact ⟨v, er, R.below h hr, a, b⟩
theorem RS.lt {w : World} {rb pb n p : Nat} {bad : Bool} (S : RS w rb pb n p bad) : rb < w.heap.size := by
  obtain ⟨v, er, R, a, b⟩ := S
  exact R.lt
theorem PB.grown {w w' : World} {pb n : Nat} {B : Nat → Int} {r : Nat} (h : PB w pb n B) (g : w.grownBy w' (some r)) (hr : pb ≠ r) : PB w' pb n B :=
  fun i hi => g.cell (h i hi) (fun e => hr (Option.some.inj e))
theorem PB.below {w w' : World} {pb n : Nat} {B : Nat → Int} {K : Nat} (h : PB w pb n B) (g : Below K w w') (hr : pb < K) : PB w' pb n B :=
  fun i hi => (g.cell (p := ⟨pb, i, none⟩) hr).trans (h i hi)

set_option maxHeartbeats 1000000 in
/-- a field that is whole -/
theorem fieldOk (rb : Nat) (ad : Option Addr) (L m : Nat) (w w1 : World) (R : RA w1 rb (.slice ad L L) .nilIface)
    (C : Hid (Calls Tryf.prog 21 #[.pointer (some ⟨rb, 0, none⟩)] w fun e w' => e = .returned (.int .u64 (m : Int)) ∧ w' = w1)) (hm : m ≤ L) (hL : L ≤ 65536) :
    Calls Tryf.prog 20 #[.pointer (some ⟨rb, 0, none⟩)] w fun e w' => e = .returned (.slice ad m L) ∧ w' = w1.setCell ⟨rb, 0, none⟩ (cutS ad L m) := by
  have h0 := R.c0
  have h1 := R.c1
  have f0 := R.fz 0
  have i0 : IntKind.u64.wrap (L : Int) = L := by rw [IntKind.wrap_u64]; omega
  have i1 : ¬ (L : Int) < (m : Int) := by omega
  have i2 : (0 : Int) ≤ (m : Int) := by omega
  have i3 : (m : Int) ≤ (L : Int) := by omega
  clear R
  unfold cutS
  go_enter Tryf.func20, Tryf.ntmps20
  go_wp2_with (go_at_call 21; refine (unhide C).mono ?_; rintro e w' ⟨rfl, hw⟩; subst hw)
  all_goals
    go_ret
    exact ⟨rfl, rfl⟩

set_option maxHeartbeats 1000000 in
/-- a field that runs past the end -/
theorem fieldPast (F : Interp) (rb : Nat) (ad : Option Addr) (L : Nat) (x : Int) (w w1 : World) (hF : F.answers w1.tape) (R : RA w1 rb (.slice ad L L) .nilIface)
    (C : Hid (Calls Tryf.prog 21 #[.pointer (some ⟨rb, 0, none⟩)] w fun e w' => e = .returned (.int .u64 x) ∧ w' = w1)) (hx : (L : Int) < x) (hL : L ≤ 65536) :
    Calls Tryf.prog 20 #[.pointer (some ⟨rb, 0, none⟩)] w fun e w' => e = .returned (.slice none 0 0) ∧ (∃ er, RA w' rb (.slice ad L L) er ∧ IsErr er) ∧ w1.grownBy w' (some rb) := by
  have h0 := R.c0
  have h1 := R.c1
  have i0 : IntKind.u64.wrap (L : Int) = L := by rw [IntKind.wrap_u64]; omega
  have l := R.lt
  have HR := hide R
  clear R
  go_enter Tryf.func20, Tryf.ntmps20
  go_wp2_with (first | (go_at_call 21; refine (unhide C).mono ?_; rintro e w' ⟨rfl, hw⟩; subst hw) | (go_at_call 25; refine (errorfPast F x w'.heap.size 1 _ (by exact hF) (by simp) (by simp)).mono ?_; rintro e w2 ⟨rfl, hb⟩; have R2 := hide (((unhide HR).alloc (.cells #[.iface 47 (.int .u64 x)] 20)).below hb (by simp; omega)); have hb2 := hide (((Below.refl _ _).alloc (Nat.le_refl _) (.cells #[.iface 47 (.int .u64 x)] 20)).trans (hb.mono (by simp)))) | (go_at_call 24; refine (fail1 _ _ _ _ _ (unhide R2)).mono ?_; rintro e w3 ⟨rfl, R3, g3⟩; have q3 := R3.c1; have HR3 := hide R3; clear R3))
  go_ret
  exact ⟨rfl, ⟨_, unhide HR3, _, _, rfl⟩, gtrans (gbelow (unhide hb2)) g3⟩

set_option maxHeartbeats 1000000 in
/-- a field whose length is not there, or with an error set already -/
theorem fieldErr (rb : Nat) (ad : Option Addr) (L : Nat) (w : World) (hL : L ≤ 65536)
    (C : Hid (Calls Tryf.prog 21 #[.pointer (some ⟨rb, 0, none⟩)] w fun e w' => e = .returned (.int .u64 0) ∧ (∃ er, RA w' rb (.slice ad L L) er ∧ IsErr er) ∧ w.grownBy w' (some rb))) :
    Calls Tryf.prog 20 #[.pointer (some ⟨rb, 0, none⟩)] w fun e w' => e = .returned (.slice none 0 0) ∧ (∃ er, RA w' rb (.slice ad L L) er ∧ IsErr er) ∧ w.grownBy w' (some rb) := by
  have i0 : IntKind.u64.wrap (L : Int) = L := by rw [IntKind.wrap_u64]; omega
  have i1 : ¬ (L : Int) < 0 := by omega
  go_enter Tryf.func20, Tryf.ntmps20
  go_wp2_with (go_at_call 21; refine (unhide C).mono ?_; rintro e w' ⟨rfl, ⟨er, R, t, y, rfl⟩, g⟩; have h0 := R.c0; have h1 := R.c1; have HR := hide R; clear R)
  go_ret
  exact ⟨rfl, ⟨_, unhide HR, _, _, rfl⟩, g⟩

/-- a slice of the payload's bytes from s to e -/
def Sub (pb s e : Nat) (v : Value) : Prop := s ≤ e ∧ ∃ ad c, v = .slice ad (e - s) c ∧ (s < e → ad = some ⟨pb, s, none⟩)

theorem rsField {rb pb n p s e : Nat} {B : Nat → Int} {w : World} (S : RS w rb pb n p false) (hP : PB w pb n B) (hn : n ≤ 65536) (hu : fld B n p = some (s, e)) :
    Calls Tryf.prog 20 #[.pointer (some ⟨rb, 0, none⟩)] w fun r w' => (∃ v, r = .returned v ∧ Sub pb s e v) ∧ RS w' rb pb n e false ∧ w.grownBy w' (some rb) := by
  obtain ⟨v, er, R, ⟨hp, ad, rfl, had⟩, rfl⟩ := S
  unfold fld at hu
  split at hu
  · cases hu
  · rename_i x q hq
    obtain ⟨h0, h1, h2, h3⟩ := uv_some hq
    split at hu
    · rename_i hx
      simp only [Option.some.injEq, Prod.mk.injEq] at hu
      obtain ⟨rfl, rfl⟩ := hu
      have C := binUvarint ad n (n - p) p B w hp hn (Rest.bts hP had)
      rw [hq] at C
      have C1 := uvarintOk rb ad (n - p) (q - p) x w R.c0 R.c1 (R.fz 0) C (by omega) (by omega)
      have R1 := R.set0 (cutS ad (n - p) (q - p))
      obtain ⟨_, ad1, e1, had1⟩ := Rest.cut (q := q) had (by omega) h3
      rw [e1] at C1 R1
      obtain ⟨m, rfl⟩ := Int.eq_ofNat_of_zero_le h0
      refine (fieldOk rb ad1 (n - q) m w _ R1 C1 (by omega) (by omega)).mono ?_
      rintro r w' ⟨rfl, rfl⟩
      have R2 := R1.set0 (cutS ad1 (n - q) m)
      have e2 : q + ((m : Int)).toNat - q = m := by omega
      have hc := Rest.cut (pb := pb) (q := q + ((m : Int)).toNat) had1 (by omega) (by omega)
      rw [e2] at hc
      refine ⟨⟨_, rfl, by omega, ad1, n - q, ?_, fun h => had1 (by omega)⟩, ⟨_, _, R2, hc, rfl⟩, gtrans (gset _ _ _ _) (gset _ _ _ _)⟩
      rw [e2]
    · cases hu

theorem rsFieldBad (F : Interp) {rb pb n p : Nat} {B : Nat → Int} {w : World} (hF : F.answers w.tape) (S : RS w rb pb n p false) (hP : PB w pb n B) (hn : n ≤ 65536) (hu : fld B n p = none) :
    Calls Tryf.prog 20 #[.pointer (some ⟨rb, 0, none⟩)] w fun r w' => r = .returned (.slice none 0 0) ∧ (∃ p', RS w' rb pb n p' true) ∧ w.grownBy w' (some rb) := by
  obtain ⟨v, er, R, ⟨hp, ad, rfl, had⟩, rfl⟩ := S
  unfold fld at hu
  split at hu
  · rename_i hq
    have C := binUvarint ad n (n - p) p B w hp hn (Rest.bts hP had)
    rw [hq] at C
    refine (fieldErr rb ad (n - p) w (by omega) (uvarintBad rb _ w R C)).mono ?_
    rintro r w' ⟨rfl, ⟨er, R', hE⟩, g⟩
    exact ⟨rfl, ⟨p, _, _, R', ⟨hp, ad, rfl, had⟩, hE⟩, g⟩
  · rename_i x q hq
    obtain ⟨h0, h1, h2, h3⟩ := uv_some hq
    split at hu
    · cases hu
    · rename_i hx
      have C := binUvarint ad n (n - p) p B w hp hn (Rest.bts hP had)
      rw [hq] at C
      have C1 := uvarintOk rb ad (n - p) (q - p) x w R.c0 R.c1 (R.fz 0) C (by omega) (by omega)
      have R1 := R.set0 (cutS ad (n - p) (q - p))
      obtain ⟨_, ad1, e1, had1⟩ := Rest.cut (q := q) had (by omega) h3
      rw [e1] at C1 R1
      refine (fieldPast F rb ad1 (n - q) x w _ (by exact hF) R1 C1 (by omega) (by omega)).mono ?_
      rintro r w' ⟨rfl, ⟨er, R', hE⟩, g⟩
      exact ⟨rfl, ⟨q, _, _, R', ⟨h3, ad1, rfl, had1⟩, hE⟩, gtrans (gset _ _ _ _) g⟩

theorem rsFieldErr {rb pb n p : Nat} {B : Nat → Int} {w : World} (S : RS w rb pb n p true) (hP : PB w pb n B) (hn : n ≤ 65536) :
    Calls Tryf.prog 20 #[.pointer (some ⟨rb, 0, none⟩)] w fun r w' => r = .returned (.slice none 0 0) ∧ (∃ p', RS w' rb pb n p' true) ∧ w.grownBy w' (some rb) := by
  have C := rsUvErr S hP hn
  obtain ⟨v, er, R, ⟨hp, ad, rfl, had⟩, ⟨t, y, rfl⟩⟩ := S
  have C0 := binUvarint ad n (n - p) p B w hp hn (Rest.bts hP had)
  have C' : Calls Tryf.prog 29 #[.slice ad (n - p) (n - p)] w fun e w' => (∃ x m : Int, e = .returned (.tuple #[.int .u64 x, .int .i64 m])) ∧ w' = w := by
    refine C0.mono ?_
    rintro e w' ⟨h, rfl⟩
    refine ⟨?_, rfl⟩
    unfold Uans at h
    split at h
    · obtain ⟨m, _, rfl⟩ := h
      exact ⟨_, _, rfl⟩
    · exact ⟨_, _, h⟩
  have C2 : Calls Tryf.prog 21 #[.pointer (some ⟨rb, 0, none⟩)] w fun e w' => e = .returned (.int .u64 0) ∧ (∃ er, RA w' rb (.slice ad (n - p) (n - p)) er ∧ IsErr er) ∧ w.grownBy w' (some rb) := by
    refine (uvarintErr rb _ t y w R C').mono ?_
    rintro e w' ⟨rfl, R', g⟩
    exact ⟨rfl, ⟨_, R', _, _, rfl⟩, g⟩
  refine (fieldErr rb ad (n - p) w (by omega) C2).mono ?_
  rintro r w' ⟨rfl, ⟨er, R', hE⟩, g⟩
  exact ⟨rfl, ⟨p, _, _, R', ⟨hp, ad, rfl, had⟩, hE⟩, g⟩

set_option maxHeartbeats 1000000 in
theorem kindOk (rb pb o L : Nat) (x : Int) (w : World) (R : RA w rb (.slice (some ⟨pb, o, none⟩) L L) .nilIface) (hx : w.cell? ⟨pb, o, none⟩ = some (.int .u8 x)) (hL : 0 < L) :
    Calls Tryf.prog 22 #[.pointer (some ⟨rb, 0, none⟩)] w fun r w' => r = .returned (.int .u8 x) ∧ w' = w.setCell ⟨rb, 0, none⟩ (cutS (some ⟨pb, o, none⟩) L 1) := by
  have h0 := R.c0
  have h1 := R.c1
  have f0 := R.fz 0
  have i0 : ((L : Int) == 0) = false := beq_eq_false_iff_ne.2 (by omega)
  have i1 : (0 : Int) < (L : Int) := by omega
  have i2 : (1 : Int) ≤ (L : Int) := by omega
  clear R
  unfold cutS
  go_enter Tryf.func22, Tryf.ntmps22
  go_wp2_with fail
  all_goals
    go_ret
    exact ⟨rfl, rfl⟩

set_option maxHeartbeats 1000000 in
theorem kindEnd (rb : Nat) (ad : Option Addr) (w : World) (R : RA w rb (.slice ad 0 0) .nilIface) :
    Calls Tryf.prog 22 #[.pointer (some ⟨rb, 0, none⟩)] w fun r w' => r = .returned (.int .u8 0) ∧ (∃ er, RA w' rb (.slice ad 0 0) er ∧ IsErr er) ∧ w.grownBy w' (some rb) := by
  have h0 := R.c0
  have h1 := R.c1
  have l := R.lt
  have HR := hide R
  clear R
  go_enter Tryf.func22, Tryf.ntmps22
  go_wp2_with (first | (go_at_call 30; refine (newErr _ _).mono ?_; rintro e w2 ⟨rfl, hb⟩; have R2 := hide ((unhide HR).below hb l)) | (go_at_call 24; refine (fail1 _ _ _ _ _ (unhide R2)).mono ?_; rintro e w3 ⟨rfl, R3, g3⟩; have q3 := R3.c1; have HR3 := hide R3; clear R3))
  go_ret
  exact ⟨rfl, ⟨_, unhide HR3, _, _, rfl⟩, gtrans (gbelow hb) g3⟩

theorem rsKind {rb pb n p : Nat} {B : Nat → Int} {w : World} (S : RS w rb pb n p false) (hP : PB w pb n B) (hp : p < n) :
    Calls Tryf.prog 22 #[.pointer (some ⟨rb, 0, none⟩)] w fun r w' => r = .returned (.int .u8 (B p)) ∧ RS w' rb pb n (p + 1) false ∧ w.grownBy w' (some rb) := by
  obtain ⟨v, er, R, ⟨_, ad, rfl, had⟩, rfl⟩ := S
  have e1 := had hp
  subst e1
  refine (kindOk rb pb p (n - p) (B p) w R (hP p hp) (by omega)).mono ?_
  rintro r w' ⟨rfl, rfl⟩
  have hc := Rest.cut (q := p + 1) had (by omega) (by omega)
  rw [show p + 1 - p = 1 by omega] at hc
  exact ⟨rfl, ⟨_, _, R.set0 _, hc, rfl⟩, gset _ _ _ _⟩

theorem rsKindEnd {rb pb n : Nat} {w : World} (S : RS w rb pb n n false) :
    Calls Tryf.prog 22 #[.pointer (some ⟨rb, 0, none⟩)] w fun r w' => r = .returned (.int .u8 0) ∧ RS w' rb pb n n true ∧ w.grownBy w' (some rb) := by
  obtain ⟨v, er, R, ⟨_, ad, rfl, had⟩, rfl⟩ := S
  rw [Nat.sub_self] at R
  refine (kindEnd rb ad w R).mono ?_
  rintro r w' ⟨rfl, ⟨er, R', hE⟩, g⟩
  exact ⟨rfl, ⟨_, _, R', ⟨Nat.le_refl _, ad, by rw [Nat.sub_self], had⟩, hE⟩, g⟩

/-! names -/
def nm (B : Nat → Int) (s e : Nat) : ByteArray := ((List.range (e - s)).map fun i => B (s + i)).foldl (fun r n => r.push (UInt8.ofNat n.toNat)) ByteArray.empty

theorem conv {w : World} {pb n s e : Nat} {B : Nat → Int} {v : Value} (hP : PB w pb n B) (he : e ≤ n) (h : Sub pb s e v) : (convert 22 9 v).run Tryf.prog w = .ok (.string (nm B s e)) w := by
  obtain ⟨hse, ad, c, rfl, had⟩ := h
  rw [run_convert_bytes_string w 22 9 5 ad (e - s) c Tryf.underlying22 Tryf.underlying5 Tryf.underlying9]
  by_cases hlt : s < e
  · rw [had hlt]
    refine run_bytesToString w ⟨pb, s, none⟩ (e - s) c ((List.range (e - s)).map fun i => B (s + i)) ?_
    rw [run_loadCells w ⟨pb, s, none⟩ (e - s) (fun j => .int .u8 (B (s + j))) (fun j hj => by rw [Go.WideShapes.add_plain]; exact hP (s + j) (by omega))]
    simp [List.map_map, Function.comp_def]
  · have e0 : e - s = 0 := by omega
    unfold nm
    rw [e0]
    cases ad with
    | none => simp [Conv.bytesToString]
    | some a =>
      have := run_bytesToString (P := Tryf.prog) w a 0 c [] (by simp [loadCells, loadCellsFrom])
      simpa using this
theorem conv_nil (w : World) : (convert 22 9 (.slice none 0 0)).run Tryf.prog w = .ok (.string ByteArray.empty) w := by
  rw [run_convert_bytes_string w 22 9 5 none 0 0 Tryf.underlying22 Tryf.underlying5 Tryf.underlying9]
  simp [Conv.bytesToString]
end Go.Proofs.Qxb6616086aFmt.Dw
