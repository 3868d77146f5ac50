import Derived.Test.Qxb6616086aFmtDwC
namespace Go.Proofs.Qxb6616086aFmt.Dw
open Go.RowKit Go.Deep Go.Extern.Stop Go.Stop Go.Extern
set_option linter.unusedVariables false

theorem gtrans {a b c : World} {r : Option Nat} (h : a.grownBy b r) (k : b.grownBy c r) : a.grownBy c r :=
  ⟨k.os.trans h.os, k.tape.trans h.tape, k.output.trans h.output, Nat.le_trans h.size k.size, fun i hi hr => (k.block i (Nat.lt_of_lt_of_le hi h.size) hr).trans (h.block i hi hr)⟩
theorem gset (w : World) (rb o : Nat) (v : Value) : w.grownBy (w.setCell ⟨rb, o, none⟩ v) (some rb) := ⟨rfl, rfl, rfl, by simp, fun k _ h => Below.heap_setCell w _ v k (fun e => h (by rw [e]))⟩
theorem galloc (w : World) (o : Obj) (r : Option Nat) : w.grownBy (w.alloc o) r := World.grownBy_alloc w o r
theorem gbelow {a b : World} {r : Option Nat} (h : Below a.heap.size a b) : a.grownBy b r := ⟨h.os, h.tape, h.output, h.size, fun k hk _ => h.block k hk⟩
theorem grefl (a : World) (r : Option Nat) : a.grownBy a r := ⟨rfl, rfl, rfl, Nat.le_refl _, fun _ _ _ => rfl⟩
theorem gto {a b : World} {rb B : Nat} (h : a.grownBy b (some rb)) (hB : B ≤ rb) (hs : B ≤ a.heap.size) : Below B a b := ⟨h.os, h.tape, h.output, h.size, fun k hk => h.block k (by omega) (fun e => by cases e; omega)⟩

/-- the reader's two cells -/
def RA (w : World) (rb : Nat) (v er : Value) : Prop := w.heap[rb]? = some (.cells #[v, er] 63 (0, 0))
section
variable {w : World} {rb : Nat} {v er : Value}
theorem RA.c0 (h : RA w rb v er) : w.cell? ⟨rb, 0, none⟩ = some v := by unfold RA at h; simp [World.cell?, h]
theorem RA.c1 (h : RA w rb v er) : w.cell? ⟨rb, 1, none⟩ = some er := by unfold RA at h; simp [World.cell?, h]
theorem RA.fz (h : RA w rb v er) (o : Nat) : w.frozen? ⟨rb, o, none⟩ = false := by unfold RA at h; simp [World.frozen?, h]
theorem RA.lt (h : RA w rb v er) : rb < w.heap.size := (Array.getElem?_eq_some_iff.1 h).1
theorem RA.set0 (h : RA w rb v er) (u : Value) : RA (w.setCell ⟨rb, 0, none⟩ u) rb u er := by
  unfold RA at *
  simp [World.setCell, Array.getElem?_modify, h]
theorem RA.set1 (h : RA w rb v er) (u : Value) : RA (w.setCell ⟨rb, 1, none⟩ u) rb v u := by
  unfold RA at *
  simp [World.setCell, Array.getElem?_modify, h]
theorem RA.alloc (h : RA w rb v er) (o : Obj) : RA (w.alloc o) rb v er := (Below.heap_alloc _ _ _ h.lt).trans h
theorem RA.below {w' : World} {B : Nat} (h : RA w rb v er) (hb : Below B w w') (hB : rb < B) : RA w' rb v er := (hb.block _ hB).trans h
end

def cutS (ad : Option Addr) (L m : Nat) : Value := .slice (if L = m then ad else ad.map (·.add m)) (L - m) (L - m)

set_option maxHeartbeats 1000000 in
theorem uvarintOk (rb : Nat) (ad : Option Addr) (L m : Nat) (x : Int) (w : World) (h0 : w.cell? ⟨rb, 0, none⟩ = some (.slice ad L L)) (h1 : w.cell? ⟨rb, 1, none⟩ = some .nilIface) (f0 : w.frozen? ⟨rb, 0, none⟩ = false)
    (C : Hid (Calls Tryf.prog 29 #[.slice ad L L] w fun e w' => e = .returned (.tuple #[.int .u64 x, .int .i64 (m : Int)]) ∧ w' = w)) (hm : 0 < m) (hmL : m ≤ L) :
    Calls Tryf.prog 21 #[.pointer (some ⟨rb, 0, none⟩)] w fun e w' => e = .returned (.int .u64 x) ∧ w' = w.setCell ⟨rb, 0, none⟩ (cutS ad L m) := by
  have i0 : ¬ (m : Int) ≤ 0 := by omega
  have i1 : (0 : Int) ≤ (m : Int) := by omega
  have i2 : (m : Int) ≤ (L : Int) := by omega
  unfold cutS
  go_enter Tryf.func21, Tryf.ntmps21
  go_wp2_with (go_at_call 29; refine (unhide C).mono ?_; rintro e w' ⟨rfl, hw⟩; subst hw)
  all_goals
    go_ret
    exact ⟨rfl, rfl⟩

theorem newErr (s : ByteArray) (w : World) :
    Calls Tryf.prog 30 #[.string s] w fun e w' => e = .returned (.iface 83 (.pointer (some ⟨w.heap.size, 0, none⟩))) ∧ Below w.heap.size w w' := by
  refine (errorsNew s w).mono ?_
  rintro e w' ⟨rfl, rfl⟩
  exact ⟨rfl, (Below.refl _ _).alloc (Nat.le_refl _) _⟩

theorem fail1 (rb : Nat) (v : Value) (t : TypeId) (x : Value) (w : World) (R : RA w rb v .nilIface) :
    Calls Tryf.prog 24 #[.pointer (some ⟨rb, 0, none⟩), .iface t x] w fun e w' => e = .returned (.tuple #[]) ∧ RA w' rb v (.iface t x) ∧ w.grownBy w' (some rb) := by
  refine (failFirst rb t x w R.c1 (R.fz 1)).mono ?_
  rintro e w' ⟨rfl, rfl⟩
  exact ⟨rfl, R.set1 _, gset _ _ _ _⟩

set_option maxHeartbeats 1000000 in
theorem uvarintBad (rb : Nat) (v : Value) (w : World) (R : RA w rb v .nilIface)
    (C : Hid (Calls Tryf.prog 29 #[v] w fun e w' => (∃ m : Int, m ≤ 0 ∧ e = .returned (.tuple #[.int .u64 0, .int .i64 m])) ∧ w' = w)) :
    Calls Tryf.prog 21 #[.pointer (some ⟨rb, 0, none⟩)] w fun e w' => e = .returned (.int .u64 0) ∧ (∃ er, RA w' rb v er ∧ IsErr er) ∧ w.grownBy w' (some rb) := by
  have h0 := R.c0
  have h1 := R.c1
  have l := R.lt
  have HR := hide R
  clear R
  go_enter Tryf.func21, Tryf.ntmps21
  go_wp2_with (first | (go_at_call 29; refine (unhide C).mono ?_; rintro e w' ⟨⟨m, hm, rfl⟩, hw⟩; subst hw) | (go_at_call 30; refine (newErr _ _).mono ?_; rintro e w2 ⟨rfl, hb⟩; have R2 := hide ((unhide HR).below hb l)) | (go_at_call 24; refine (fail1 _ _ _ _ _ (unhide R2)).mono ?_; rintro e w3 ⟨rfl, R3, g3⟩; have q3 := R3.c1; have HR3 := hide R3; clear R3))
  go_ret
  exact ⟨rfl, ⟨_, unhide HR3, _, _, rfl⟩, gtrans (gbelow hb) g3⟩

set_option maxHeartbeats 1000000 in
/-- with an error set: nothing is read -/
theorem uvarintErr (rb : Nat) (v : Value) (t : TypeId) (y : Value) (w : World) (R : RA w rb v (.iface t y))
    (C : Hid (Calls Tryf.prog 29 #[v] w fun e w' => (∃ x m : Int, e = .returned (.tuple #[.int .u64 x, .int .i64 m])) ∧ w' = w)) :
    Calls Tryf.prog 21 #[.pointer (some ⟨rb, 0, none⟩)] w fun e w' => e = .returned (.int .u64 0) ∧ RA w' rb v (.iface t y) ∧ w.grownBy w' (some rb) := by
  have h0 := R.c0
  have h1 := R.c1
  have l := R.lt
  have HR := hide R
  clear R
  go_enter Tryf.func21, Tryf.ntmps21
  go_wp2_with fail
  refine (unhide C).mono ?_
  rintro e w' ⟨⟨x, m, rfl⟩, hw⟩
  subst hw
  by_cases hm : m ≤ 0
  · go_wp2_with (first | (go_at_call 30; refine (newErr _ _).mono ?_; rintro e w2 ⟨rfl, hb⟩; have R2 := (unhide HR).below hb l; have q3 := R2.c1; have HR2 := hide R2; clear R2) | (go_at_call 24; refine (failAgain _ _ _ _ _ q3).mono ?_; rintro e w3 ⟨rfl, hw3⟩; subst hw3))
    go_ret
    exact ⟨rfl, unhide HR2, gbelow hb⟩
  · go_wp2_with fail
    go_ret
    exact ⟨rfl, unhide HR, grefl _ _⟩

/-! the reader at a position -/
def Rest (pb n p : Nat) (v : Value) : Prop := p ≤ n ∧ ∃ ad, v = .slice ad (n - p) (n - p) ∧ (p < n → ad = some ⟨pb, p, none⟩)
def PB (w : World) (pb n : Nat) (B : Nat → Int) : Prop := ∀ i, i < n → w.cell? ⟨pb, i, none⟩ = some (.int .u8 (B i))
def Er (bad : Bool) (er : Value) : Prop := if bad then IsErr er else er = .nilIface
/-- the reader stands at p; bad: an error is set -/
def RS (w : World) (rb pb n p : Nat) (bad : Bool) : Prop := ∃ v er, RA w rb v er ∧ Rest pb n p v ∧ Er bad er

theorem Rest.bts {w : World} {pb n p : Nat} {B : Nat → Int} (hP : PB w pb n B) {ad : Option Addr} (h : p < n → ad = some ⟨pb, p, none⟩) : Bts w ad (n - p) (fun i => B (p + i)) :=
  fun i hi => ⟨pb, p, h (by omega), hP (p + i) (by omega)⟩
theorem Rest.cut {pb n p q : Nat} {ad : Option Addr} (h : p < n → ad = some ⟨pb, p, none⟩) (hp : p ≤ q) (hq : q ≤ n) : Rest pb n q (cutS ad (n - p) (q - p)) := by
  refine ⟨hq, (if n - p = q - p then ad else ad.map (·.add (q - p))), ?_, ?_⟩
  · unfold cutS
    rw [show n - p - (q - p) = n - q by omega]
  · intro hqn
    rw [if_neg (by omega), h (by omega)]
    simp only [Option.map_some, Addr.add]
    rw [show p + (q - p) = q by omega]
    by_cases hz : q - p = 0
    · rw [if_pos hz, show p = q by omega]
    · rw [if_neg hz]

theorem rsUv {rb pb n p q : Nat} {B : Nat → Int} {x : Int} {w : World} (S : RS w rb pb n p false) (hP : PB w pb n B) (hn : n ≤ 65536) (hu : uv B n p = some (x, q)) :
    Calls Tryf.prog 21 #[.pointer (some ⟨rb, 0, none⟩)] w fun e w' => e = .returned (.int .u64 x) ∧ RS w' rb pb n q false ∧ w.grownBy w' (some rb) := by
  obtain ⟨v, er, R, ⟨hp, ad, rfl, had⟩, rfl⟩ := S
  obtain ⟨_, _, h2, h3⟩ := uv_some hu
  have C := binUvarint ad n (n - p) p B w hp hn (Rest.bts hP had)
  rw [hu] at C
  refine (uvarintOk rb ad (n - p) (q - p) x w R.c0 R.c1 (R.fz 0) C (by omega) (by omega)).mono ?_
  rintro e w' ⟨rfl, rfl⟩
  exact ⟨rfl, ⟨_, _, R.set0 _, Rest.cut had (by omega) h3, rfl⟩, gset _ _ _ _⟩

theorem rsUvBad {rb pb n p : Nat} {B : Nat → Int} {w : World} (S : RS w rb pb n p false) (hP : PB w pb n B) (hn : n ≤ 65536) (hu : uv B n p = none) :
    Calls Tryf.prog 21 #[.pointer (some ⟨rb, 0, none⟩)] w fun e w' => e = .returned (.int .u64 0) ∧ RS w' rb pb n p true ∧ w.grownBy w' (some rb) := by
  obtain ⟨v, er, R, ⟨hp, ad, rfl, had⟩, rfl⟩ := S
  have C := binUvarint ad n (n - p) p B w hp hn (Rest.bts hP had)
  rw [hu] at C
  refine (uvarintBad rb _ w R C).mono ?_
  rintro e w' ⟨rfl, ⟨er, R', hE⟩, g⟩
  exact ⟨rfl, ⟨_, _, R', ⟨hp, ad, rfl, had⟩, hE⟩, g⟩

theorem rsUvErr {rb pb n p : Nat} {B : Nat → Int} {w : World} (S : RS w rb pb n p true) (hP : PB w pb n B) (hn : n ≤ 65536) :
    Calls Tryf.prog 21 #[.pointer (some ⟨rb, 0, none⟩)] w fun e w' => e = .returned (.int .u64 0) ∧ RS w' rb pb n p true ∧ w.grownBy w' (some rb) := by
  obtain ⟨v, er, R, ⟨hp, ad, rfl, had⟩, ⟨t, y, rfl⟩⟩ := S
  have C := binUvarint ad n (n - p) p B w hp hn (Rest.bts hP had)
  have C' : Calls Tryf.prog 29 #[.slice ad (n - p) (n - p)] w fun e w' => (∃ x m : Int, e = .returned (.tuple #[.int .u64 x, .int .i64 m])) ∧ w' = w := by
    refine C.mono ?_
    rintro e w' ⟨h, rfl⟩
    refine ⟨?_, rfl⟩
    unfold Uans at h
    split at h
    · obtain ⟨m, _, rfl⟩ := h
      exact ⟨_, _, rfl⟩
    · exact ⟨_, _, h⟩
  refine (uvarintErr rb _ t y w R C').mono ?_
  rintro e w' ⟨rfl, R', g⟩
  exact ⟨rfl, ⟨_, _, R', ⟨hp, ad, rfl, had⟩, ⟨_, _, rfl⟩⟩, g⟩
end Go.Proofs.Qxb6616086aFmt.Dw
