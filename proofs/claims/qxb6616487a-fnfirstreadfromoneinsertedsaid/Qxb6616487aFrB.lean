import Derived.Test.Qxb6616487aFrA
namespace Go.Proofs.Qxb6616487a.Fr
open Go.RowKit Go.Deep

/-- the four cells of an access -/
def accAt (w : World) (b o : Nat) (x : Acc) : Prop :=
  w.cell? ⟨b, o, none⟩ = some (.int .i64 x.1) ∧ w.cell? ⟨b, o + 1, none⟩ = some (.int .i64 x.2.1) ∧ w.cell? ⟨b, o + 2, none⟩ = some (.int .i64 x.2.2.1) ∧ w.cell? ⟨b, o + 3, none⟩ = some (.bool x.2.2.2)

/-- what a slice of four-field structs holds -/
def QuadsAt (w : World) (a : Option Addr) (n : Nat) (f : Nat → Acc) : Prop :=
  ∀ i, i < n → ∃ b off, a = some ⟨b, off, none⟩ ∧ b < w.heap.size ∧ accAt w b (off + i * 4) (f i)

theorem accAt.below {w w' : World} {B b o : Nat} {x : Acc} (h : accAt w b o x) (hb : Below B w w') (hl : b < B) : accAt w' b o x :=
  ⟨(hb.cell (p := ⟨b, o, none⟩) hl).trans h.1, (hb.cell (p := ⟨b, o + 1, none⟩) hl).trans h.2.1, (hb.cell (p := ⟨b, o + 2, none⟩) hl).trans h.2.2.1, (hb.cell (p := ⟨b, o + 3, none⟩) hl).trans h.2.2.2⟩

theorem QuadsAt.below {w w' : World} {a : Option Addr} {n : Nat} {f : Nat → Acc} (h : QuadsAt w a n f) (hb : Below w.heap.size w w') : QuadsAt w' a n f := by
  intro i hi
  obtain ⟨b, off, e, hl, hc⟩ := h i hi
  exact ⟨b, off, e, Nat.lt_of_lt_of_le hl hb.size, hc.below hb hl⟩

theorem QuadsAt.nil (w : World) (a : Option Addr) (f : Nat → Acc) : QuadsAt w a 0 f := fun i hi => absurd hi (Nat.not_lt_zero i)

set_option maxHeartbeats 400000 in
theorem hasRead (a : Option Addr) (n c : Nat) (f : Nat → Acc) (wn : Int) (w : World) (h : QuadsAt w a n f) (hn : n ≤ 1048576) :
    Calls Try.prog 15 #[.slice a n c, .int .i64 wn] w fun e w' => ∃ r : Bool, e = .returned (.bool r) ∧ (r = true ↔ ∃ i, i < n ∧ rd (f i) wn = true) ∧ Below w.heap.size w w' := by
  go_enter Try.func15, Try.ntmps15
  go_wp2
  go_loopw [5] (fun i wx => ∃ k : Nat, k ≤ n ∧ i = .int .i64 k ∧ (∀ j, j < k → rd (f j) wn = false) ∧ Below w.heap.size w wx) (fun i _ => n - (intOf i).toNat)
  case atStart => exact ⟨0, Nat.zero_le _, rfl, fun j hj => absurd hj (Nat.not_lt_zero j), Below.refl _ _⟩
  case round =>
    obtain ⟨k, hk, rfl, hx, hb⟩ := hrel
    have Hx := hide hx
    clear hx
    by_cases hlt : k < n
    · obtain ⟨b, off, rfl, hl, hc⟩ := (h.below hb) k hlt
      obtain ⟨c0, c1, c2, c3⟩ := hc
      have HC := hide h
      clear h
      cases hrd : rd (f k) wn
      · go_wp2_with (go_at_call 19; refine (isReadX _ _ _).mono ?_; rintro e w' ⟨rfl, hw⟩)
        go_roundw
        case rel =>
          rename_i hw
          exact ⟨k + 1, by omega, by go_num, fun j hj => by rcases Nat.lt_succ_iff_lt_or_eq.1 hj with h | rfl; exact unhide Hx j h; exact hrd, hb.trans (hw.mono hb.size)⟩
        case measure => simp [intOf]; omega
      · go_wp2_with (go_at_call 19; refine (isReadX _ _ _).mono ?_; rintro e w' ⟨rfl, hw⟩)
        rename_i hw
        go_ret
        exact ⟨true, rfl, ⟨fun _ => ⟨k, hlt, hrd⟩, fun _ => rfl⟩, hb.trans (hw.mono hb.size)⟩
    · have hkn : n = k := by omega
      subst hkn
      clear hlt
      go_wp2
      go_ret
      refine ⟨false, rfl, ⟨fun h => absurd h (by simp), ?_⟩, hb⟩
      rintro ⟨i, hi, hr⟩
      rw [unhide Hx i hi] at hr
      exact hr

/-- the cells of a row of accesses -/
def accCell (x : Acc) (j : Nat) : Value := match j with | 0 => .int .i64 x.1 | 1 => .int .i64 x.2.1 | 2 => .int .i64 x.2.2.1 | _ => .bool x.2.2.2
def zeroAcc : Acc := (0, 0, 0, false)
theorem info84 : (Try.prog.info? 84).map (fun i => (i.zero, i.size, i.bytes)) = some (some (.agg #[.int .i64 0, .int .i64 0, .int .i64 0, .bool false]), 4, 32) := by kernel_rfl

/-- a row of accesses of the call's own -/
def rowAcc (w : World) (g n : Nat) (f : Nat → Acc) : Prop := w.rowIs g 84 (n * 4) (fun t => accCell (f (t / 4)) (t % 4))

theorem rowAcc.accAt {w : World} {g n : Nat} {f : Nat → Acc} (h : rowAcc w g n f) {i : Nat} (hi : i < n) : accAt w g (i * 4) (f i) := by
  have e : ∀ j, j < 4 → w.cell? ⟨g, i * 4 + j, none⟩ = some (accCell (f i) j) := by
    intro j hj
    have := World.rowIs.cell h (i := i * 4 + j) (by omega)
    rw [this]
    rw [show (i * 4 + j) / 4 = i by omega, show (i * 4 + j) % 4 = j by omega]
  exact ⟨e 0 (by omega), e 1 (by omega), e 2 (by omega), e 3 (by omega)⟩

theorem rowAcc.congr {w : World} {g n : Nat} {f f' : Nat → Acc} (h : rowAcc w g n f) (e : ∀ i, i < n → f i = f' i) : rowAcc w g n f' :=
  World.rowIs.congr h (fun t ht => by rw [e (t / 4) (by omega)])

theorem rowAcc.set {w : World} {g n : Nat} {f : Nat → Acc} (h : rowAcc w g n f) (k : Nat) (x : Acc) :
    rowAcc ((((w.setCell ⟨g, k * 4, none⟩ (.int .i64 x.1)).setCell ⟨g, k * 4 + 1, none⟩ (.int .i64 x.2.1)).setCell ⟨g, k * 4 + 2, none⟩ (.int .i64 x.2.2.1)).setCell ⟨g, k * 4 + 3, none⟩ (.bool x.2.2.2)) g n (fun i => if i = k then x else f i) := by
  refine World.rowIs.congr ((((World.rowIs.set h (k * 4) _).set (k * 4 + 1) _).set (k * 4 + 2) _).set (k * 4 + 3) _) (fun t ht => ?_)
  by_cases e : t / 4 = k
  · have hm : t = k * 4 + t % 4 := by omega
    have hlt : t % 4 < 4 := Nat.mod_lt _ (by omega)
    simp only [e, if_true]
    generalize t % 4 = j at hm hlt
    subst hm
    match j, hlt with
    | 0, _ => simp [accCell]
    | 1, _ => simp [accCell]
    | 2, _ => simp [accCell]
    | 3, _ => simp [accCell]
  · simp only [e, if_false]
    rw [if_neg (by omega), if_neg (by omega), if_neg (by omega), if_neg (by omega)]

theorem rowAcc.frozen {w : World} {g n : Nat} {f : Nat → Acc} (h : rowAcc w g n f) (j : Nat) : w.frozen? ⟨g, j, none⟩ = false := World.rowIs.frozen h j

theorem rowAcc.below {w w' : World} {g n B : Nat} {f : Nat → Acc} (h : rowAcc w g n f) (hb : Below B w w') (hl : g < B) : rowAcc w' g n f := World.rowIs.of_block h (hb.block g hl)

theorem rowAcc.made {w : World} {base g n : Nat} (h : w.ownsRow base 84 4 (.slice (some ⟨g, 0, none⟩) n n) n (madeCells #[.int .i64 0, .int .i64 0, .int .i64 0, .bool false] (n * 4)).toList) : rowAcc w g n (fun _ => zeroAcc) := by
  rcases h.2 with ⟨h0, _⟩ | ⟨g', cap', cur, e, _, hb, _, _, hs, ht⟩
  · cases h0
  · cases e
    have e2 : cur = madeCells #[.int .i64 0, .int .i64 0, .int .i64 0, .bool false] (n * 4) := by
      apply Array.ext'
      rw [← ht, List.take_of_length_le (by simp [hs])]
    refine ⟨cur, hb, hs, fun i hi => ?_⟩
    rw [e2]
    have hlt : i % 4 < 4 := Nat.mod_lt _ (by omega)
    simp [madeCells, hi]
    generalize i % 4 = j at hlt
    match j, hlt with
    | 0, _ => simp [accCell, zeroAcc]
    | 1, _ => simp [accCell, zeroAcc]
    | 2, _ => simp [accCell, zeroAcc]
    | 3, _ => simp [accCell, zeroAcc]
end Go.Proofs.Qxb6616487a.Fr
