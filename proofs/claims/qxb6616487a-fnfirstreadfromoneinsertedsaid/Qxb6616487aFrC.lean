import Derived.Test.Qxb6616487aFrB
namespace Go.Proofs.Qxb6616487a.Fr
open Go.RowKit Go.Deep

/-- a's accesses, then b's -/
def jn (n : Nat) (f h : Nat → Acc) (i : Nat) : Acc := if i < n then f i else h (i - n)
theorem jn_left (n : Nat) (f h : Nat → Acc) (i : Nat) (hi : i < n) : f i = jn n f h i := by rw [jn, if_pos hi]
theorem jn_right (n : Nat) (f h : Nat → Acc) (i : Nat) : h i = jn n f h (n + i) := by rw [jn, if_neg (by omega), Nat.add_sub_cancel_left]
/-- the first k laid -/
def upto (k : Nat) (f : Nat → Acc) (i : Nat) : Acc := if i < k then f i else zeroAcc

theorem upto_step (k : Nat) (f : Nat → Acc) (i : Nat) : (if i = k then f k else upto k f i) = upto (k + 1) f i := by
  unfold upto
  by_cases h : i = k
  · subst h; simp
  · by_cases h2 : i < k
    · rw [if_neg h, if_pos h2, if_pos (by omega)]
    · rw [if_neg h, if_neg h2, if_neg (by omega)]

theorem Below.four {B : Nat} {a w : World} (h : Below B a w) {g : Nat} (hg : B ≤ g) (o0 o1 o2 o3 : Nat) (v0 v1 v2 v3 : Value) :
    Below B a ((((w.setCell ⟨g, o0, none⟩ v0).setCell ⟨g, o1, none⟩ v1).setCell ⟨g, o2, none⟩ v2).setCell ⟨g, o3, none⟩ v3) :=
  (((h.setCell hg _).setCell hg _).setCell hg _).setCell hg _

/-- behind the make and some rounds -/
structure Row (w wx : World) (g N : Nat) (f : Nat → Acc) : Prop where
  bel : Below w.heap.size w wx
  le : w.heap.size ≤ g
  lt : g < wx.heap.size
  row : rowAcc wx g N f

theorem Row.next {w wx w1 : World} {g N k : Nat} {f : Nat → Acc} (h : Row w wx g N (upto k f)) (hw : Below wx.heap.size wx w1) :
    Row w ((((w1.setCell ⟨g, k * 4, none⟩ (.int .i64 (f k).1)).setCell ⟨g, k * 4 + 1, none⟩ (.int .i64 (f k).2.1)).setCell ⟨g, k * 4 + 2, none⟩ (.int .i64 (f k).2.2.1)).setCell ⟨g, k * 4 + 3, none⟩ (.bool (f k).2.2.2)) g N (upto (k + 1) f) := by
  have hs := hw.size
  have hl := h.lt
  exact ⟨Below.four (h.bel.trans (hw.mono h.bel.size)) h.le _ _ _ _ _ _ _ _, h.le, by simp; omega, ((h.row.below hw hl).set k (f k)).congr (fun i _ => upto_step k f i)⟩

theorem Row.start {w w0 w1 : World} {base g N : Nat} {f : Nat → Acc} (hb : Below w.heap.size w w0) (hle : w.heap.size ≤ g) (h : w1.ownsRow base 84 4 (.slice (some ⟨g, 0, none⟩) N N) N (madeCells #[.int .i64 0, .int .i64 0, .int .i64 0, .bool false] (N * 4)).toList) (hg : w0.grownBy w1 none) :
    Row w w1 g N (upto 0 f) :=
  have hr := rowAcc.made h
  ⟨hb.grown hg hb.size (fun _ e => by cases e), hle, World.rowIs.lt hr, hr.congr (fun i _ => by simp [upto])⟩

theorem Row.quads {w wx : World} {g N : Nat} {f : Nat → Acc} (h : Row w wx g N f) : QuadsAt wx (some ⟨g, 0, none⟩) N f :=
  fun i hi => ⟨g, 0, rfl, h.lt, by simpa using h.row.accAt hi⟩

set_option maxHeartbeats 1000000 in
set_option maxRecDepth 100000 in
theorem join (a b : Option Addr) (n c m d : Nat) (f h : Nat → Acc) (w : World) (qa : QuadsAt w a n f) (qb : QuadsAt w b m h) (hn : n ≤ 1048576) (hm : m ≤ 1048576) :
    Calls Try.prog 17 #[.slice a n c, .slice b m d] w fun e w' => e = .returned (.slice (some ⟨w.heap.size, 0, none⟩) (n + m) (n + m)) ∧ Row w w' w.heap.size (n + m) (jn n f h) := by
  obtain ⟨i0, hi, hz0, hz1, hz2⟩ := info_parts info84
  go_enter Try.func17, Try.ntmps17
  go_wp2_with (at_make; refine wpList_make_full _ rfl (.tmp 12) (.tmp 12) 40 rfl w.heap.size 84 i0 _ 4 Try.underlying40 hi hz0 hz1 .i64 .i64 _ _ (n + m) rfl rfl ?c1 ?c2 ?c3 ?c4 ?c5 ?_)
  case c1 => omega
  case c2 => omega
  case c3 => rw [hz2]; omega
  case c4 => unfold maxLen; omega
  case c5 => exact Nat.le_refl _
  intro w1 hown hgrow
  have R := Row.start (f := jn n f h) (Below.refl _ _) (Nat.le_refl _) hown hgrow
  clear hown hgrow hz0 hz1 hz2 hi
  go_wp2
  go_loopw [6] (fun i wx => ∃ k : Nat, k ≤ n ∧ i = .int .i64 k ∧ Row w wx w.heap.size (n + m) (upto k (jn n f h))) (fun i _ => n - (intOf i).toNat)
  case atStart => exact ⟨0, Nat.zero_le _, rfl, R⟩
  case round =>
    clear R
    obtain ⟨k, hk, rfl, R⟩ := hrel
    by_cases hlt : k < n
    · obtain ⟨b', off, rfl, hl, hc⟩ := (qa.below R.bel) k hlt
      have ef := jn_left n f h k hlt
      rw [ef] at hc
      obtain ⟨c0, c1, c2, c3⟩ := hc
      have HA := hide qa
      clear qa ef
      go_wp2_with fail
      refine (accessOfX _ _).mono ?_
      rintro e w' ⟨rfl, hw⟩
      obtain ⟨d0, d1, d2, d3⟩ := (R.row.below hw R.lt).accAt (i := k) (by omega)
      have f0 := (R.row.below hw R.lt).frozen
      have N := R.next hw
      clear hw c0 c1 c2 c3
      have i1 : (k : Int) < (n : Int) + m := by omega
      go_wp2
      go_roundw
      case rel => exact ⟨k + 1, by omega, by go_num, N⟩
      case measure => simp [intOf]; omega
    · have hkn : n = k := by omega
      subst hkn
      clear hlt hk qa
      go_wp2
      go_loopw [7] (fun i wx => ∃ k : Nat, k ≤ m ∧ i = .int .i64 k ∧ Row w wx w.heap.size (n + m) (upto (n + k) (jn n f h))) (fun i _ => m - (intOf i).toNat)
      case atStart => exact ⟨0, Nat.zero_le _, rfl, R⟩
      case round =>
        clear R
        obtain ⟨k, hk, rfl, R⟩ := hrel
        by_cases hlt : k < m
        · obtain ⟨b', off, rfl, hl, hc⟩ := (qb.below R.bel) k hlt
          have ef := jn_right n f h k
          rw [ef] at hc
          obtain ⟨c0, c1, c2, c3⟩ := hc
          have HA := hide qb
          clear qb ef
          go_wp2_with fail
          refine (accessOfX _ _).mono ?_
          rintro e w' ⟨rfl, hw⟩
          obtain ⟨d0, d1, d2, d3⟩ := (R.row.below hw R.lt).accAt (i := n + k) (by omega)
          have f0 := (R.row.below hw R.lt).frozen
          have N := R.next hw
          clear hw c0 c1 c2 c3
          have i1 : (n : Int) + k < (n : Int) + m := by omega
          have i2 : ((n : Int) + k).toNat = n + k := by omega
          go_wp2
          go_roundw
          case rel => exact ⟨k + 1, by omega, by go_num, N⟩
          case measure => simp [intOf]; omega
        · have hkn : m = k := by omega
          subst hkn
          go_wp2
          go_ret
          exact ⟨rfl, R.bel, R.le, R.lt, R.row.congr (fun i hi => by simp [upto, hi])⟩

theorem accAt.block {w w' : World} {b o : Nat} {x : Acc} (h : accAt w b o x) (e : w'.heap[b]? = w.heap[b]?) : accAt w' b o x :=
  ⟨(World.cell?_of_block (a := ⟨b, o, none⟩) e).trans h.1, (World.cell?_of_block (a := ⟨b, o + 1, none⟩) e).trans h.2.1, (World.cell?_of_block (a := ⟨b, o + 2, none⟩) e).trans h.2.2.1, (World.cell?_of_block (a := ⟨b, o + 3, none⟩) e).trans h.2.2.2⟩

theorem accAt.four {w : World} {b o g : Nat} {x : Acc} (h : accAt w b o x) (hg : b ≠ g) (o0 o1 o2 o3 : Nat) (v0 v1 v2 v3 : Value) :
    accAt ((((w.setCell ⟨g, o0, none⟩ v0).setCell ⟨g, o1, none⟩ v1).setCell ⟨g, o2, none⟩ v2).setCell ⟨g, o3, none⟩ v3) b o x :=
  h.block (by rw [blk_setCell_other _ _ _ _ hg, blk_setCell_other _ _ _ _ hg, blk_setCell_other _ _ _ _ hg, blk_setCell_other _ _ _ _ hg])

/-- x put in at place q -/
def ins (q : Nat) (x : Acc) (f : Nat → Acc) (i : Nat) : Acc := if i < q then f i else if i = q then x else f (i - 1)

theorem ins_lo (q : Nat) (x : Acc) (f : Nat → Acc) (i : Nat) (h : i < q) : f i = ins q x f i := by rw [ins, if_pos h]
theorem ins_at (q : Nat) (x : Acc) (f : Nat → Acc) : x = ins q x f q := by rw [ins, if_neg (by omega), if_pos rfl]
theorem ins_hi (q : Nat) (x : Acc) (f : Nat → Acc) (i : Nat) (h : q ≤ i) : f i = ins q x f (i + 1) := by rw [ins, if_neg (by omega), if_neg (by omega), Nat.add_sub_cancel]

set_option maxHeartbeats 1000000 in
set_option maxRecDepth 100000 in
theorem insert (a : Option Addr) (n c q : Nat) (x : Acc) (f : Nat → Acc) (w : World) (qa : QuadsAt w a n f) (hn : n ≤ 1048576) (hq : q ≤ n) :
    Calls Try.prog 21 #[.slice a n c, av x, .int .i64 q] w fun e w' => e = .returned (.slice (some ⟨w.heap.size + 1, 0, none⟩) (n + 1) (n + 1)) ∧ Row w w' (w.heap.size + 1) (n + 1) (ins q x f) := by
  obtain ⟨i0, hi, hz0, hz1, hz2⟩ := info_parts info84
  go_enter Try.func21, Try.ntmps21
  go_wp2_with (at_make; refine wpList_make_full _ rfl (.tmp 12) (.tmp 12) 40 rfl (w.heap.size + 1) 84 i0 _ 4 Try.underlying40 hi hz0 hz1 .i64 .i64 _ _ (n + 1) rfl rfl ?c1 ?c2 ?c3 ?c4 ?c5 ?_)
  case c1 => omega
  case c2 => omega
  case c3 => rw [hz2]; omega
  case c4 => unfold maxLen; omega
  case c5 => simp
  intro w1 hown hgrow
  have R := Row.start (f := ins q x f) ((Below.refl w.heap.size w).alloc (Nat.le_refl _) _) (by omega) hown hgrow
  have X : accAt w1 w.heap.size 0 x := by
    have e := hgrow.block w.heap.size (by simp) (by simp)
    exact (show accAt _ w.heap.size 0 x from ⟨by simp, by simp, by simp, by simp⟩).block e
  clear hown hgrow hz0 hz1 hz2 hi
  go_wp2
  go_loopw [8] (fun i wx => ∃ k : Nat, k ≤ q ∧ i = .int .i64 k ∧ Row w wx (w.heap.size + 1) (n + 1) (upto k (ins q x f)) ∧ accAt wx w.heap.size 0 x) (fun i _ => q - (intOf i).toNat)
  case atStart => exact ⟨0, Nat.zero_le _, rfl, R, X⟩
  case round =>
    clear R X
    obtain ⟨k, hk, rfl, R, X⟩ := hrel
    by_cases hlt : k < q
    · obtain ⟨b', off, rfl, hl, hc⟩ := (qa.below R.bel) k (by omega)
      have ef := ins_lo q x f k hlt
      rw [ef] at hc
      obtain ⟨c0, c1, c2, c3⟩ := hc
      have HA := hide qa
      clear qa ef
      have i0 : (k : Int) < (n : Int) := by omega
      go_wp2_with fail
      refine (accessOfX _ _).mono ?_
      rintro e w' ⟨rfl, hw⟩
      have X' := (X.below hw (by have := R.lt; omega)).four (g := w.heap.size + 1) (by omega)
      obtain ⟨d0, d1, d2, d3⟩ := (R.row.below hw R.lt).accAt (i := k) (by omega)
      have f0 := (R.row.below hw R.lt).frozen
      have N := R.next hw
      clear hw c0 c1 c2 c3
      have i1 : (k : Int) < (n : Int) + 1 := by omega
      go_wp2
      go_roundw
      case rel => exact ⟨k + 1, by omega, by go_num, N, X' _ _ _ _ _ _ _ _⟩
      case measure => simp [intOf]; omega
    · have hkn : q = k := by omega
      subst hkn
      clear hlt hk
      have HA := hide qa
      clear qa
      have ef := ins_at q x f
      have X2 := X
      rw [ef] at X2
      obtain ⟨x0, x1, x2, x3⟩ := X2
      clear ef
      go_wp2_with fail
      refine (accessOfX (ins q x f q) _).mono ?_
      rintro e w' ⟨rfl, hw⟩
      obtain ⟨d0, d1, d2, d3⟩ := (R.row.below hw R.lt).accAt (i := q) (by omega)
      have f0 := (R.row.below hw R.lt).frozen
      have R2 := R.next hw
      clear hw x0 x1 x2 x3 X R
      have i1 : (q : Int) < (n : Int) + 1 := by omega
      go_wp2
      go_loopw [9] (fun i wx => ∃ k : Nat, q ≤ k ∧ k ≤ n ∧ i = .int .i64 k ∧ Row w wx (w.heap.size + 1) (n + 1) (upto (k + 1) (ins q x f))) (fun i _ => n - (intOf i).toNat)
      case atStart => exact ⟨q, Nat.le_refl _, hq, rfl, R2⟩
      case round =>
        clear R2
        obtain ⟨k, hqk, hk, rfl, R⟩ := hrel
        by_cases hlt : k < n
        · obtain ⟨b', off, rfl, hl, hc⟩ := ((unhide HA).below R.bel) k hlt
          have ef := ins_hi q x f k hqk
          rw [ef] at hc
          obtain ⟨c0, c1, c2, c3⟩ := hc
          clear ef
          go_wp2_with fail
          refine (accessOfX _ _).mono ?_
          rintro e w' ⟨rfl, hw⟩
          obtain ⟨d0, d1, d2, d3⟩ := (R.row.below hw R.lt).accAt (i := k + 1) (by omega)
          have f0 := (R.row.below hw R.lt).frozen
          have N := R.next hw
          clear hw c0 c1 c2 c3
          have i2 : (k : Int) + 1 < (n : Int) + 1 := by omega
          have i3 : ((k : Int) + 1).toNat = k + 1 := by omega
          go_wp2
          go_roundw
          case rel => exact ⟨k + 1, by omega, by omega, by go_num, N⟩
          case measure => simp [intOf]; omega
        · have hkn : n = k := by omega
          subst hkn
          go_wp2
          go_ret
          exact ⟨rfl, R.bel, R.le, R.lt, R.row.congr (fun i hi => by simp [upto, hi])⟩
end Go.Proofs.Qxb6616487a.Fr
