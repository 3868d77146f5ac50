import Derived.Test.Qxb6616487aVrF
namespace Go.Proofs.Qxb6616487a.Vr
open Go.RowKit Go.Deep
set_option linter.unusedVariables false

set_option maxHeartbeats 400000 in
theorem versionTs (x : Nat) (r t : Int) (w : World) (hx : x < w.heap.size) (h : w.cell? ⟨x, 1, none⟩ = some (.int .i64 t)) :
    Calls Try.prog 42 #[.agg #[.pointer (some ⟨x, 0, none⟩), .int .i64 r]] w fun e w' => e = .returned (.int .i64 t) ∧ w' = w.alloc (.cells #[.pointer (some ⟨x, 0, none⟩), .int .i64 r] 93) := by
  go_enter Try.func42, Try.ntmps42
  go_wp2
  go_ret
  exact ⟨rfl, rfl⟩

set_option maxHeartbeats 400000 in
theorem versionRts (x : Nat) (r : Int) (w : World) :
    Calls Try.prog 43 #[.agg #[.pointer (some ⟨x, 0, none⟩), .int .i64 r]] w fun e w' => e = .returned (.int .i64 r) ∧ w' = w.alloc (.cells #[.pointer (some ⟨x, 0, none⟩), .int .i64 r] 93) := by
  go_enter Try.func43, Try.ntmps43
  go_wp2
  go_ret
  exact ⟨rfl, rfl⟩

theorem info83 : (Try.prog.info? 83).isSome = true := by kernel_rfl
theorem neq38 (a : Addr) (w : World) : (binOp .neq 38 (.pointer (some a)) (.pointer (some a))).run Try.prog w = .ok (.bool false) w := by
  obtain ⟨j, hj⟩ := Option.isSome_iff_exists.1 info83
  exact run_neq_ptr_same w a Try.underlying38 hj

/-- how many versions stand ahead of block n -/
def off (L : Nat → Nat) : Nat → Nat
  | 0 => 0
  | n + 1 => off L n + L n

theorem off_le {L : Nat → Nat} {i j : Nat} (h : i ≤ j) : off L i ≤ off L j := by
  induction j with
  | zero => rw [Nat.le_zero.1 h]; exact Nat.le_refl _
  | succ j ih =>
    rcases Nat.lt_or_eq_of_le h with e | e
    · have := ih (by omega); simp only [off]; omega
    · rw [e]; exact Nat.le_refl _

theorem off_lt {L : Nat → Nat} {i j k l : Nat} (h : i < j) (hk : k < L i) : off L i + k < off L j + l := by
  have h1 := off_le (L := L) (show i + 1 ≤ j from h)
  simp only [off] at h1
  omega

theorem off_inj {L : Nat → Nat} {i j k l : Nat} (hk : k < L i) (hl : l < L j) (h : off L i + k = off L j + l) : i = j ∧ k = l := by
  rcases Nat.lt_trichotomy i j with e | e | e
  · have := off_lt (l := l) e hk; omega
  · subst e; exact ⟨rfl, by omega⟩
  · have := off_lt (l := k) e hl; omega

/-- the writers' rows -/
structure Wrs (w : World) (wB : Nat) (N : Nat) (L : Nat → Nat) (W : Nat → Nat) (X : Nat → Nat → Nat) : Prop where
  row : ∀ i, i < N → w.cell? ⟨wB, i, none⟩ = some (.slice (some ⟨W i, 0, none⟩) (L i) (L i))
  el : ∀ i k, i < N → k < L i → w.cell? ⟨W i, k, none⟩ = some (.pointer (some ⟨X i k, 0, none⟩))
  lo : wB < w.heap.size
  lW : ∀ i, i < N → W i < w.heap.size

theorem Wrs.below {w w' : World} {wB N : Nat} {L W : Nat → Nat} {X : Nat → Nat → Nat} (h : Wrs w wB N L W X) (hb : Below w.heap.size w w') : Wrs w' wB N L W X where
  row i hi := (hb.cell (p := ⟨wB, i, none⟩) h.lo).trans (h.row i hi)
  el i k hi hk := (hb.cell (p := ⟨W i, k, none⟩) (h.lW i hi)).trans (h.el i k hi hk)
  lo := Nat.lt_of_lt_of_le h.lo hb.size
  lW i hi := Nat.lt_of_lt_of_le (h.lW i hi) hb.size

/-- how many of block bi are kept; of its first k -/
def kc (rb ri bi k : Nat) : Nat := if bi = rb ∧ ri < k then k - 1 else k

theorem kc_hit (rb ri : Nat) : kc rb ri rb (ri + 1) = kc rb ri rb ri := by unfold kc; rw [if_pos ⟨rfl, by omega⟩, if_neg (by omega)]; omega
theorem kc_miss {rb ri bi k : Nat} (h : ¬ (bi = rb ∧ k = ri)) : kc rb ri bi (k + 1) = kc rb ri bi k + 1 := by
  unfold kc
  by_cases h1 : bi = rb ∧ ri < k
  · rw [if_pos h1, if_pos ⟨h1.1, by omega⟩]; omega
  · rw [if_neg h1, if_neg (fun e => h1 ⟨e.1, by have := e.2; have : k ≠ ri := fun e' => h ⟨e.1, e'⟩; omega⟩)]
theorem kc_le (rb ri bi k : Nat) : kc rb ri bi k ≤ k := by unfold kc; split <;> omega

/-- D' is D with version (rb, ri) struck out: ef tells where block bi went -/
structure Match (D D' : VD) (rb ri : Nat) (ef : Nat → Nat) : Prop where
  e0 : ef 0 = 0
  es : ∀ bi, bi < D.N → ef (bi + 1) = if kc rb ri bi (D.L bi) = 0 then ef bi else ef bi + 1
  eN : ef D.N = D'.N
  le : ∀ bi, bi < D.N → kc rb ri bi (D.L bi) ≠ 0 → ef bi < D'.N ∧ D'.L (ef bi) = kc rb ri bi (D.L bi)
  el : ∀ bi k, bi < D.N → k < D.L bi → ¬ (bi = rb ∧ k = ri) → kc rb ri bi k < kc rb ri bi (D.L bi) ∧ D'.X (ef bi) (kc rb ri bi k) = D.X bi k ∧ D'.R (ef bi) (kc rb ri bi k) = D.R bi k ∧ D'.T (ef bi) (kc rb ri bi k) = D.T bi k

attribute [local go_sem ↓] Go.wp_at_zero Go.wp_at_succ

set_option maxHeartbeats 1600000 in
set_option maxRecDepth 1000000 in
theorem agrees (ob oc wB rb ri : Nat) (a : Option Addr) (c : Nat) (D D' : VD) (V' C' W : Nat → Nat) (A : Nat → Option Addr) (C : Nat → Nat) (ef : Nat → Nat) (w : World)
    (HR : Rws w ob D' V' C') (HW : Wrs w wB D.N D.L W D.X) (HB : Blks w a D.N D.L A C D.T D.R) (M : Match D D' rb ri ef) (hri : ri < D.L rb) (hrb : rb < D.N)
    (nb : D.N ≤ 1000000) (lbd : ∀ i, i < D.N → D.L i ≤ 1000000) (ob1 : off D.L D.N ≤ 1000000) (nb' : D'.N ≤ 1000000) :
    Calls Try.prog 30 #[.slice (some ⟨ob, 0, none⟩) D'.N oc, .slice a D.N c, .slice (some ⟨wB, 0, none⟩) D.N D.N, .int .i64 ((off D.L rb + ri : Nat) : Int), .int .i64 (-1)] w fun e w' => e = .returned (.bool true) ∧ Below w.heap.size w w' := by
  have hR := hide HR
  have hW := hide HW
  have hB := hide HB
  have hM := hide M
  have hO : Hid (∀ bi, bi ≤ D.N → off D.L bi ≤ 1000000) := fun bi h => Nat.le_trans (off_le h) ob1
  have hL := hide lbd
  have hE : Hid (∀ bi, bi ≤ D.N → ef bi ≤ bi) := by
    intro bi
    induction bi with
    | zero => intro _; rw [M.e0]; exact Nat.le_refl _
    | succ n ih =>
      intro h
      have := ih (by omega)
      rw [M.es n (by omega)]
      split <;> omega
  have hs1 := off_lt (L := D.L) (l := 0) hrb hri
  have hs2 : off D.L rb + ri ≤ 1000000 := by omega
  obtain ⟨s1, hs1'⟩ : ∃ s1, s1 = off D.L rb + ri := ⟨_, rfl⟩
  rw [← hs1'] at hs2 ⊢
  have hS := hide hs1'
  clear HR HW HB M lbd ob1 hs1 hs1'
  go_enter Try.func30, Try.ntmps30
  go_wp2
  go_loopw [11, 12, 13, 14, 15, 16, 17, 18, 19, 20] (fun eb f i _ _ _ _ _ _ _ wx => ∃ bi : Nat, bi ≤ D.N ∧ i = .int .i64 bi ∧ eb = .int .i64 (ef bi) ∧ f = .int .i64 (off D.L bi) ∧ Below w.heap.size w wx) (fun _ _ i _ _ _ _ _ _ _ _ => D.N - (intOf i).toNat)
  case atStart => exact ⟨0, Nat.zero_le _, rfl, by rw [(unhide hM).e0]; rfl, rfl, Below.refl _ _⟩
  case round =>
    generalize wr = wi at *
    clear wr
    obtain ⟨bi, hbi, rfl, rfl, rfl, hbel⟩ := hrel
    have g1 := unhide hO bi hbi
    have g2 := unhide hE bi hbi
    by_cases hlt : bi < D.N
    · obtain ⟨b, o, rfl, hl, hc⟩ := ((unhide hB).below hbel).row bi hlt
      have g3 := unhide hL bi hlt
      have i1 : (bi : Int) < (D.N : Int) := by omega
      go_wp2
      go_loop [12, 15, 16] (fun f kp k => ∃ q : Nat, q ≤ D.L bi ∧ k = .int .i64 q ∧ f = .int .i64 ((off D.L bi : Int) + q) ∧ kp = .int .i64 (kc rb ri bi q)) (fun _ _ k => D.L bi - (intOf k).toNat)
      case atStart => exact ⟨0, Nat.zero_le _, rfl, by simp, by simp [kc]⟩
      case round =>
        obtain ⟨q, hq, rfl, rfl, rfl⟩ := hrel
        have hkl := kc_le rb ri bi q
        by_cases hqL : q < D.L bi
        · have hqI : (q : Int) < (D.L bi : Int) := by omega
          have hb1 : off D.L bi + q ≤ 2000000 := by omega
          by_cases hhit : bi = rb ∧ q = ri
          · obtain ⟨rfl, rfl⟩ := hhit
            have hk := hide (kc_hit bi q)
            have hf : ((off D.L bi : Int) + q != (s1 : Int)) = false := by rw [unhide hS]; simp
            go_wp2
            go_round
            case rel => exact ⟨q + 1, by omega, by go_num, by go_num, by rw [unhide hk]⟩
            case measure => simp [intOf]; omega
          · have hk := hide (kc_miss hhit)
            have hne : off D.L bi + q ≠ s1 := by
              intro e
              rw [unhide hS] at e
              exact hhit (off_inj hqL hri e)
            have hf : ((off D.L bi : Int) + q != (s1 : Int)) = true := by rw [bne_iff_ne]; omega
            have hf2 : ((off D.L bi : Int) + q != -1) = true := by rw [bne_iff_ne]; omega
            go_wp2
            go_round
            case rel => exact ⟨q + 1, by omega, by go_num, by go_num, by rw [unhide hk]; go_num⟩
            case measure => simp [intOf]; omega
        · have hqe : q = D.L bi := by omega
          subst hqe
          clear hqL hq
          have hen := (unhide hM).es bi hlt
          by_cases hk0 : kc rb ri bi (D.L bi) = 0
          · rw [if_pos hk0] at hen
            have HEN := hide hen
            have e0 : ((kc rb ri bi (D.L bi) : Int) == 0) = true := beq_iff_eq.2 (by omega)
            clear hen hk0
            go_wp2
            go_roundw
            case rel => exact ⟨bi + 1, by omega, by go_num, by rw [unhide HEN], by simp only [off]; go_num, hbel⟩
            case measure => simp [intOf]; omega
          · rw [if_neg hk0] at hen
            have HEN := hide hen
            have e0 : ((kc rb ri bi (D.L bi) : Int) == 0) = false := beq_eq_false_iff_ne.2 (by omega)
            obtain ⟨m1, m2⟩ := (unhide hM).le bi hlt hk0
            have hR1 := hide ((unhide hR).below hbel)
            have c1 := (unhide hR1).outer _ m1
            have i2 : (ef bi : Int) < (D'.N : Int) := by omega
            rw [m2] at c1
            clear hen hk0 m2
            go_wp2
            go_loopw [17, 18, 19, 20] (fun j k _ _ wx => ∃ q : Nat, q ≤ D.L bi ∧ k = .int .i64 q ∧ j = .int .i64 (kc rb ri bi q) ∧ Below w.heap.size w wx) (fun _ k _ _ _ => D.L bi - (intOf k).toNat)
            case atStart => exact ⟨0, Nat.zero_le _, rfl, by simp [kc], hbel⟩
            case round =>
              obtain ⟨q, hq, rfl, rfl, hbx⟩ := hrel
              have hkl := kc_le rb ri bi q
              have hB1 := hide ((unhide hB).below hbx)
              obtain ⟨b9, o9, e9, hl9, hc9⟩ := (unhide hB1).row bi hlt
              simp at e9
              obtain ⟨rfl, rfl⟩ := e9
              clear c1 hc hl
              by_cases hqL : q < D.L bi
              · have hqI : (q : Int) < (D.L bi : Int) := by omega
                have hb1 : off D.L bi + q ≤ 2000000 := by omega
                by_cases hhit : bi = rb ∧ q = ri
                · obtain ⟨rfl, rfl⟩ := hhit
                  have hk := hide (kc_hit bi q)
                  have hf : ((off D.L bi : Int) + q == (s1 : Int)) = true := by rw [unhide hS]; simp
                  go_wp2
                  go_roundw
                  case rel => exact ⟨q + 1, by omega, by go_num, by rw [unhide hk], hbx⟩
                  case measure => simp [intOf]; omega
                · have hk := hide (kc_miss hhit)
                  have hne : off D.L bi + q ≠ s1 := by
                    intro e
                    rw [unhide hS] at e
                    exact hhit (off_inj hqL hri e)
                  have hf : ((off D.L bi : Int) + q == (s1 : Int)) = false := beq_eq_false_iff_ne.2 (by omega)
                  have hf2 : ((off D.L bi : Int) + q == -1) = false := beq_eq_false_iff_ne.2 (by omega)
                  obtain ⟨m3, m4, m5, m6⟩ := (unhide hM).el bi q hlt hqL hhit
                  have m7 := ((unhide hM).le bi hlt (by omega)).2
                  have hRx := (unhide hR).below hbx
                  have p1 := hRx.outer _ m1
                  have p2 := hRx.ptr _ _ m1 (by rw [m7]; exact m3)
                  have p3 := hRx.rts _ _ m1 (by rw [m7]; exact m3)
                  have p4 := hRx.ts _ _ m1 (by rw [m7]; exact m3)
                  have p5 := hRx.lX _ _ m1 (by rw [m7]; exact m3)
                  rw [m7] at p1
                  rw [m4] at p2 p4 p5
                  rw [m5] at p3
                  rw [m6] at p4
                  have i3 : (kc rb ri bi q : Int) < (kc rb ri bi (D.L bi) : Int) := by omega
                  clear m3 m4 m5 m6 m7 hRx hne
                  go_upto_region 24 with fail
                  clear p1 p2 p3
                  have bv : Below wr.heap.size wr (wr.alloc (.cells #[.pointer (some ⟨D.X bi q, 0, none⟩), .int .i64 (D.R bi q)] 93)) := (Below.refl _ _).alloc (Nat.le_refl _) _
                  obtain ⟨v0, v1⟩ := two_cells (blk_alloc_new wr (.cells #[.pointer (some ⟨D.X bi q, 0, none⟩), .int .i64 (D.R bi q)] 93))
                  have lv : wr.heap.size < (wr.alloc (.cells #[.pointer (some ⟨D.X bi q, 0, none⟩), .int .i64 (D.R bi q)] 93)).heap.size := by simp
                  generalize wr.alloc (.cells #[.pointer (some ⟨D.X bi q, 0, none⟩), .int .i64 (D.R bi q)] 93) = wv at *
                  have bw := chain hbx bv
                  have hWv := (unhide hW).below bw
                  have w1 := hWv.row bi hlt
                  have w2 := hWv.el bi q hlt hqL
                  have lw1 := hWv.lo
                  have lw2 := hWv.lW bi hlt
                  have hBv := (unhide hB).below bw
                  obtain ⟨b8, o8, e8, hl8, hc8⟩ := hBv.row bi hlt
                  simp at e8
                  obtain ⟨rfl, rfl⟩ := e8
                  obtain ⟨b7, o7, e7, hl7, t1, t2⟩ := hBv.el bi q hlt hqL
                  rw [e7] at hc8
                  have x1 := (bv.cell (p := ⟨D.X bi q, 1, none⟩) p5).trans p4
                  have lx : D.X bi q < wv.heap.size := Nat.lt_of_lt_of_le p5 bv.size
                  have hn := neq38
                  have j0 : (0 : Int) ≤ (bi : Int) := by omega
                  have j1 : (0 : Int) ≤ (q : Int) := by omega
                  clear e7 hWv hBv p4 p5 bv
                  generalize wr.heap.size = vB at *
                  go_region_held3 (fun w' => w'.cell? ⟨vB, 0, none⟩ = some (.pointer (some ⟨D.X bi q, 0, none⟩)) ∧ w'.cell? ⟨vB, 1, none⟩ = some (.int .i64 (D.R bi q)) ∧ w'.cell? ⟨wB, bi, none⟩ = some (.slice (some ⟨W bi, 0, none⟩) (D.L bi) (D.L bi)) ∧ w'.cell? ⟨W bi, q, none⟩ = some (.pointer (some ⟨D.X bi q, 0, none⟩)))
                    ((first | exact ⟨v0, v1, w1, w2⟩ | go_keep))
                    ((go_at_call 40; refine (versionWriter _ _ _).mono ?_; rintro e w' ⟨rfl, hw⟩; subst hw))
                  go_upto_region 26 with fail
                  have bu : Below wv.heap.size wv (wv.alloc (.cells #[.pointer (some ⟨D.X bi q, 0, none⟩), .int .i64 (D.R bi q)] 93)).drew := ((Below.refl _ _).alloc (Nat.le_refl _) _).drew
                  generalize (wv.alloc (.cells #[.pointer (some ⟨D.X bi q, 0, none⟩), .int .i64 (D.R bi q)] 93)).drew = wu at *
                  have y0 := (bu.cell (p := ⟨vB, 0, none⟩) lv).trans v0
                  have y1 := (bu.cell (p := ⟨vB, 1, none⟩) lv).trans v1
                  have y2 := (bu.cell (p := ⟨b, o + bi, none⟩) hl8).trans hc8
                  have y3 := (bu.cell (p := ⟨b7, o7 + q * 2, none⟩) hl7).trans t1
                  have y4 := (bu.cell (p := ⟨b7, o7 + q * 2 + 1, none⟩) hl7).trans t2
                  have y5 := (bu.cell (p := ⟨D.X bi q, 1, none⟩) lx).trans x1
                  have lx2 : D.X bi q < wu.heap.size := Nat.lt_of_lt_of_le lx bu.size
                  have z0 : vB < wu.heap.size := Nat.lt_of_lt_of_le lv bu.size
                  have z1 : b < wu.heap.size := Nat.lt_of_lt_of_le hl8 bu.size
                  have z2 : b7 < wu.heap.size := Nat.lt_of_lt_of_le hl7 bu.size
                  have bx := chain bw bu
                  clear v0 v1 w1 w2 lw1 lw2 hc8 t1 t2 x1 lx hn bu bw lv hl8 hl7 hc9 hl9 hB1
                  go_region_held3 (fun w' => w'.cell? ⟨vB, 0, none⟩ = some (.pointer (some ⟨D.X bi q, 0, none⟩)) ∧ w'.cell? ⟨vB, 1, none⟩ = some (.int .i64 (D.R bi q)) ∧ w'.cell? ⟨b, o + bi, none⟩ = some (.slice (some ⟨b7, o7, none⟩) (D.L bi) (C bi)) ∧ w'.cell? ⟨b7, o7 + q * 2, none⟩ = some (.int .i64 (D.T bi q)) ∧ w'.cell? ⟨b7, o7 + q * 2 + 1, none⟩ = some (.int .i64 (D.R bi q)))
                    ((first | exact ⟨y0, y1, y2, y3, y4⟩ | go_keep | (refine ⟨(Below.cell (B := wu.heap.size) (p := ⟨vB, 0, none⟩) ?_ z0).trans y0, (Below.cell (B := wu.heap.size) (p := ⟨vB, 1, none⟩) ?_ z0).trans y1, (Below.cell (B := wu.heap.size) (p := ⟨b, o + bi, none⟩) ?_ z1).trans y2, (Below.cell (B := wu.heap.size) (p := ⟨b7, o7 + q * 2, none⟩) ?_ z2).trans y3, (Below.cell (B := wu.heap.size) (p := ⟨b7, o7 + q * 2 + 1, none⟩) ?_ z2).trans y4⟩ <;> (repeat (first | exact Below.refl _ _ | refine Below.drew ?_ | refine Below.alloc ?_ (by first | (simp; done) | (simp; omega)) _)))))
                    ((first
                      | (go_at_call 42; refine (versionTs _ _ (D.T bi q) _ ?_ ?_).mono ?_; (first | exact lx2 | (simp; omega)); (first | exact y5 | (refine (Below.cell (B := wu.heap.size) (p := ⟨D.X bi q, 1, none⟩) ?_ lx2).trans y5; (repeat (first | exact Below.refl _ _ | refine Below.drew ?_ | refine Below.alloc ?_ (by first | (simp; done) | (simp; omega)) _)))); rintro e w' ⟨rfl, hw⟩; subst hw)
                      | (go_at_call 43; refine (versionRts _ _ _).mono ?_; rintro e w' ⟨rfl, hw⟩; subst hw)))
                  go_wp2
                  go_roundw
                  case rel =>
                    have bf : Below w.heap.size w ((wu.alloc (.cells #[.pointer (some ⟨D.X bi q, 0, none⟩), .int .i64 (D.R bi q)] 93)).alloc (.cells #[.pointer (some ⟨D.X bi q, 0, none⟩), .int .i64 (D.R bi q)] 93)).drew := ((bx.alloc bx.size _).alloc (by have := bx.size; simp; omega) _).drew
                    first
                    | exact ⟨q + 1, by omega, by go_num, by rw [unhide hk]; go_num, bf⟩
                    | (repeat apply Exists.intro
                       exact ⟨⟨q + 1, by omega, by go_num, by rw [unhide hk]; go_num, bf⟩, rfl⟩)
                  case measure => simp [intOf]; omega
              · have hqe : q = D.L bi := by omega
                subst hqe
                go_wp2
                go_roundw
                case rel => exact ⟨bi + 1, by omega, by go_num, by rw [unhide HEN]; go_num, by simp only [off]; go_num, hbx⟩
                case measure => simp [intOf]; omega
    · have hbe : bi = D.N := by omega
      have e1 := (unhide hM).eN
      subst hbe
      have e2 : ((ef D.N : Int) == (D'.N : Int)) = true := by rw [e1]; simp
      have HE := hide e2
      rw [e1]
      clear e1 e2 HE
      go_wp2
      go_ret
      exact ⟨rfl, hbel⟩
end Go.Proofs.Qxb6616487a.Vr
