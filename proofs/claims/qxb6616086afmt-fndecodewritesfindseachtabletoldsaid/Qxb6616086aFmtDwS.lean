import Derived.Test.Qxb6616086aFmtDwR
namespace Go.Proofs.Qxb6616086aFmt.Dw
open Go.RowKit Go.Deep Go.Extern.Stop Go.Stop Go.Extern Go.Maps Go.WideShapes Go.ChangeMaps
set_option linter.unusedVariables false

/-- what decodeWrites leaves -/
def DW (w w' : World) (B : Nat → Int) (n : Nat) (r : Ending) : Prop :=
  ∃ (v ix er : Value), r = .returned (.tuple #[.agg #[v, ix], er]) ∧ TN w' v (outer B n 0 []) ∧ IX w' ix (outer B n 0 []) ∧ Below w.heap.size w w'

theorem DO.start (w : World) (B : Nat → Int) (pb n : Nat) (ad : Option Addr) (had : 0 < n → ad = some ⟨pb, 0, none⟩) :
    DO w (((w.alloc (.cells #[.slice none 0 0, .map none] 31)).alloc (.cells #[.slice none 0 0, .map none] 31)).alloc (.cells #[.slice ad n n, .nilIface] 63)) B pb n [] 0 false := by
  have h2 : (((w.alloc (.cells #[.slice none 0 0, .map none] 31)).alloc (.cells #[.slice none 0 0, .map none] 31)).alloc (.cells #[.slice ad n n, .nilIface] 63)).heap[w.heap.size + 1 + 1]? = some (.cells #[.slice ad n n, .nilIface] 63 (0, 0)) := by
    have := blk_alloc_new ((w.alloc (.cells #[.slice none 0 0, .map none] 31)).alloc (.cells #[.slice none 0 0, .map none] 31)) (.cells #[.slice ad n n, .nilIface] 63)
    simpa using this
  have h1 : (((w.alloc (.cells #[.slice none 0 0, .map none] 31)).alloc (.cells #[.slice none 0 0, .map none] 31)).alloc (.cells #[.slice ad n n, .nilIface] 63)).heap[w.heap.size + 1]? = some (.cells #[.slice none 0 0, .map none] 31 (0, 0)) := by
    rw [Below.heap_alloc _ _ _ (by simp)]
    have := blk_alloc_new (w.alloc (.cells #[.slice none 0 0, .map none] 31)) (.cells #[.slice none 0 0, .map none] 31)
    simpa using this
  refine ⟨(((Below.refl _ _).alloc (Nat.le_refl _) _).alloc (by simp) _).alloc (by simp; omega) _, ⟨_, _, h2, ⟨Nat.zero_le _, ad, by simp, had⟩, rfl⟩, ⟨.slice none 0 0, .map none, 0, ⟨h1, by omega, .inl ⟨rfl, rfl⟩, .inl ⟨rfl, by simp⟩, (fun mb h => by cases h), by simp, by simp⟩, Nat.zero_le _, fun _ => Nat.le_refl _⟩, ?_, ⟨by simp, fun _ => by simp⟩, by simp⟩
  rw [Below.heap_alloc _ _ _ (by simp; omega), Below.heap_alloc _ _ _ (by simp)]
  exact blk_alloc_new _ _

theorem TN.res {w : World} {base rb : Nat} {v a b : Value} {L : List ByteArray} {m : Nat} (h : TN w v L) (hr : w.heap[rb]? = some (.cells #[.slice none 0 0, .map none] 31 (0, 0))) (T : TbS w base v L m) : TN (((w.setCell ⟨rb, 0, none⟩ a).setCell ⟨rb, 1, none⟩ b).drew) v L := by
  refine (T.stay (w' := ((w.setCell ⟨rb, 0, none⟩ a).setCell ⟨rb, 1, none⟩ b).drew) (fun k c _ hk => ?_) (fun k c _ hk => ?_)).tn
  all_goals
    have hne : k ≠ rb := fun e => by rw [e, hr] at hk; simp at hk
    exact (Below.heap_setCell _ _ _ _ hne).trans (Below.heap_setCell _ _ _ _ hne)

theorem IX.res {w : World} {rb : Nat} {ix a b : Value} {L : List ByteArray} (h : IX w ix L) (hr : w.heap[rb]? = some (.cells #[.slice none 0 0, .map none] 31 (0, 0))) : IX (((w.setCell ⟨rb, 0, none⟩ a).setCell ⟨rb, 1, none⟩ b).drew) ix L :=
  h.keep fun mb e =>
    have hne : mb ≠ rb := fun e2 => h.notCells hr (by rw [← e2]; exact e)
    (Below.heap_setCell _ _ _ _ hne).trans (Below.heap_setCell _ _ _ _ hne)

theorem info58 : ∃ i, Tryf.prog.info? 58 = some i ∧ i.zero = some (.agg #[.string ⟨#[]⟩, .slice none 0 0, .bool false]) ∧ i.size = 3 ∧ i.bytes = 48 := by
  have h : (Tryf.prog.info? 58).map (fun i => (i.zero, i.size, i.bytes)) = some (some (.agg #[.string ⟨#[]⟩, .slice none 0 0, .bool false]), 3, 48) := by kernel_rfl
  obtain ⟨i, hi, hb⟩ := Option.map_eq_some_iff.1 h
  simp only [Prod.mk.injEq] at hb
  exact ⟨i, hi, hb.1, hb.2.1, hb.2.2⟩

/-- one change more -/
theorem DI.push {w w5 w7 : World} {B : Nat → Int} {pb n : Nat} {L : List ByteArray} {g cap t : Nat} {c : Int} {p p' : Nat} {bad : Bool} {ix : Value} {M k : Nat} {u v' : Value} {ys zs : List Value}
    (B5 : Below w.heap.size w w5) (R5 : RS w5 (w.heap.size + 1 + 1) pb n p' bad) (S5 : WS w5 w.heap.size (w.heap.size + 1) (.slice (some ⟨g, 0, none⟩) L.length cap) ix L M) (A : KAt w5 w.heap.size g t M u k ys) (hM : M ≤ p) (hp : p < n)
    (res5 : w5.heap[w.heap.size]? = some (.cells #[.slice none 0 0, .map none] 31 (0, 0))) (ln : L.length ≤ p) (ht : t < L.length) (c0 : 0 ≤ c) (c1 : c < 18446744073709551616)
    (eq : outer B n 0 [] = if bad then L else rest2 B n L (inner B n c p')) (hq : bad = false → p + 1 < p') (Sh : Shp w.heap.size 58 w5 w7) (own7 : w7.ownsRow w.heap.size 58 3 v' (k + 1) zs) :
    DI w (w7.setCell ⟨g, t * 4 + 2, none⟩ v') B pb n L g cap t c p' bad := by
  obtain ⟨cur, hcur⟩ := A.row
  have hcur7 := Sh.other (by decide) hcur
  have km := A.km
  have ne1 : w.heap.size + 1 + 1 ≠ g := by
    intro e
    obtain ⟨c, hc⟩ := R5.obj
    rw [e, hcur] at hc
    simp at hc
  have ne2 : w.heap.size ≠ g := by
    intro e
    rw [← e, res5] at hcur
    simp at hcur
  have S7 := S5.chg Sh
  refine ⟨(B5.trans (Sh.below B5.size)).setCell (by simpa using A.lo) _, ?_, ⟨ix, p + 1, S7.setCell hcur7 (S7.tb.setC ht own7 (by omega) (by omega)), by omega, fun h => by have := hq h; omega⟩, ?_, ⟨by omega, fun h => by have := hq h; omega⟩, ht, c0, c1, eq⟩
  · obtain ⟨cr, hc⟩ := R5.obj
    exact R5.block ((Below.heap_setCell _ _ _ _ ne1).trans ((Sh.other (by decide) hc).trans hc.symm))
  · exact (Below.heap_setCell _ _ _ _ ne2).trans (Sh.other (by decide) res5)

set_option maxHeartbeats 4000000 in
set_option maxRecDepth 100000 in
theorem decodeWrites (F : Interp) (ad : Option Addr) (pb n : Nat) (B : Nat → Int) (w : World) (hF : F.answers w.tape) (hn : n ≤ 65536) (had : 0 < n → ad = some ⟨pb, 0, none⟩) (hP : PB w pb n B) (hpb : 0 < n → pb < w.heap.size) :
    Calls Tryf.prog 16 #[.slice ad n n] w fun r w' => DW w w' B n r := by
  have O0 := hide (DO.start w B pb n ad had)
  obtain ⟨i8, hi8, hz80, hz81, hz82⟩ := info58
  have HP := hide hP
  have HF := hide hF
  clear hP hF
  go_enter Tryf.func16, Tryf.ntmps16
  go_wp2_with fail
  go_loopw [] (fun wr => ∃ L p bad, DO w wr B pb n L p bad) (fun wr => meas wr (w.heap.size + 1 + 1))
  case atStart => exact ⟨[], 0, false, unhide O0⟩
  case round =>
    obtain ⟨L, p, bad, O⟩ := hrel
    clear O0
    obtain ⟨v, ix, M, S, hMn, hMp⟩ := O.ws
    obtain ⟨rv, er, R, ⟨hpn, ad1, rfl, had1⟩, hE⟩ := O.rs
    have r0 := R.c0
    have r1 := R.c1
    have s0 := S.c0
    have s1 := S.c1
    have t0 : wr.cell? ⟨w.heap.size, 0, none⟩ = some (.slice none 0 0) := by simp [World.cell?, O.res]
    have t1 : wr.cell? ⟨w.heap.size, 1, none⟩ = some (.map none) := by simp [World.cell?, O.res]
    have z0 : wr.frozen? ⟨w.heap.size, 0, none⟩ = false := by simp [World.frozen?, O.res]
    have z1 : wr.frozen? ⟨w.heap.size, 1, none⟩ = false := by simp [World.frozen?, O.res]
    by_cases hgo : bad = false ∧ p < n
    · obtain ⟨rfl, hp⟩ := hgo
      cases hE
      have hpb' := hpb (by omega)
      have P1 := (unhide HP).below O.bel hpb'
      have hF1 : F.answers wr.tape := by rw [O.bel.tape]; exact unhide HF
      have C1 := hide (fieldX F hF1 O.rs P1 hn (by omega))
      have k1 : (0 : Int) < ((n - p : Nat) : Int) := by omega
      have HO := hide O
      have HS := hide S
      have HM := hMp rfl
      clear O S R P1 had1 hMp hF1 had t0 t1 z0 z1
      go_wp2_with fail
      refine (unhide C1).mono ?_
      rintro r w1 ⟨a2, l2, c2, x, p1, bad1, rfl, X⟩
      have hcv := X.cv
      have HX := hide X
      have S1 := (unhide HS).reader X.gr (unhide HO).rs.obj
      have C2 := hide (table w.heap.size (w.heap.size + 1) v ix L M x w1 S1 X.sz (by have := (unhide HO).ln.2 rfl; omega) (Nat.le_trans (unhide HO).bel.size X.gr.size))
      have B1 := (unhide HO).bel.trans (gto X.gr (by omega) (unhide HO).bel.size)
      have HB1 := hide B1
      clear X S1 B1 C1
      go_wp2_with fail
      refine (unhide C2).mono ?_
      rintro r w2 ⟨ix', g, cap, t, rfl, S2, ht, Mv2⟩
      have T' : TB w1 w2 w.heap.size (w.heap.size + 1) L M x (.returned (.pointer (some ⟨g, t * 4, none⟩))) := ⟨ix', g, cap, t, rfl, S2, ht, Mv2⟩
      have R2 := (unhide HX).rs.block (w' := w2) (by obtain ⟨c, hc⟩ := (unhide HX).rs.obj; exact Mv2.keep _ c 63 hc (by decide) (by omega))
      have P2 := (unhide HP).below ((unhide HB1).trans Mv2.below) hpb'
      have C3 := hide (uvX R2 P2 hn)
      have HT := hide T'
      clear T' S2 Mv2 R2 P2 C2 hcv ht
      go_wp2_with fail
      refine (unhide C3).mono ?_
      rintro r w3 ⟨c, p3, bad3, rfl, R3, U, g3⟩
      obtain ⟨g', cap', t', e', I0, hq0⟩ := (unhide HO).enter hp hn (unhide HX) HM (unhide HT) R3 U g3
      simp only [Ending.returned.injEq, Value.pointer.injEq, Option.some.injEq, Addr.mk.injEq, and_true] at e'
      obtain ⟨rfl, e2⟩ := e'
      have e3 : t = t' := by omega
      subst e3
      generalize addN L x = L1 at *
      have HI0 := hide I0
      have gm := hide (unhide HO).rs.good
      clear I0 R3 U g3 C3 e2 HT HX HB1
      go_wp2_with fail
      go_loopw [7] (fun nv wr => ∃ c2 p2 bad2, nv = .int .u64 c2 ∧ DI w wr B pb n L1 g cap' t c2 p2 bad2 ∧ (bad2 = false → p < p2)) (fun nv wr => meas wr (w.heap.size + 1 + 1))
      case atStart => exact ⟨c, p3, bad3, rfl, unhide HI0, hq0⟩
      case round =>
        obtain ⟨cn, p2, bad2, rfl, I, hq⟩ := hrel
        obtain ⟨ix2, M2, S2, hMn2, hMp2⟩ := I.ws
        obtain ⟨rv2, er2, R2, ⟨hpn2, ad2, rfl, had2⟩, hE2⟩ := I.rs
        have q0 := R2.c0
        have q1 := R2.c1
        have K0 := I.c0
        have K1 := I.c1
        clear HI0 hq0
        by_cases hgo2 : bad2 = false ∧ 0 < cn
        · obtain ⟨rfl, hcn⟩ := hgo2
          cases hE2
          have P2 := (unhide HP).below I.bel hpb'
          have C4 := hide (kindX I.rs P2)
          have k2 : IntKind.u64.wrap (cn - 1) = cn - 1 := by rw [IntKind.wrap_u64]; omega
          have HI := hide I
          have HS2 := hide S2
          have gm2 := hide I.rs.good
          have HM2 := hMp2 rfl
          have hq2 := hq rfl
          clear I S2 R2 P2 had2 hMp2 hq
          go_wp2_with fail
          refine (unhide C4).mono ?_
          rintro r w4 ⟨k, p4, bad4, rfl, R4, K4, g4⟩
          have S4 := (unhide HS2).reader g4 (unhide HI).rs.obj
          have B4 := (unhide HI).bel.trans (gto g4 (by omega) (unhide HI).bel.size)
          have res4 := (g4.block _ (Array.getElem?_eq_some_iff.1 (unhide HI).res).1 (fun e => by have := Option.some.inj e; omega)).trans (unhide HI).res
          clear C4 q0 q1
          by_cases h3 : k = 3
          · obtain ⟨u, ku, ys, A⟩ := S4.at (unhide HI).tl
            obtain ⟨cur, hcur⟩ := A.row
            obtain ⟨y, hy⟩ := Option.isSome_iff_exists.1 A.c1
            have f1 := A.fz (t * 4 + 1)
            have e3 : (k == 3) = true := beq_iff_eq.2 h3
            have HD := hide (show DI w (w4.setCell ⟨g, t * 4 + 1, none⟩ (.bool true)) B pb n L1 g cap' t (cn - 1) p4 bad4 ∧ (bad4 = false → p < p4) ∧ meas (w4.setCell ⟨g, t * 4 + 1, none⟩ (.bool true)) (w.heap.size + 1 + 1) < meas wr (w.heap.size + 1 + 1) by
              rcases K4 with ⟨a1, a2, a3, a4⟩ | ⟨_, a2, _⟩
              · subst a3; subst a4
                have hne : w.heap.size + 1 + 1 ≠ g := by
                  intro e
                  obtain ⟨c, hc⟩ := R4.obj
                  rw [e, hcur] at hc
                  simp at hc
                have Rn := R4.block (w' := w4.setCell ⟨g, t * 4 + 1, none⟩ (.bool true)) (Below.heap_setCell _ _ _ _ hne)
                have hne2 : w.heap.size ≠ g := by
                  intro e
                  rw [← e, res4] at hcur
                  simp at hcur
                refine ⟨⟨B4.setCell (by simpa using A.lo) _, Rn, ⟨ix2, M2, S4.setCell hcur (S4.tb.setD _), hMn2, fun _ => by omega⟩, (Below.heap_setCell _ _ _ _ hne2).trans res4, ⟨(unhide HI).ln.1, fun _ => by have := (unhide HI).ln.2 rfl; omega⟩, (unhide HI).tl, by omega, by omega, ?_⟩, fun _ => by omega, by rw [Rn.good, unhide gm2]; omega⟩
                have := (unhide HI).eq
                simp only [Bool.false_eq_true, if_false] at this ⊢
                rw [this, inner_drop (by omega) (by omega) (a2 ▸ h3)]
              · omega)
            clear A S4 hcur R4 K4 g4 h3
            go_wp2_with fail
            go_roundw
            case rel => exact ⟨cn - 1, p4, bad4, rfl, (unhide HD).1, (unhide HD).2.1⟩
            case measure => exact (unhide HD).2.2
          · have e3 : (k == 3) = false := beq_eq_false_iff_ne.2 h3
            have P4 := (unhide HP).below B4 hpb'
            have hF4 : F.answers w4.tape := by rw [B4.tape]; exact unhide HF
            have C5 := hide (fieldX F hF4 R4 P4 hn (by omega))
            have HK := hide K4
            have HR4 := hide R4.obj
            have HS4 := hide S4
            have HB4 := hide B4
            have Hr4 := hide res4
            clear P4 hF4 K4 R4 S4 B4 res4 g4
            go_wp2_with fail
            refine (unhide C5).mono ?_
            rintro r w5 ⟨a5, l5, c5, x5, p5, bad5, rfl, X5⟩
            have hcv5 := X5.cv
            have S5 := (unhide HS4).reader X5.gr (unhide HR4)
            have B5 := (unhide HB4).trans (gto X5.gr (by omega) (unhide HB4).size)
            have res5 := (X5.gr.block _ (Array.getElem?_eq_some_iff.1 (unhide Hr4)).1 (fun e => by have := Option.some.inj e; omega)).trans (unhide Hr4)
            have R5 := X5.rs
            have HX := hide X5.fx
            have TL := (unhide HI).tl
            have LN := (unhide HI).ln.2 rfl
            have LN1 := (unhide HI).ln.1
            have ieq := (unhide HI).eq
            simp only [Bool.false_eq_true, if_false] at ieq
            have Hieq := hide ieq
            obtain ⟨u, ku, ys, A⟩ := S5.at TL
            have cu := A.c2
            have fu := A.fz (t * 4 + 2)
            have KM := A.km
            have HA := hide A
            have HOw := hide A.own
            have HS5 := hide S5
            have HB5 := hide B5
            have Hr5 := hide res5
            have HR5 := hide R5
            have bs5 := B5.size
            clear C5 X5 A S5 B5 res5 R5 ieq HS4 HB4 Hr4 HR4
            by_cases h1 : k = 1
            · have e1' : (k == 1) = true := beq_iff_eq.2 h1
              have hF5 : F.answers w5.drew.tape := by show F.answers w5.tape; rw [(unhide HB5).tape]; exact unhide HF
              have Bd : Below w.heap.size w w5.drew := (unhide HB5).drew
              have Rd : RS w5.drew (w.heap.size + 1 + 1) pb n p5 bad5 := unhide HR5
              have C6 := hide (fieldX F hF5 Rd ((unhide HP).below Bd hpb') hn (by omega))
              have HBd := hide Bd
              have glo := (unhide HA).lo
              have gne : some g ≠ some (w.heap.size + 1 + 1) := by
                intro e
                obtain ⟨cur, hcur⟩ := (unhide HA).row
                obtain ⟨c, hc⟩ := (unhide HR5).obj
                rw [← Option.some.inj e, hcur] at hc
                simp at hc
              have Hgne := hide gne
              have cud : w5.drew.cell? ⟨g, t * 4 + 2, none⟩ = some u := cu
              have HOd := hide (show w5.drew.ownsRow w.heap.size 58 3 u ku ys from unhide HOw)
              have Hcons := hide (fun p6 bad6 x6 (X6 : FX B n p5 bad5 p6 bad6 x6) => eqOne (unhide Hieq) hcn (unhide HK) (unhide HX) X6 h3 h1)
              have HSd := hide (show WS w5.drew w.heap.size (w.heap.size + 1) (.slice (some ⟨g, 0, none⟩) L1.length cap') ix2 L1 M2 from (unhide HS5).below (Below.refl _ _).drew)
              have Hrd := hide (show w5.drew.heap[w.heap.size]? = some (.cells #[.slice none 0 0, .map none] 31 (0, 0)) from unhide Hr5)
              have HRo := hide (unhide HR5).obj
              clear h1 h3 gne Bd Rd
              go_upto_region 15 with fail
              have fud : w5.drew.frozen? ⟨g, t * 4 + 2, none⟩ = false := fu
              go_region_law ((first
                | (rw [if_pos (by simp [Region.wanted])]; go_simp; go_at_call 20; refine (unhide C6).mono ?_; rintro r w6 ⟨a6, l6, c6, x6, p6, bad6, rfl, X6⟩; have S6 := (unhide HSd).reader X6.gr (unhide HRo); obtain ⟨u6, k6, ys6, A6⟩ := S6.at TL; have cu6 : w6.cell? ⟨g, t * 4 + 2, none⟩ = some u := X6.gr.cell cud (unhide Hgne); have fu6 := A6.fz (t * 4 + 2); have HX6 := hide X6; have HS6 := hide S6; clear X6 S6 A6)
                | (rw [if_pos (by simp [Region.wanted])]; go_simp; go_at_call 23; obtain ⟨s6, e6, hs6, he6⟩ := (unhide HX6).sub; refine (clone _ pb n s6 e6 B w6 ((unhide HP).below ((unhide HBd).trans (gto (unhide HX6).gr (by omega) (unhide HBd).size)) hpb') he6 hn hs6 (Nat.lt_of_lt_of_le hpb' (Nat.le_trans (unhide HBd).size (unhide HX6).gr.size))).mono ?_; rintro r w8 ⟨⟨a7, l7, c7, rfl⟩, hb7⟩; have cu7 : w8.cell? ⟨g, t * 4 + 2, none⟩ = some u := (hb7.cell (p := ⟨g, t * 4 + 2, none⟩) (World.block_lt_of_cell? w6 _ cu6)).trans cu6; have S8 := (unhide HS6).below hb7; obtain ⟨u8, k8, ys8, A8⟩ := S8.at TL; have eu : u8 = u := (by have h8 := A8.c2; rw [cu7] at h8; exact (Option.some.inj h8).symm); rw [eu] at A8; have fu7 := A8.fz (t * 4 + 2); have lt7 := World.block_lt_of_cell? w8 _ cu7; have KM8 := A8.km; have bs8 : w.heap.size ≤ w8.heap.size := Nat.le_trans (unhide HBd).size (Nat.le_trans (unhide HX6).gr.size hb7.size); have HA8 := hide A8; have HS8 := hide S8; have HB7 := hide hb7; clear hb7 S8 A8 eu)
                | (refine step_append_shp rfl _ _ 52 rfl w.heap.size 58 i8 (.agg #[.string ⟨#[]⟩, .slice none 0 0, .bool false]) 3 48 Tryf.underlying52 hi8 hz80 hz81 hz82 rfl (by decide) _ _ _ rfl ((unhide HA8).own.alloc _) _ _ [.string x5, .slice a7 l7 c7, .bool false] rfl rfl (cell_three_new _ _ _ _ _) (fun u hu => by simp at hu; rcases hu with rfl | rfl | rfl <;> rfl) (by unfold maxLen; omega) (by omega) (by simp; omega) ?_; intro v' w7 own7 shp7; obtain ⟨av, cv, rfl⟩ := own_shape own7; have Sh := (Shp.ofBelow ((Below.refl _ _).alloc (Nat.le_refl _) _)).trans shp7; obtain ⟨cur8, hcur8⟩ := (unhide HA8).row; have cu9 : w7.cell? ⟨g, t * 4 + 2, none⟩ = some u := (World.cell?_of_block (w := w8) (a := ⟨g, t * 4 + 2, none⟩) ((Sh.other (by decide) hcur8).trans hcur8.symm)).trans cu7; have fu9 : w7.frozen? ⟨g, t * 4 + 2, none⟩ = false := (World.frozen?_of_block (w := w8) (a := ⟨g, t * 4 + 2, none⟩) ((Sh.other (by decide) hcur8).trans hcur8.symm)).trans fu7; have HSh := hide Sh; have HO7 := hide own7; clear Sh shp7 own7 hcur8)))
              all_goals
                obtain ⟨E1, E2, E3⟩ := unhide Hcons p6 bad6 x6 (unhide HX6).fx
                have B8 : Below w.heap.size w w8 := ((unhide HBd).trans (gto (unhide HX6).gr (by omega) (unhide HBd).size)).trans ((unhide HB7).mono (Nat.le_trans (unhide HBd).size (unhide HX6).gr.size))
                have r6 := ((unhide HX6).gr.block _ (Array.getElem?_eq_some_iff.1 (unhide Hrd)).1 (fun e => by have := Option.some.inj e; omega)).trans (unhide Hrd)
                have r8 := ((unhide HB7).block _ (Array.getElem?_eq_some_iff.1 r6).1).trans r6
                have HD7 := hide (DI.push B8 ((unhide HX6).rs.below (unhide HB7) (unhide HX6).rs.lt) (unhide HS8) (unhide HA8) HM2 E3 r8 LN TL (c := cn - 1) (by omega) (by omega) E1 E2 (unhide HSh) (unhide HO7))
                clear B8 r6 r8
                go_wp2_with fail
                go_roundw
                case rel => exact ⟨cn - 1, p6, bad6, rfl, unhide HD7, fun h => by have := E2 h; omega⟩
                case measure =>
                  rw [unhide gm2]
                  cases bad6
                  · have hg := (unhide HD7).rs.good; have := E2 rfl; omega
                  · have hg := (unhide HD7).rs.evil; omega
            · have e1' : (k == 1) = false := beq_eq_false_iff_ne.2 h1
              by_cases h2 : k = 2
              · have e2' : (k == 2) = true := beq_iff_eq.2 h2
                obtain ⟨E1, E2, E3⟩ := eqTwo (unhide Hieq) hcn (unhide HK) (unhide HX) h3 h2
                clear h1 h2 h3
                go_wp2_with (at_builtin; refine wpList_append_shp _ rfl _ _ 52 rfl w.heap.size 58 i8 (.agg #[.string ⟨#[]⟩, .slice none 0 0, .bool false]) 3 48 Tryf.underlying52 hi8 hz80 hz81 hz82 rfl (by decide) _ _ _ rfl ((unhide HOw).alloc _) _ _ [.string x5, .slice none 0 0, .bool true] rfl rfl (cell_three_new _ _ _ _ _) (fun u hu => by simp at hu; rcases hu with rfl | rfl | rfl <;> rfl) (by unfold maxLen; omega) (by omega) (by simp; omega) ?_; intro v' w7 own7 shp7; obtain ⟨av, cv, rfl⟩ := own_shape own7; have Sh := (Shp.ofBelow ((Below.refl _ _).alloc (Nat.le_refl _) _)).trans shp7; have D7 := DI.push (unhide HB5) (unhide HR5) (unhide HS5) (unhide HA) HM2 E3 (unhide Hr5) LN TL (c := cn - 1) (by omega) (by omega) E1 E2 Sh own7; obtain ⟨u7, k7, ys7, A7⟩ := ((unhide HS5).chg Sh).at TL; have cu7 := A7.c2; have fu7 := A7.fz (t * 4 + 2); have HD7 := hide D7; clear D7 A7 Sh shp7 own7)
                go_roundw
                case rel => exact ⟨cn - 1, p5, bad5, rfl, unhide HD7, fun h => by have := E2 h; omega⟩
                case measure =>
                  rw [unhide gm2]
                  cases bad5
                  · rw [(unhide HD7).rs.good]; have := E2 rfl; omega
                  · rw [(unhide HD7).rs.evil]; omega
              · have e2' : (k == 2) = false := beq_eq_false_iff_ne.2 h2
                have E1 := hide (eqElse (unhide Hieq) hcn (unhide HK) (unhide HX) h3 h2 h1)
                have hF5 : F.answers w5.tape := by rw [(unhide HB5).tape]; exact unhide HF
                clear h1 h2 h3
                go_wp2_with (first | (go_at_call 25; refine (errorfKind F k w5.heap.size 1 _ (by exact hF5) (by simp) (by simp)).mono ?_; rintro e w6 ⟨rfl, hb6⟩; have BB := hide ((((Below.refl _ _).alloc (Nat.le_refl _) (.cells #[.iface 5 (.int .u8 k)] 20)) : Below w5.heap.size w5 _).trans (hb6.mono (by simp))); have R6 := hide ((unhide HR5).below (unhide BB) (unhide HR5).lt); clear hb6) | (go_at_call 24; refine (failX (unhide R6) _ _).mono ?_; rintro e w7 ⟨rfl, R7, g7⟩))
                have S7 := ((unhide HS5).below (unhide BB)).reader g7 (unhide R6).obj
                have r6 := ((unhide BB).block _ (Array.getElem?_eq_some_iff.1 (unhide Hr5)).1).trans (unhide Hr5)
                have HD7 := hide (show DI w w7 B pb n L1 g cap' t (cn - 1) p5 true from ⟨((unhide HB5).trans ((unhide BB).mono bs5)).trans (gto g7 (by omega) (Nat.le_trans bs5 (unhide BB).size)), R7, ⟨_, _, S7, hMn2, fun h => by cases h⟩, (g7.block _ (Array.getElem?_eq_some_iff.1 r6).1 (fun e => by have := Option.some.inj e; omega)).trans r6, ⟨LN1, fun h => by cases h⟩, TL, by omega, by omega, unhide E1⟩)
                clear S7 r6 R7 g7
                go_wp2_with fail
                go_roundw
                case rel => exact ⟨cn - 1, p5, true, rfl, unhide HD7, fun h => by cases h⟩
                case measure => rw [unhide gm2, (unhide HD7).rs.evil]; omega
        · have hcond : (0 < cn ∧ ∃ t y, er2 = .iface t y) ∨ ¬ 0 < cn := by
            by_cases h : 0 < cn
            · have hb : bad2 = true := by
                cases bad2
                · exact absurd ⟨rfl, h⟩ hgo2
                · rfl
              subst hb
              exact .inl ⟨h, hE2⟩
            · exact .inr h
          have HD := hide (show DO w wr B pb n L1 p2 bad2 from ⟨I.bel, I.rs, ⟨_, _, _, S2, hMn2, hMp2⟩, I.res, I.ln, by
            have := I.eq
            rw [this]
            cases bad2
            · have hc : cn ≤ 0 := by
                by_cases h : 0 < cn
                · exact absurd ⟨rfl, h⟩ hgo2
                · omega
              simp [inner_zero hc, rest2]
            · rfl⟩)
          have hmeas : meas wr (w.heap.size + 1 + 1) < n - p + 1 := by
            cases bad2
            · rw [I.rs.good]; have := hq rfl; omega
            · rw [I.rs.evil]; omega
          have HMs := hide hmeas
          clear I S2 R2 hE2 had2 hMp2 hgo2 hmeas
          rcases hcond with ⟨h1, ty, yy, rfl⟩ | h1
          all_goals
            go_wp2_with fail
            go_roundw
            case rel => exact ⟨L1, p2, bad2, unhide HD⟩
            case measure => rw [unhide gm]; exact unhide HMs
    · have hfin : (0 < n - p ∧ ∃ t y, er = .iface t y) ∨ ¬ 0 < n - p := by
        by_cases h : 0 < n - p
        · have hb : bad = true := by
            cases bad
            · exact absurd ⟨rfl, by omega⟩ hgo
            · rfl
          subst hb
          exact .inl ⟨h, hE⟩
        · exact .inr h
      have hL : outer B n 0 [] = L := by
        rw [O.eq]
        cases bad
        · have : n ≤ p := by
            by_cases h : p < n
            · exact absurd ⟨rfl, h⟩ hgo
            · omega
          simp [outer_end this]
        · rfl
      have HL := hide hL
      have HO := hide O
      obtain ⟨av, cv, rfl⟩ := S.tb.tn.shape
      obtain ⟨om, rfl⟩ : ∃ o, ix = .map o := by
        rcases S.ixx with ⟨e, _⟩ | ⟨mb, e, _⟩
        · exact ⟨_, e⟩
        · exact ⟨_, e⟩
      have HS := hide S
      have lw : w.heap.size < wr.heap.size := (Array.getElem?_eq_some_iff.1 O.res).1
      have lwb := S.lt
      have e1 : (w.heap.size + 1) ≠ w.heap.size := by omega
      clear hL O S R hE had1 hMp hgo
      rcases hfin with ⟨h1, ty, yy, rfl⟩ | h1
      · have k1 : (0 : Int) < ((n - p : Nat) : Int) := by omega
        go_upto_region 18 with fail
        go_region
        all_goals
          go_wp2_with fail
          refine bodyPost_ret (v := .tuple #[.agg #[.slice av L.length cv, .map om], .iface ty yy]) (by simp [results, Tryf.results16, go_sem, t0, t1]) rfl ?_
          refine ⟨_, _, _, rfl, ?_, ?_, ?_⟩
          · rw [unhide HL]
            exact (unhide HS).tb.tn.res (unhide HO).res (unhide HS).tb
          · rw [unhide HL]
            exact (unhide HS).ixx.res (unhide HO).res
          · exact (((unhide HO).bel.setCell (by simp) _).setCell (by simp) _).drew
      · have k1 : ¬ (0 : Int) < ((n - p : Nat) : Int) := by omega
        go_upto_region 18 with fail
        go_region
        all_goals
          go_wp2_with fail
          refine bodyPost_ret (v := .tuple #[.agg #[.slice av L.length cv, .map om], er]) (by simp [results, Tryf.results16, go_sem, t0, t1]) rfl ?_
          refine ⟨_, _, _, rfl, ?_, ?_, ?_⟩
          · rw [unhide HL]
            exact (unhide HS).tb.tn.res (unhide HO).res (unhide HS).tb
          · rw [unhide HL]
            exact (unhide HS).ixx.res (unhide HO).res
          · exact (((unhide HO).bel.setCell (by simp) _).setCell (by simp) _).drew
end Go.Proofs.Qxb6616086aFmt.Dw
