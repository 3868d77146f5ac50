import Derived.Test.Qxb6616086aFmtDwI
import Derived.Deep.DeepCutAuto
namespace Go.Proofs.Qxb6616086aFmt.Dw
open Go.RowKit Go.Deep Go.Extern.Stop Go.Stop Go.Extern
set_option linter.unusedVariables false

/-- what zzDecodeModel leaves -/
def MD (w w' : World) (B : Nat → Int) (n : Nat) (e : Ending) : Prop :=
  ∃ (v : Value) (fl : Value), e = .returned (.tuple #[v, fl]) ∧ TsS w' w.heap.size v (outer B n 0 []) n ∧ Below w.heap.size w w'

structure Out (w wr : World) (B : Nat → Int) (n p : Nat) (v : Value) (L : List ByteArray) : Prop where
  bel : Below w.heap.size w wr
  ts : TsS wr w.heap.size v L p
  ln : L.length ≤ p
  pn : p ≤ n
  eq : outer B n 0 [] = outer B n p L

/-- the table of this name is at hand -/
structure Nam (w w1 : World) (B : Nat → Int) (n p : Nat) (v : Value) (L : List ByteArray) (t : Nat) : Prop where
  bel : Below w.heap.size w w1
  ts : TsS w1 w.heap.size v L p
  ln : L.length ≤ p + 1
  tl : t < L.length
  pn : p < n

structure Inn (w wr : World) (B : Nat → Int) (n : Nat) (v : Value) (L : List ByteArray) (t : Nat) (cnt : Int) (q : Nat) (c : Int) (p : Nat) : Prop where
  bel : Below w.heap.size w wr
  ts : TsS wr w.heap.size v L p
  ln : L.length ≤ p
  tl : t < L.length
  qp : q ≤ p
  pn : p ≤ n
  c0 : 0 ≤ c
  c1 : c < 18446744073709551616
  eq : inner B n cnt q = inner B n c p

theorem Out.named {w wr w1 : World} {B : Nat → Int} {n p : Nat} {v : Value} {L : List ByteArray} {x : ByteArray} {e : Ending} (O : Out w wr B n p v L) (hp : p < n) (h : TA wr w1 w.heap.size L p x e) :
    ∃ v' t, e = .returned (.tuple #[v', .int .i64 (t : Nat)]) ∧ Nam w w1 B n p v' (addN L x) t := by
  obtain ⟨v', t, rfl, h1, h2, h3, h4⟩ := h
  exact ⟨v', t, rfl, O.bel.trans h3, h1, by have := addN_len L x; have := O.ln; omega, h2, hp⟩

theorem Nam.fin {w w1 : World} {B : Nat → Int} {n p : Nat} {v : Value} {L : List ByteArray} {t : Nat} (N : Nam w w1 B n p v L t) (h : outer B n 0 [] = L) (fl : Value) : MD w w1 B n (.returned (.tuple #[v, fl])) :=
  ⟨v, fl, rfl, h ▸ N.ts.mono (by have := N.pn; omega), N.bel⟩

theorem Inn.fin {w wr : World} {B : Nat → Int} {n : Nat} {v : Value} {L : List ByteArray} {t : Nat} {cnt : Int} {q : Nat} {c : Int} {p : Nat} (I : Inn w wr B n v L t cnt q c p) (h : outer B n 0 [] = L) (fl : Value) : MD w wr B n (.returned (.tuple #[v, fl])) :=
  ⟨v, fl, rfl, h ▸ I.ts.mono I.pn, I.bel⟩

/-- the end of the record, told by the inner loop -/
def Tail (B : Nat → Int) (n : Nat) (L : List ByteArray) (cnt : Int) (q : Nat) : Prop :=
  outer B n 0 [] = match inner B n cnt q with | none => L | some p' => outer B n p' L
theorem Tail.none {B : Nat → Int} {n : Nat} {L : List ByteArray} {cnt : Int} {q : Nat} (h : Tail B n L cnt q) (hi : inner B n cnt q = none) : outer B n 0 [] = L := by
  unfold Tail at h
  rw [hi] at h
  exact h
theorem Tail.some {B : Nat → Int} {n : Nat} {L : List ByteArray} {cnt : Int} {q p : Nat} (h : Tail B n L cnt q) (hi : inner B n cnt q = some p) : outer B n 0 [] = outer B n p L := by
  unfold Tail at h
  rw [hi] at h
  exact h

/-- one change more at table t -/
theorem pushT {w wr w3 : World} {L : List ByteArray} {t g cap p k m : Nat} {v' : Value} {zs : List Value} (hb : Below w.heap.size w wr) (T : TsS wr w.heap.size (.slice (some ⟨g, 0, none⟩) L.length cap) L p) (ht : t < L.length)
    (hk : k ≤ p) (S : Shp w.heap.size 51 wr w3) (own3 : w3.ownsRow w.heap.size 51 3 v' (k + 1) zs) (hm : p + 1 ≤ m) :
    TsS (w3.setCell ⟨g, t * 3 + 2, none⟩ v') w.heap.size (.slice (some ⟨g, 0, none⟩) L.length cap) L m ∧ Below w.heap.size w (w3.setCell ⟨g, t * 3 + 2, none⟩ v') := by
  obtain ⟨cur, hg, hbg⟩ := T.row
  exact ⟨(T.chg S).put ht own3 (by omega) (by omega), (hb.trans (S.below hb.size)).setCell (by simpa using hbg) _⟩

theorem own_below {w w' : World} {base : Nat} {e : TypeId} {size : Nat} {v : Value} {n : Nat} {xs : List Value} (h : w.ownsRow base e size v n xs) (hb : Below w.heap.size w w') : w'.ownsRow base e size v n xs :=
  h.kept (gbelow (r := none) hb) (by cases v.ownBlock <;> simp)
theorem bts_sub {w : World} {pb n s e : Nat} {B : Nat → Int} {ad : Addr} (h : PB w pb n B) (he : e ≤ n) (hs : s < e → ad = ⟨pb, s, none⟩) : Bts w (some ad) (e - s) (fun i => B (s + i)) :=
  fun i hi => ⟨pb, s, by rw [hs (by omega)], h (s + i) (by omega)⟩

theorem bts0 {w : World} {pb n : Nat} {B : Nat → Int} (h : PB w pb n B) : Bts w (some ⟨pb, 0, none⟩) n B := fun i hi => ⟨pb, 0, rfl, by rw [Nat.zero_add]; exact h i hi⟩
theorem sub_of {pb s e c : Nat} {ad : Addr} (hse : s ≤ e) (h : s < e → ad = ⟨pb, s, none⟩) : Sub pb s e (.slice (some ad) (e - s) c) := ⟨hse, some ad, c, rfl, fun hlt => by rw [h hlt]⟩

set_option maxHeartbeats 8000000 in
set_option maxRecDepth 100000 in
theorem decodeModel (ad : Option Addr) (pb n : Nat) (B : Nat → Int) (w : World) (hn : n ≤ 65536) (had : 0 < n → ad = some ⟨pb, 0, none⟩) (hP : PB w pb n B) (hpb : 0 < n → pb < w.heap.size) (hr : ∀ i, i < n → 0 ≤ B i ∧ B i < 256) :
    Calls Tryf.prog 7 #[.slice ad n n] w fun e w' => MD w w' B n e := by
  obtain ⟨i0, hi0, hz0, hz1, hz2⟩ := info51
  have HP := hide hP
  have HR := hide hr
  clear hP hr
  go_enter Tryf.func7, Tryf.ntmps7
  go_wp2_with fail
  go_loopw [4, 5] (fun ts pv wr => ∃ p L, pv = .int .i64 (p : Nat) ∧ Out w wr B n p ts L) (fun ts pv _ => n - (intOf pv).toNat)
  case atStart => exact ⟨0, [], rfl, Below.refl _ _, TsS.nil _ _ _, Nat.le_refl _, Nat.zero_le _, rfl⟩
  case round =>
    obtain ⟨p, L, rfl, O⟩ := hrel
    by_cases hp : p < n
    · have e0 := had (by omega)
      subst e0
      have P1 := (unhide HP).below O.bel (hpb (by omega))
      have C1 := zzField (some ⟨pb, 0, none⟩) n n p B wr (by omega) hn (bts0 P1)
      have j1 : (p : Int) < (n : Int) := by omega
      cases hf : fld B n p with
      | none =>
        rw [hf] at C1
        simp only [fldTup] at C1
        have HC := hide C1
        have hD := hide (O.eq.trans (outer_short (by omega) hf))
        have HO := hide O
        have C2 := hide (zzTableAt w.heap.size _ L p ByteArray.empty wr O.ts (by have := O.ln; omega) O.bel.size)
        clear C1 O P1 hf had
        go_wp2_with (go_at_call 13; refine (unhide HC).mono ?_; rintro e w' ⟨rfl, hw⟩; subst hw)
        refine (unhide C2).mono ?_
        rintro e w1 hTA
        obtain ⟨v1, t, rfl, N⟩ := (unhide HO).named hp hTA
        have HN := hide N
        clear hTA N C2
        go_wp2_with fail
        go_ret2
        exact (unhide HN).fin (unhide hD) _
      | some se =>
        obtain ⟨s, e⟩ := se
        obtain ⟨f1, f2, f3⟩ := fld_some hf
        rw [hf] at C1
        simp only [fldTup] at C1
        have HC := hide C1
        have hD := hide (O.eq.trans (outer_name (by omega) hf))
        have HO := hide O
        have C2 := hide (zzTableAt w.heap.size _ L p (nm B s e) wr O.ts (by have := O.ln; omega) O.bel.size)
        have HP1 := hide P1
        clear C1 O P1 hf
        go_wp2_with (first | (go_at_call 13; refine (unhide HC).mono ?_; rintro e w' ⟨rfl, hw⟩; subst hw) | (refine wpList_cutsub _ rfl _ _ _ rfl pb n s e rfl rfl rfl f2 f3 ?_; intro ad1 c1 had1; have hcv := conv (unhide HP1) f3 (sub_of (c := c1) f2 had1)))
        refine (unhide C2).mono ?_
        rintro r w1 hTA
        obtain ⟨v1, t, rfl, N⟩ := (unhide HO).named hp hTA
        have P2 := (unhide HP).below N.bel (hpb (by omega))
        have C3 := zzUvarint (some ⟨pb, 0, none⟩) n n e B w1 f3 hn (bts0 P2)
        have HN := hide N
        have hb1 := N.bel.size
        clear hTA N C2 HO HP1 HC P2 hcv had1
        cases hu : uv B n e with
        | none =>
          rw [hu] at C3
          have hD2 := unhide hD
          rw [hu] at hD2
          have HD := hide hD2
          simp only [uvTup] at C3
          have HC3 := hide C3
          clear C3 hD hD2 hu
          go_wp2_with (go_at_call 15; refine (unhide HC3).mono ?_; rintro e w' ⟨rfl, hw⟩; subst hw)
          go_ret2
          exact (unhide HN).fin (unhide HD) _
        | some cq =>
          obtain ⟨cnt, q⟩ := cq
          obtain ⟨u1, u2', u3', u4'⟩ := uv_some hu
          rw [hu] at C3
          have hD2 := unhide hD
          rw [hu] at hD2
          have HD := hide (show Tail B n (addN L (nm B s e)) cnt q from hD2)
          simp only [uvTup] at C3
          have HC3 := hide C3
          generalize addN L (nm B s e) = L1 at *
          have HI0 := hide (show Inn w w1 B n v1 L1 t cnt q cnt q from ⟨(unhide HN).bel, (unhide HN).ts.mono (by omega), by have := (unhide HN).ln; omega, (unhide HN).tl, Nat.le_refl _, u4', u1, u2', rfl⟩)
          clear C3 hD hD2 hu HN
          go_wp2_with (go_at_call 15; refine (unhide HC3).mono ?_; rintro e w' ⟨rfl, hw⟩; subst hw)
          go_loopw [5, 11] (fun pv cv wr => ∃ (p2 : Nat) (c2 : Int), pv = .int .i64 (p2 : Nat) ∧ cv = .int .u64 c2 ∧ Inn w wr B n v1 L1 t cnt q c2 p2) (fun pv cv _ => n - (intOf pv).toNat)
          case atStart => exact ⟨q, cnt, rfl, rfl, unhide HI0⟩
          case round =>
            obtain ⟨p2, c2, rfl, rfl, I⟩ := hrel
            clear HI0 HC3
            have LN := I.ln
            have TL := I.tl
            have QP := I.qp
            have PN := I.pn
            have K0 := I.c0
            have K1 := I.c1
            have BS := I.bel.size
            by_cases hc : c2 ≤ 0
            · have k1 : ¬ (0 : Int) < c2 := by omega
              have HO2 := hide (show Out w wr B n p2 v1 L1 from ⟨I.bel, I.ts, I.ln, I.pn, (unhide HD).some (I.eq.trans (inner_zero hc))⟩)
              clear I hc
              go_wp2_with fail
              go_roundw
              case rel => exact ⟨p2, L1, rfl, unhide HO2⟩
              case measure => simp [intOf]; omega
            · have k1 : (0 : Int) < c2 := by omega
              have k2 : IntKind.u64.wrap (c2 - 1) = c2 - 1 := by rw [IntKind.wrap_u64]; omega
              by_cases hpn : n ≤ p2
              · have k3 : (n : Int) ≤ (p2 : Int) := by omega
                have HF := hide (I.fin ((unhide HD).none (I.eq.trans (inner_end hc hpn))) (.bool true))
                clear I hc hpn
                go_wp2_with fail
                go_ret2
                exact unhide HF
              · have k3 : ¬ (n : Int) ≤ (p2 : Int) := by omega
                have k4 : (p2 : Int) < (n : Int) := by omega
                have k5 : (0 : Int) ≤ (p2 : Int) := by omega
                have P3 := (unhide HP).below I.bel (hpb (by omega))
                have hk := P3 p2 (by omega)
                obtain ⟨g, cap, u, k, ys, rfl, A⟩ := I.ts.at I.tl
                by_cases h3 : B p2 = 3
                · have k6 : (B p2 == 3) = true := beq_iff_eq.2 h3
                  obtain ⟨y, hy⟩ := Option.isSome_iff_exists.1 A.c1
                  have f1' := A.fz (t * 3 + 1)
                  have HI := hide (show Inn w (wr.setCell ⟨g, t * 3 + 1, none⟩ (.bool true)) B n (.slice (some ⟨g, 0, none⟩) L1.length cap) L1 t cnt q (c2 - 1) (p2 + 1) from ⟨I.bel.setCell (by simpa using A.lo) _, (I.ts.drop (t := t) _).mono (by omega), by omega, TL, by omega, by omega, by omega, by omega, I.eq.trans (inner_drop hc hpn h3)⟩)
                  have tl : (t : Int) < (L1.length : Int) := by omega
                  have tl0 : (0 : Int) ≤ (t : Int) := by omega
                  clear I A h3 P3 hc hpn
                  go_wp2
                  go_roundw
                  case rel => exact ⟨p2 + 1, c2 - 1, by go_num, rfl, unhide HI⟩
                  case measure => simp [intOf]; omega
                · have k6 : (B p2 == 3) = false := beq_eq_false_iff_ne.2 h3
                  have HOw := hide A.own
                  have KM := A.km
                  have cc2 := A.c2
                  have GLT := A.lt
                  have HT := hide I.ts
                  have HBl := hide I.bel
                  have HS := hide (Shp.refl w.heap.size 51 wr)
                  have tl : (t : Int) < (L1.length : Int) := by omega
                  have tl0 : (0 : Int) ≤ (t : Int) := by omega
                  have C4 : Calls Tryf.prog 13 #[.slice (some ⟨pb, 0, none⟩) n n, .int .i64 ((p2 : Int) + 1)] wr _ := zzField (some ⟨pb, 0, none⟩) n n (p2 + 1) B wr (by omega) hn (bts0 P3)
                  have HP3 := hide P3
                  cases hf2 : fld B n (p2 + 1) with
                  | none =>
                    rw [hf2] at C4
                    simp only [fldTup] at C4
                    have HC4 := hide C4
                    have HE := hide ((unhide HD).none (I.eq.trans (inner_short hc hpn h3 hf2)))
                    clear C4 A P3 hc hpn h3 hf2 I
                    by_cases h2 : B p2 = 2
                    · have k7 : (B p2 == 2) = true := beq_iff_eq.2 h2
                      clear h2
                      go_wp2_with (first | (go_at_call 13; refine (unhide HC4).mono ?_; rintro e w' ⟨rfl, hw⟩; subst hw) | (at_builtin; refine wpList_append_shp _ rfl _ _ 40 rfl w.heap.size 51 i0 (.agg #[.string ⟨#[]⟩, .slice none 0 0, .bool false]) 3 48 Tryf.underlying40 hi0 hz0 hz1 hz2 rfl (by decide) _ _ _ rfl ((unhide HOw).alloc _) _ _ [.string ⟨#[]⟩, .slice none 0 0, .bool true] rfl rfl (cell_three_new _ _ _ _ _) (fun u hu => by simp at hu; rcases hu with rfl | rfl | rfl <;> rfl) (by unfold maxLen; omega) (by omega) (by simp; omega) ?_; intro v' w3 own3 shp3; obtain ⟨av, cv, rfl⟩ := own_shape own3; have S3 := (unhide HS).trans ((Shp.ofBelow ((Below.refl _ _).alloc (Nat.le_refl _) _)).trans shp3); obtain ⟨q1, q2⟩ := ((unhide HT).chg S3).spot TL; obtain ⟨q3, q4⟩ := Option.isSome_iff_exists.1 q1; have HS3 := hide S3; have OW3 := hide own3; clear S3 q1 own3 shp3))
                      go_ret2
                      obtain ⟨T4, B4⟩ := pushT (unhide HBl) (unhide HT) TL KM (unhide HS3) (unhide OW3) (m := n) (by omega)
                      exact ⟨_, _, rfl, (unhide HE) ▸ T4, B4⟩
                    · have k7 : (B p2 == 2) = false := beq_eq_false_iff_ne.2 h2
                      clear h2
                      by_cases h1 : B p2 = 1
                      · have k8 : (B p2 == 1) = true := beq_iff_eq.2 h1
                        have k9 : (B p2 != 1) = false := by simp [h1]
                        clear h1
                        go_wp2_with (first | (go_at_call 13; refine (unhide HC4).mono ?_; rintro e w' ⟨rfl, hw⟩; subst hw) | (at_builtin; refine wpList_append_shp _ rfl _ _ 40 rfl w.heap.size 51 i0 (.agg #[.string ⟨#[]⟩, .slice none 0 0, .bool false]) 3 48 Tryf.underlying40 hi0 hz0 hz1 hz2 rfl (by decide) _ _ _ rfl ((unhide HOw).alloc _) _ _ [.string ⟨#[]⟩, .slice none 0 0, .bool false] rfl rfl (cell_three_new _ _ _ _ _) (fun u hu => by simp at hu; rcases hu with rfl | rfl | rfl <;> rfl) (by unfold maxLen; omega) (by omega) (by simp; omega) ?_; intro v' w3 own3 shp3; obtain ⟨av, cv, rfl⟩ := own_shape own3; have S3 := (unhide HS).trans ((Shp.ofBelow ((Below.refl _ _).alloc (Nat.le_refl _) _)).trans shp3); obtain ⟨q1, q2⟩ := ((unhide HT).chg S3).spot TL; obtain ⟨q3, q4⟩ := Option.isSome_iff_exists.1 q1; have HS3 := hide S3; have OW3 := hide own3; clear S3 q1 own3 shp3))
                        go_ret2
                        obtain ⟨T4, B4⟩ := pushT (unhide HBl) (unhide HT) TL KM (unhide HS3) (unhide OW3) (m := n) (by omega)
                        exact ⟨_, _, rfl, (unhide HE) ▸ T4, B4⟩
                      · have k9 : (B p2 != 1) = true := by simp [h1]
                        clear h1
                        go_wp2_with (first | (go_at_call 13; refine (unhide HC4).mono ?_; rintro e w' ⟨rfl, hw⟩; subst hw))
                        go_ret2
                        exact ⟨_, _, rfl, (unhide HE) ▸ (unhide HT).mono (by omega), unhide HBl⟩
                  | some kse =>
                    obtain ⟨ks, ke⟩ := kse
                    obtain ⟨g1, g2, g3⟩ := fld_some hf2
                    rw [hf2] at C4
                    simp only [fldTup] at C4
                    have HC4 := hide C4
                    have hE := I.eq.trans (inner_key hc hpn h3 hf2)
                    clear C4 A P3 hc hpn h3 hf2 I
                    by_cases h2 : B p2 = 2
                    · rw [if_pos h2] at hE
                      have HE := hide hE
                      have k7 : (B p2 == 2) = true := beq_iff_eq.2 h2
                      clear h2 hE
                      go_wp2_with (first | (go_at_call 13; refine (unhide HC4).mono ?_; rintro e w' ⟨rfl, hw⟩; subst hw) | (refine wpList_cutsub _ rfl _ _ _ rfl pb n ks ke rfl rfl rfl g2 g3 ?_; intro ad2 c3 had2; have hcv2 := conv (unhide HP3) g3 (sub_of (c := c3) g2 had2)) | (at_builtin; refine wpList_append_shp _ rfl _ _ 40 rfl w.heap.size 51 i0 (.agg #[.string ⟨#[]⟩, .slice none 0 0, .bool false]) 3 48 Tryf.underlying40 hi0 hz0 hz1 hz2 rfl (by decide) _ _ _ rfl ((unhide HOw).alloc _) _ _ [.string (nm B ks ke), .slice none 0 0, .bool true] rfl rfl (cell_three_new _ _ _ _ _) (fun u hu => by simp at hu; rcases hu with rfl | rfl | rfl <;> rfl) (by unfold maxLen; omega) (by omega) (by simp; omega) ?_; intro v' w3 own3 shp3; obtain ⟨av, cv, rfl⟩ := own_shape own3; have S3 := (unhide HS).trans ((Shp.ofBelow ((Below.refl _ _).alloc (Nat.le_refl _) _)).trans shp3); obtain ⟨q1, q2⟩ := ((unhide HT).chg S3).spot TL; obtain ⟨q3, q4⟩ := Option.isSome_iff_exists.1 q1; have HS3 := hide S3; have OW3 := hide own3; clear S3 q1 own3 shp3))
                      go_roundw
                      case rel =>
                        obtain ⟨T4, B4⟩ := pushT (unhide HBl) (unhide HT) TL KM (unhide HS3) (unhide OW3) (m := ke) (by omega)
                        exact ⟨ke, c2 - 1, rfl, rfl, B4, T4, by omega, TL, by omega, by omega, by omega, by omega, unhide HE⟩
                      case measure => simp [intOf]; omega
                    · rw [if_neg h2] at hE
                      have k7 : (B p2 == 2) = false := beq_eq_false_iff_ne.2 h2
                      clear h2
                      by_cases h1 : B p2 = 1
                      · rw [if_pos h1] at hE
                        have k9 : (B p2 != 1) = false := by simp [h1]
                        clear h1
                        have C5 := zzField (some ⟨pb, 0, none⟩) n n ke B wr (by omega) hn (bts0 (unhide HP3))
                        cases hf5 : fld B n ke with
                        | none =>
                          rw [hf5] at C5
                          simp only [fldTup] at C5
                          have HC5 := hide C5
                          have HE := hide ((unhide HD).none (by rw [hf5] at hE; exact hE))
                          clear C5 hE hf5
                          go_wp2_with fail
                          refine (unhide HC4).mono ?_
                          rintro e w' ⟨rfl, hw⟩
                          subst hw
                          go_wp2_with (refine wpList_cutsub _ rfl _ _ _ rfl pb n ks ke rfl rfl rfl g2 g3 ?_; intro ad2 c3 had2; have hcv2 := conv (unhide HP3) g3 (sub_of (c := c3) g2 had2))
                          refine (unhide HC5).mono ?_
                          rintro e w' ⟨rfl, hw⟩
                          subst hw
                          go_wp2_with (first | (at_builtin; refine wpList_append_shp _ rfl _ _ 40 rfl w.heap.size 51 i0 (.agg #[.string ⟨#[]⟩, .slice none 0 0, .bool false]) 3 48 Tryf.underlying40 hi0 hz0 hz1 hz2 rfl (by decide) _ _ _ rfl ((unhide HOw).alloc _) _ _ [.string (nm B ks ke), .slice none 0 0, .bool false] rfl rfl (cell_three_new _ _ _ _ _) (fun u hu => by simp at hu; rcases hu with rfl | rfl | rfl <;> rfl) (by unfold maxLen; omega) (by omega) (by simp; omega) ?_; intro v' w3 own3 shp3; obtain ⟨av, cv, rfl⟩ := own_shape own3; have S3 := (unhide HS).trans ((Shp.ofBelow ((Below.refl _ _).alloc (Nat.le_refl _) _)).trans shp3); obtain ⟨q1, q2⟩ := ((unhide HT).chg S3).spot TL; obtain ⟨q3, q4⟩ := Option.isSome_iff_exists.1 q1; have HS3 := hide S3; have OW3 := hide own3; clear S3 q1 own3 shp3))
                          go_ret2
                          obtain ⟨T4, B4⟩ := pushT (unhide HBl) (unhide HT) TL KM (unhide HS3) (unhide OW3) (m := n) (by omega)
                          exact ⟨_, _, rfl, (unhide HE) ▸ T4, B4⟩
                        | some vse =>
                          obtain ⟨vs, ve⟩ := vse
                          obtain ⟨g4, g5, g6⟩ := fld_some hf5
                          rw [hf5] at C5
                          simp only [fldTup] at C5
                          have HC5 := hide C5
                          have HE := hide (show inner B n cnt q = inner B n (c2 - 1) ve by rw [hf5] at hE; exact hE)
                          clear C5 hE hf5
                          go_wp2_with fail
                          refine (unhide HC4).mono ?_
                          rintro e w' ⟨rfl, hw⟩
                          subst hw
                          go_wp2_with (refine wpList_cutsub _ rfl _ _ _ rfl pb n ks ke rfl rfl rfl g2 g3 ?_; intro ad2 c3 had2; have hcv2 := conv (unhide HP3) g3 (sub_of (c := c3) g2 had2))
                          refine (unhide HC5).mono ?_
                          rintro e w' ⟨rfl, hw⟩
                          subst hw
                          go_wp2_with (first | (refine wpList_cutsub _ rfl _ _ _ rfl pb n vs ve rfl rfl rfl g5 g6 ?_; intro ad3 c4 had3; have HCl := hide (zzClone (some ad3) (ve - vs) c4 (fun i => B (vs + i)) _ (bts_sub (unhide HP3) g6 had3) (by omega) (fun b off hb hlt => by rw [had3 (by omega)] at hb; cases hb; have := hpb (by omega); omega))) | (go_at_call 6; refine (unhide HCl).mono ?_; rintro e w2 hCl; rcases hCl with ⟨hno, _⟩ | ⟨_, rfl, hB2, _, hs2⟩; (exact absurd hno (by simp)); have HOw2 := hide (own_below (unhide HOw) hB2); have HS2 := hide ((unhide HS).trans (Shp.ofBelow hB2)); have T2 := (unhide HT).below hB2; have cc3 := (hB2.cell (p := ⟨g, t * 3 + 2, none⟩) GLT).trans cc2; clear T2) | (at_builtin; refine wpList_append_shp _ rfl _ _ 40 rfl w.heap.size 51 i0 (.agg #[.string ⟨#[]⟩, .slice none 0 0, .bool false]) 3 48 Tryf.underlying40 hi0 hz0 hz1 hz2 rfl (by decide) _ _ _ rfl ((unhide HOw2).alloc _) _ _ [.string (nm B ks ke), .slice (some ⟨w'.heap.size, 0, none⟩) (ve - vs) (ve - vs), .bool false] rfl rfl (cell_three_new _ _ _ _ _) (fun u hu => by simp at hu; rcases hu with rfl | rfl | rfl <;> rfl) (by unfold maxLen; omega) (by omega) (by simp; omega) ?_; intro v' w3 own3 shp3; obtain ⟨av, cv, rfl⟩ := own_shape own3; have S3 := (unhide HS2).trans ((Shp.ofBelow ((Below.refl _ _).alloc (Nat.le_refl _) _)).trans shp3); obtain ⟨q1, q2⟩ := ((unhide HT).chg S3).spot TL; obtain ⟨q3, q4⟩ := Option.isSome_iff_exists.1 q1; have HS3 := hide S3; have OW3 := hide own3; clear S3 q1 own3 shp3))
                          go_roundw
                          case rel =>
                            obtain ⟨T4, B4⟩ := pushT (unhide HBl) (unhide HT) TL KM (unhide HS3) (unhide OW3) (m := ve) (by omega)
                            exact ⟨ve, c2 - 1, rfl, rfl, B4, T4, by omega, TL, by omega, by omega, by omega, by omega, unhide HE⟩
                          case measure => simp [intOf]; omega
                      · rw [if_neg h1] at hE
                        have HE := hide ((unhide HD).none hE)
                        have k9 : (B p2 != 1) = true := by simp [h1]
                        clear h1 hE
                        go_wp2_with (first | (go_at_call 13; refine (unhide HC4).mono ?_; rintro e w' ⟨rfl, hw⟩; subst hw) | (refine wpList_cutsub _ rfl _ _ _ rfl pb n ks ke rfl rfl rfl g2 g3 ?_; intro ad2 c3 had2; have hcv2 := conv (unhide HP3) g3 (sub_of (c := c3) g2 had2)))
                        go_ret2
                        exact ⟨_, _, rfl, (unhide HE) ▸ (unhide HT).mono (by omega), unhide HBl⟩
    · have e1 : p = n := by have := O.pn; omega
      have j1 : ¬ (p : Int) < (n : Int) := by omega
      have HO := hide O
      have HD := hide (O.eq.trans (outer_end (by omega)))
      clear O e1
      go_wp2_with fail
      go_ret2
      exact ⟨_, _, rfl, (unhide HD) ▸ (unhide HO).ts.mono (unhide HO).pn, (unhide HO).bel⟩
end Go.Proofs.Qxb6616086aFmt.Dw
