import Derived.Test.Qxb6616086aFmtDwU
namespace Go.Proofs.Qxb6616086aFmt.Dw
open Go.RowKit Go.Deep Go.Extern.Stop Go.Stop Go.Extern Go.Maps Go.WideShapes Go.ChangeMaps
set_option linter.unusedVariables false

set_option maxHeartbeats 1000000 in
theorem zzBytesNo (a : Option Addr) (n c : Nat) (s : ByteArray) (w : World) (h1 : 1048576 < n + s.size) (hn : n ≤ 9223372036854775807) (hs : s.size ≤ 9223372036854775807) :
    Calls Tryf.prog 11 #[.slice a n c, .string s] w fun e w' => e = .returned (.bool false) ∧ w' = w := by
  by_cases k1 : 1048576 < n
  · have i1 : (1048576 : Int) < (n : Int) := by omega
    go_enter Tryf.func11, Tryf.ntmps11
    go_wp2
    go_ret
    exact ⟨rfl, rfl⟩
  · have i1 : ¬ (1048576 : Int) < (n : Int) := by omega
    by_cases k2 : 1048576 < s.size
    · have i2 : (1048576 : Int) < (s.size : Int) := by omega
      go_enter Tryf.func11, Tryf.ntmps11
      go_wp2
      go_ret
      exact ⟨rfl, rfl⟩
    · have i2 : ¬ (1048576 : Int) < (s.size : Int) := by omega
      have i3 : (1048576 : Int) < (n : Int) + (s.size : Int) := by omega
      go_enter Tryf.func11, Tryf.ntmps11
      go_wp2
      go_ret
      exact ⟨rfl, rfl⟩

/-- the payload that was cloned -/
structure Pay (w w1 : World) (ad : Option Addr) (pb n : Nat) (B : Nat → Int) : Prop where
  bel : Below w.heap.size w w1
  had : 0 < n → ad = some ⟨pb, 0, none⟩
  bytes : PB w1 pb n B
  lt : 0 < n → pb < w1.heap.size

theorem Cl.pay {w w1 : World} {a : Option Addr} {n : Nat} {B : Nat → Int} {e : Ending} (h : Cl w w1 a n B e) (hnil : a = none → n = 0) : ∃ ad pb, e = .returned (.slice ad n n) ∧ Pay w w1 ad pb n B := by
  rcases h with ⟨h1, rfl, rfl⟩ | ⟨_, rfl, h2, h3, h4⟩
  · have := hnil h1
    subst this
    exact ⟨none, 0, rfl, Below.refl _ _, fun h => absurd h (Nat.lt_irrefl _), fun i hi => absurd hi (Nat.not_lt_zero i), fun h => absurd h (Nat.lt_irrefl _)⟩
  · exact ⟨_, w.heap.size, rfl, h2, fun _ => rfl, h3, fun _ => h4⟩

theorem addN_size {L : List ByteArray} {m : Nat} (h : ∀ y ∈ L, y.size ≤ m) {x : ByteArray} (hx : x.size ≤ m) : ∀ y ∈ addN L x, y.size ≤ m := by
  intro y hy
  by_cases e : x ∈ L
  · rw [addN_pos e] at hy; exact h y hy
  · rw [addN_neg e] at hy
    simp at hy
    rcases hy with hy | hy
    · exact h y hy
    · rw [hy]; exact hx
theorem outer_size {B : Nat → Int} {n : Nat} : ∀ (k : Nat) {p : Nat} {L : List ByteArray}, n - p ≤ k → (∀ y ∈ L, y.size ≤ n) → ∀ y ∈ outer B n p L, y.size ≤ n := by
  intro k
  induction k with
  | zero => intro p L hk h; rw [outer_end (by omega)]; exact h
  | succ k ih =>
    intro p L hk h
    by_cases hp : n ≤ p
    · rw [outer_end hp]; exact h
    · cases hf : fld B n p with
      | none => rw [outer_short hp hf]; exact addN_size h (by simp)
      | some se =>
        obtain ⟨s, e⟩ := se
        have := fld_some hf
        have hsz : (nm B s e).size ≤ n := by rw [nm_size]; omega
        rw [outer_name hp hf]
        cases hu : uv B n e with
        | none => exact addN_size h hsz
        | some cq =>
          obtain ⟨c, q⟩ := cq
          have := uv_some hu
          simp only
          cases hi : inner B n c q with
          | none => exact addN_size h hsz
          | some p' =>
            have := inner_some hi
            exact ih (by omega) (addN_size h hsz)
theorem outer_len {B : Nat → Int} {n : Nat} : (outer B n 0 []).length ≤ n := by
  have key : ∀ (k : Nat) {p : Nat} {L : List ByteArray}, n - p ≤ k → p ≤ n → L.length ≤ p → (outer B n p L).length ≤ n := by
    intro k
    induction k with
    | zero => intro p L hk hp h; rw [outer_end (by omega)]; omega
    | succ k ih =>
      intro p L hk hp h
      by_cases hp : n ≤ p
      · rw [outer_end hp]; omega
      · cases hf : fld B n p with
        | none => rw [outer_short hp hf]; have := addN_len L ByteArray.empty; omega
        | some se =>
          obtain ⟨s, e⟩ := se
          have := fld_some hf
          have := addN_len L (nm B s e)
          rw [outer_name hp hf]
          cases hu : uv B n e with
          | none => simp only; omega
          | some cq =>
            obtain ⟨c, q⟩ := cq
            have := uv_some hu
            simp only
            cases hi : inner B n c q with
            | none => simp only; omega
            | some p' =>
              have := inner_some hi
              by_cases hpp : p' ≤ n
              · exact ih (by omega) hpp (by omega)
              · simp only; rw [outer_end (by omega)]; omega
  exact key n (by omega) (by omega) (by simp)
theorem zzFindOn (ix v : Value) (L : List ByteArray) (x : ByteArray) (W w' : World) (T : TN W v L) (I : IX W ix L) (hL : L.length ≤ 65536) (hx : x.size ≤ maxLen) (hb : Below W.heap.size W w') :
    Calls Tryf.prog 12 #[.agg #[v, ix], .string x] w' fun e w'' => FA L x e ∧ Below W.heap.size W w'' := by
  have T' := T.below hb
  have I' := I.below hb
  refine (zzFind ix v L x w' T' I' hL hx).mono ?_
  rintro e w2 ⟨h, hb2⟩
  exact ⟨h, hb.trans (hb2.mono hb.size)⟩
theorem FA.at {L : List ByteArray} {x : ByteArray} {e : Ending} (h : FA L x e) (nd : L.Nodup) {k : Nat} (hk : L[k]? = some x) : e = .returned (.int .i64 (k : Nat)) := by
  obtain ⟨r, rfl, ⟨i, rfl, hi⟩ | ⟨rfl, hno⟩⟩ := h
  · rw [nodup_get nd hi hk]
  · exact absurd (List.mem_of_getElem? hk) hno
theorem FA.no {L : List ByteArray} {x : ByteArray} {e : Ending} (h : FA L x e) (hx : ¬ x ∈ L) : e = .returned (.int .i64 (-1)) := by
  obtain ⟨r, rfl, ⟨i, rfl, hi⟩ | ⟨rfl, hno⟩⟩ := h
  · exact absurd (List.mem_of_getElem? hi) hx
  · rfl

set_option maxHeartbeats 2000000 in
set_option maxRecDepth 100000 in
theorem walk (F : Interp) (a : Option Addr) (n c : Nat) (B : Nat → Int) (s : ByteArray) (w : World) (hF : F.answers w.tape) (hB : Bts w a n B) (hr : ∀ i, i < n → 0 ≤ B i ∧ B i < 256) (hlt : ∀ b off, a = some ⟨b, off, none⟩ → 0 < n → b < w.heap.size) (hnil : a = none → n = 0)
    (hn : n ≤ 9223372036854775807) (hs : s.size ≤ 9223372036854775807) :
    Calls Tryf.prog 4 #[.slice a n c, .string s] w fun e w' => e = .returned (.bool true) ∧ Below w.heap.size w w' := by
  have hnot : ∀ (x : Bool) (w : World), (Op.unary .not (.bool x)).run Tryf.prog w = .ok (.bool (!x)) w := fun _ _ => rfl
  by_cases hsum : n + s.size ≤ 1048576
  · have C1 := hide (zzBytes a n c s w hsum)
    by_cases h1 : n ≤ 65536
    · by_cases h2 : s.size ≤ 65536
      · have i1 : ¬ (65536 : Int) < (n : Int) := by omega
        have i2 : ¬ (65536 : Int) < (s.size : Int) := by omega
        have C2 := hide (zzClone a n c B w hB (by omega) hlt)
        have HF := hide hF
        have HR := hide hr
        clear hB hlt hF hr
        go_enter Tryf.func4, Tryf.ntmps4
        go_wp2_with (first | (go_at_call 11; refine (unhide C1).mono ?_; rintro e w' ⟨rfl, hw⟩; subst hw))
        refine (unhide C2).mono ?_
        rintro e w1 hCl
        obtain ⟨ad, pb, rfl, P1⟩ := hCl.pay hnil
        have C3 := hide (decodeModel ad pb n B w1 h1 P1.had P1.bytes P1.lt (unhide HR))
        have HP1 := hide P1
        clear hCl P1 C1 C2
        go_wp2_with fail
        refine (unhide C3).mono ?_
        rintro e w2 ⟨v, fl, rfl, T2, B2⟩
        have hF2 : F.answers w2.tape := by rw [B2.tape, (unhide HP1).bel.tape]; exact unhide HF
        have C4 := hide (zzDecodeWrites F ad pb n B w2 hF2 h1 (unhide HP1).had (fun i hi => (B2.cell (p := ⟨pb, i, none⟩) ((unhide HP1).lt (by omega))).trans ((unhide HP1).bytes i hi)) (fun h => Nat.lt_of_lt_of_le ((unhide HP1).lt h) B2.size))
        have HB2 := hide ((unhide HP1).bel.trans (B2.mono (unhide HP1).bel.size))
        obtain ⟨av, cv, rfl⟩ := T2.shape
        have HT2 := hide T2
        clear T2 B2 hF2 C3
        go_wp2_with fail
        refine (unhide C4).mono ?_
        rintro e w3 ⟨v3, ix3, er, rfl, T3, I3, B3⟩
        obtain ⟨av3, cv3, rfl⟩ := T3.shape
        obtain ⟨om, rfl⟩ : ∃ o, ix3 = .map o := by
          rcases I3 with ⟨e, _⟩ | ⟨mb, e, _⟩
          · exact ⟨_, e⟩
          · exact ⟨_, e⟩
        have HT3 := hide ((unhide HT2).below B3)
        have HN := hide T3
        have HX := hide I3
        have HB3 := hide ((unhide HB2).trans (B3.mono (unhide HB2).size))
        have nd := hide (outer_nodup (B := B) (n := n) (p := 0) (L := []) n (by omega) List.nodup_nil)
        have szs := hide (outer_size (B := B) (n := n) (p := 0) (L := []) n (by omega) (by simp))
        have LLn : (outer B n 0 []).length ≤ n := by
          obtain ⟨xs, _, _⟩ := unhide HT2
          exact outer_len
        generalize outer B n 0 [] = LL at *
        clear T3 I3 B3 C4 HT2
        go_wp2_with fail
        have B4 : Below w3.heap.size w3 (w3.alloc (.cells #[.slice av3 LL.length cv3, .map om] 31)) := (Below.refl _ _).alloc (Nat.le_refl _) _
        have T4 := hide ((unhide HT3).below B4)
        have N4 := hide ((unhide HN).below B4)
        have X4 := hide ((unhide HX).below B4)
        have W0 : (w3.alloc (.cells #[.slice av3 LL.length cv3, .map om] 31)).cell? ⟨w3.heap.size, 0, none⟩ = some (.slice av3 LL.length cv3) := by simp
        have W1 : (w3.alloc (.cells #[.slice av3 LL.length cv3, .map om] 31)).cell? ⟨w3.heap.size, 1, none⟩ = some (.map om) := by simp
        have lW : w3.heap.size < (w3.alloc (.cells #[.slice av3 LL.length cv3, .map om] 31)).heap.size := by simp
        have HB4 := hide ((unhide HB3).trans (B4.mono (unhide HB3).size))
        generalize w3.alloc (.cells #[.slice av3 LL.length cv3, .map om] 31) = W4 at *
        generalize w3.heap.size = wsb at *
        clear B4 HT3 HN HX HB3
        go_loopw [9] (fun i wr => ∃ k : Nat, k ≤ LL.length ∧ i = .int .i64 k ∧ Below W4.heap.size W4 wr) (fun i _ => LL.length - (intOf i).toNat)
        case atStart => exact ⟨0, by omega, rfl, Below.refl _ _⟩
        case round =>
          obtain ⟨k, hk, rfl, hb⟩ := hrel
          by_cases hkl : k < LL.length
          · obtain ⟨x, hx⟩ : ∃ s, LL[k]? = some s := ⟨LL[k], List.getElem?_eq_getElem hkl⟩
            obtain ⟨g, cap', e1, hc⟩ := (unhide T4).name hx
            simp only [Value.slice.injEq, true_and] at e1
            obtain ⟨rfl, rfl⟩ := e1
            have lg := World.block_lt_of_cell? W4 _ hc
            have hxs : x.size ≤ maxLen := by have := unhide szs x (List.mem_of_getElem? hx); unfold maxLen; omega
            have i3 : (0 : Int) ≤ (k : Int) := by omega
            have i4 : (k : Int) < (LL.length : Int) := by omega
            have hne : ((k : Int) != (k : Int)) = false := by simp
            have HC := hide (fun w' (h : Below W4.heap.size W4 w') => zzFindOn (.map om) (.slice av3 LL.length cv3) LL x W4 w' (unhide N4) (unhide X4) (by omega) hxs h)
            have Hk := hide hx
            have hk0 := hide (fun w' (h : Below W4.heap.size W4 w') => (show w'.cell? ⟨wsb, 0, none⟩ = some (.slice av3 LL.length cv3) ∧ w'.cell? ⟨wsb, 1, none⟩ = some (.map om) ∧ w'.cell? ⟨g, k * 3, none⟩ = some (.string x) ∧ Below W4.heap.size W4 w' from ⟨(h.cell (p := ⟨wsb, 0, none⟩) lW).trans W0, (h.cell (p := ⟨wsb, 1, none⟩) lW).trans W1, (h.cell (p := ⟨g, k * 3, none⟩) lg).trans hc, h⟩))
            have hb0 : Below W4.heap.size W4 wr.drew := hb.drew
            clear hx hc
            go_upto_region 11 with fail
            go_region_held3 (fun w' => w'.cell? ⟨wsb, 0, none⟩ = some (.slice av3 LL.length cv3) ∧ w'.cell? ⟨wsb, 1, none⟩ = some (.map om) ∧ w'.cell? ⟨g, k * 3, none⟩ = some (.string x) ∧ Below W4.heap.size W4 w')
              ((refine unhide hk0 _ ?_; assumption))
              ((go_at_call 12; refine (unhide HC _ (by first | assumption | exact (And.right (And.right (And.right (by assumption)))))).mono ?_; rintro e w' ⟨hfa, hw⟩; obtain rfl := hfa.at (unhide nd) (unhide Hk)))
            all_goals
              go_wp2_with fail
              go_roundw
              case rel => exact ⟨k + 1, by omega, by go_num, hw⟩
              case measure => simp [intOf]; omega
          · have i4 : ¬ (k : Int) < (LL.length : Int) := by omega
            have c0 := (hb.cell (p := ⟨wsb, 0, none⟩) lW).trans W0
            have c1 := (hb.cell (p := ⟨wsb, 1, none⟩) lW).trans W1
            have hms : s.size ≤ maxLen := by unfold maxLen; omega
            have HC := hide (zzFindOn (.map om) (.slice av3 LL.length cv3) LL s W4 wr (unhide N4) (unhide X4) (by omega) hms hb)
            have HBr := hide hb
            have HBs := (unhide HB4).size
            clear hb W0 W1
            go_wp2_with fail
            go_loop [10, 11] (fun at_ i => ∃ j : Nat, j ≤ LL.length ∧ at_ = .int .i64 (-1) ∧ i = .int .i64 j ∧ ∀ q, q < j → LL[q]? ≠ some s) (fun at_ i => LL.length - (intOf i).toNat)
            case atStart => exact ⟨0, by omega, rfl, rfl, fun j hj => absurd hj (Nat.not_lt_zero j)⟩
            case round =>
              obtain ⟨j, hj, rfl, rfl, hno⟩ := hrel
              by_cases hjl : j < LL.length
              · obtain ⟨x, hx⟩ : ∃ s, LL[j]? = some s := ⟨LL[j], List.getElem?_eq_getElem hjl⟩
                obtain ⟨g, cap', e1, hc⟩ := (unhide T4).name hx
                simp only [Value.slice.injEq, true_and] at e1
                obtain ⟨rfl, rfl⟩ := e1
                have lg := World.block_lt_of_cell? W4 _ hc
                have hcr := ((unhide HBr).cell (p := ⟨g, j * 3, none⟩) lg).trans hc
                have j3 : (0 : Int) ≤ (j : Int) := by omega
                have j4 : (j : Int) < (LL.length : Int) := by omega
                clear hc
                by_cases hxs : x = s
                · have e3 : (x.toList == s.toList) = true := by rw [hxs]; simp
                  have Hx := hide (hxs ▸ hx)
                  have ek : ((j : Int) == (j : Int)) = true := by simp
                  clear hno hxs hx
                  go_wp2_with (go_at_call 12; refine (unhide HC).mono ?_; rintro e w' ⟨hfa, hw⟩; obtain rfl := hfa.at (unhide nd) (unhide Hx))
                  go_ret
                  exact ⟨rfl, (unhide HB4).trans (hw.mono HBs)⟩
                · have e3 := beqL_ne hxs
                  have HN := hide (show ∀ q, q < j + 1 → LL[q]? ≠ some s from fun q hq => by
                    by_cases h : q = j
                    · subst h; rw [hx]; intro e; exact hxs (Option.some.inj e)
                    · exact hno q (by omega))
                  clear hno hxs hx
                  go_wp2_with fail
                  go_round
                  case rel => exact ⟨j + 1, by omega, rfl, by go_num, unhide HN⟩
                  case measure => simp [intOf]; omega
              · have j4 : ¬ (j : Int) < (LL.length : Int) := by omega
                have hnin : ¬ s ∈ LL := by
                  intro h
                  obtain ⟨q, hq, e⟩ := List.getElem_of_mem h
                  exact hno q (by omega) (by rw [List.getElem?_eq_getElem hq, e])
                have HN := hide hnin
                clear hno hnin
                go_wp2_with (go_at_call 12; refine (unhide HC).mono ?_; rintro e w' ⟨hfa, hw⟩; obtain rfl := hfa.no (unhide HN))
                go_ret
                exact ⟨rfl, (unhide HB4).trans (hw.mono HBs)⟩
      · have i1 : ¬ (65536 : Int) < (n : Int) := by omega
        have i2 : (65536 : Int) < (s.size : Int) := by omega
        clear hB hlt hF hr
        go_enter Tryf.func4, Tryf.ntmps4
        go_wp2_with (first | (go_at_call 11; refine (unhide C1).mono ?_; rintro e w' ⟨rfl, hw⟩; subst hw))
        go_ret
        exact ⟨rfl, Below.refl _ _⟩
    · have i1 : (65536 : Int) < (n : Int) := by omega
      clear hB hlt hF hr
      go_enter Tryf.func4, Tryf.ntmps4
      go_wp2_with (first | (go_at_call 11; refine (unhide C1).mono ?_; rintro e w' ⟨rfl, hw⟩; subst hw))
      go_ret
      exact ⟨rfl, Below.refl _ _⟩
  · have C1 := hide (zzBytesNo a n c s w (by omega) hn hs)
    clear hB hlt hF hr
    go_enter Tryf.func4, Tryf.ntmps4
    go_wp2_with (first | (go_at_call 11; refine (unhide C1).mono ?_; rintro e w' ⟨rfl, hw⟩; subst hw))
    go_ret
    exact ⟨rfl, Below.refl _ _⟩
end Go.Proofs.Qxb6616086aFmt.Dw
