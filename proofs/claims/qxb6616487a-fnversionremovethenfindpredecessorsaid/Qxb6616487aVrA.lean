import Derived.Test.Qxb6616487aRows
import Derived.Test.Qxb6616487aPtr
import Derived.WalkKit
import Derived.WalkSpells
import Derived.WalkLawsBesides
import Derived.Deep.OwnRows
import Derived.Deep.RegionHeld3
import Derived.Deep.DrawnRows
import Derived.Deep.QuietTactic
import Derived.BigQuiet
namespace Go.Proofs.Qxb6616487a.Vr
open Go.RowKit Go.Deep
set_option linter.unusedVariables false

theorem hide {p : Prop} (h : p) : Hid p := h
theorem unhide {p : Prop} (h : Hid p) : p := h
theorem chain {a b c : World} (h : Below a.heap.size a b) (k : Below b.heap.size b c) : Below a.heap.size a c := h.trans (k.mono h.size)

theorem ret_int {k : IntKind} {a b : Int} (h : a = b) : Ending.returned (.int k a) = .returned (.int k b) := by rw [h]
/-- cmp.Compare at int -/
def cmpI (x y : Int) : Int := if x < y then -1 else if y < x then 1 else 0

set_option maxHeartbeats 400000 in
theorem compare (x y : Int) (w : World) : Calls Try.prog 56 #[.int .i64 x, .int .i64 y] w fun e w' => e = .returned (.int .i64 (cmpI x y)) ∧ w' = w := by
  by_cases h : x < y
  · go_enter Try.func56, Try.ntmps56
    go_wp2
    go_ret
    exact ⟨by simp [cmpI, h], rfl⟩
  · by_cases h2 : y < x
    · go_enter Try.func56, Try.ntmps56
      go_wp2
      go_ret
      exact ⟨by simp [cmpI, h, h2], rfl⟩
    · go_enter Try.func56, Try.ntmps56
      go_wp2
      go_ret
      exact ⟨ret_int (by rw [cmpI, if_neg (by omega), if_neg (by omega)]), rfl⟩

set_option maxHeartbeats 400000 in
/-- the key of a block: its first version's timestamp -/
theorem key1 (v n c x : Nat) (t : Int) (w : World) (hn : 0 < n) (h0 : w.cell? ⟨v, 0, none⟩ = some (.pointer (some ⟨x, 0, none⟩))) (h1 : w.cell? ⟨x, 1, none⟩ = some (.int .i64 t)) :
    Calls Try.prog 49 #[.slice (some ⟨v, 0, none⟩) n c] w fun e w' => e = .returned (.int .i64 t) ∧ w' = w := by
  have i0 : (0 : Int) < (n : Int) := by omega
  go_enter Try.func49, Try.ntmps49
  go_wp2
  go_ret
  exact ⟨rfl, rfl⟩

set_option maxHeartbeats 400000 in
theorem key2 (x : Nat) (r t : Int) (w : World) (hx : x < w.heap.size) (h1 : w.cell? ⟨x, 1, none⟩ = some (.int .i64 t)) :
    Calls Try.prog 51 #[.agg #[.pointer (some ⟨x, 0, none⟩), .int .i64 r]] w fun e w' => e = .returned (.int .i64 t) ∧ Below w.heap.size w w' := by
  go_enter Try.func51, Try.ntmps51
  go_wp2
  go_ret
  exact ⟨rfl, (Below.refl _ _).alloc (Nat.le_refl _) _⟩

set_option maxHeartbeats 400000 in
theorem clos1 (v n c x cb : Nat) (t tg : Int) (w : World) (hn : 0 < n) (h0 : w.cell? ⟨v, 0, none⟩ = some (.pointer (some ⟨x, 0, none⟩))) (h1 : w.cell? ⟨x, 1, none⟩ = some (.int .i64 t)) (hc : w.cell? ⟨cb, 0, none⟩ = some (.func (Fn.func 49) #[] #[])) :
    Calls Try.prog 55 #[.slice (some ⟨v, 0, none⟩) n c, .int .i64 tg, .pointer (some ⟨cb, 0, none⟩)] w fun e w' => e = .returned (.int .i64 (cmpI t tg)) ∧ w' = w := by
  go_enter Try.func55, Try.ntmps55
  go_wp2_with fail
  refine (key1 v n c x t w hn h0 h1).mono ?_
  rintro e w1 ⟨rfl, hw⟩
  obtain rfl := hw.symm
  clear hw
  go_wp2_with fail
  refine (compare t tg _).mono ?_
  rintro e w1 ⟨rfl, hw⟩
  obtain rfl := hw.symm
  clear hw
  go_wp2
  go_ret
  exact ⟨rfl, rfl⟩

set_option maxHeartbeats 400000 in
theorem clos2 (x cb : Nat) (r t tg : Int) (w : World) (hx : x < w.heap.size) (h1 : w.cell? ⟨x, 1, none⟩ = some (.int .i64 t)) (lc : cb < w.heap.size) (hc : w.cell? ⟨cb, 0, none⟩ = some (.func (Fn.func 51) #[] #[])) :
    Calls Try.prog 58 #[.agg #[.pointer (some ⟨x, 0, none⟩), .int .i64 r], .int .i64 tg, .pointer (some ⟨cb, 0, none⟩)] w fun e w' => e = .returned (.int .i64 (cmpI t tg)) ∧ Below w.heap.size w w' := by
  have b0 : Below w.heap.size w (w.alloc (.cells #[.pointer (some ⟨x, 0, none⟩), .int .i64 r] 93)) := (Below.refl _ _).alloc (Nat.le_refl _) _
  have C := hide (key2 x r t (w.alloc (.cells #[.pointer (some ⟨x, 0, none⟩), .int .i64 r] 93)) (by simp; omega) ((b0.cell (p := ⟨x, 1, none⟩) hx).trans h1))
  go_enter Try.func58, Try.ntmps58
  go_wp2_with fail
  refine (unhide C).mono ?_
  rintro e w1 ⟨rfl, b1⟩
  have b2 := chain b0 b1
  go_wp2_with fail
  refine (compare t tg _).mono ?_
  rintro e w2 ⟨rfl, hw⟩
  obtain rfl := hw.symm
  clear hw
  go_wp2
  go_ret
  exact ⟨rfl, b2⟩

/-- plain version data: blocks, their lengths, timestamps, read timestamps, the writers' blocks -/
structure VD where
  N : Nat
  L : Nat → Nat
  T : Nat → Nat → Int
  R : Nat → Nat → Int
  X : Nat → Nat → Nat

/-- the versions' rows in memory: outer block ob, inner blocks V i of capacity C i -/
structure Rws (w : World) (ob : Nat) (D : VD) (V C : Nat → Nat) : Prop where
  outer : ∀ i, i < D.N → w.cell? ⟨ob, i, none⟩ = some (.slice (some ⟨V i, 0, none⟩) (D.L i) (C i))
  ptr : ∀ i k, i < D.N → k < D.L i → w.cell? ⟨V i, k * 2, none⟩ = some (.pointer (some ⟨D.X i k, 0, none⟩))
  rts : ∀ i k, i < D.N → k < D.L i → w.cell? ⟨V i, k * 2 + 1, none⟩ = some (.int .i64 (D.R i k))
  ts : ∀ i k, i < D.N → k < D.L i → w.cell? ⟨D.X i k, 1, none⟩ = some (.int .i64 (D.T i k))
  lo : ob < w.heap.size
  lV : ∀ i, i < D.N → V i < w.heap.size
  lX : ∀ i k, i < D.N → k < D.L i → D.X i k < w.heap.size

theorem Rws.below {w w' : World} {ob : Nat} {D : VD} {V C : Nat → Nat} (h : Rws w ob D V C) (hb : Below w.heap.size w w') : Rws w' ob D V C where
  outer i hi := (hb.cell (p := ⟨ob, i, none⟩) h.lo).trans (h.outer i hi)
  ptr i k hi hk := (hb.cell (p := ⟨V i, k * 2, none⟩) (h.lV i hi)).trans (h.ptr i k hi hk)
  rts i k hi hk := (hb.cell (p := ⟨V i, k * 2 + 1, none⟩) (h.lV i hi)).trans (h.rts i k hi hk)
  ts i k hi hk := (hb.cell (p := ⟨D.X i k, 1, none⟩) (h.lX i k hi hk)).trans (h.ts i k hi hk)
  lo := Nat.lt_of_lt_of_le h.lo hb.size
  lV i hi := Nat.lt_of_lt_of_le (h.lV i hi) hb.size
  lX i k hi hk := Nat.lt_of_lt_of_le (h.lX i k hi hk) hb.size

/-- no block is empty; the timestamps increase -/
structure Inc (D : VD) : Prop where
  pos : ∀ i, i < D.N → 0 < D.L i
  inB : ∀ i k l, i < D.N → k < l → l < D.L i → D.T i k < D.T i l
  acr : ∀ i j k l, i < j → j < D.N → k < D.L i → l < D.L j → D.T i k < D.T j l
  nb : D.N ≤ 1000000
  lb : ∀ i, i < D.N → D.L i ≤ 1000000

set_option maxHeartbeats 400000 in
theorem bs1 (ob oc cb : Nat) (tg : Int) (D : VD) (V C : Nat → Nat) (w : World) (H : Rws w ob D V C) (I : Inc D) (lc : cb < w.heap.size) (hc : w.cell? ⟨cb, 0, none⟩ = some (.func (Fn.func 49) #[] #[])) :
    Calls Try.prog 54 #[.slice (some ⟨ob, 0, none⟩) D.N oc, .int .i64 tg, .func (Fn.func 55) #[] #[.pointer (some ⟨cb, 0, none⟩)]] w fun e w' => ∃ (r : Nat) (bl : Bool), e = .returned (.tuple #[.int .i64 r, .bool bl]) ∧ r ≤ D.N ∧ (∀ i, i < r → D.T i 0 < tg) ∧ (∀ i, r ≤ i → i < D.N → tg ≤ D.T i 0) ∧ w' = w := by
  have nb := I.nb
  have HI := hide I
  have HH := hide H
  clear I H
  go_enter Try.func54, Try.ntmps54
  go_wp2
  go_loop [9, 10, 11] (fun i j _ => ∃ a b : Nat, i = .int .i64 a ∧ j = .int .i64 b ∧ a ≤ b ∧ b ≤ D.N ∧ (∀ i, i < a → D.T i 0 < tg) ∧ (∀ i, b ≤ i → i < D.N → tg ≤ D.T i 0)) (fun i j _ => (intOf j - intOf i).toNat)
  case atStart => exact ⟨0, D.N, rfl, rfl, Nat.zero_le _, Nat.le_refl _, fun i hi => absurd hi (Nat.not_lt_zero i), fun i h1 h2 => absurd h2 (by omega)⟩
  case round =>
    obtain ⟨a, b, rfl, rfl, hab, hbn, hlo, hhi⟩ := hrel
    have Hlo := hide hlo
    have Hhi := hide hhi
    clear hlo hhi
    by_cases hlt : a < b
    · have hm1 : (a + b) / 2 < D.N := by omega
      have cc := (unhide HH).outer _ hm1
      have hm2 : ((a : Int) + b) / 2 < (D.N : Int) := by omega
      go_wp2_with fail
      refine (clos1 _ _ _ _ cb _ tg w ((unhide HI).pos _ hm1) (by simpa using (unhide HH).ptr _ 0 hm1 ((unhide HI).pos _ hm1)) ((unhide HH).ts _ 0 hm1 ((unhide HI).pos _ hm1)) hc).mono ?_
      rintro e w1 ⟨rfl, hw⟩
      obtain rfl := hw.symm
      clear hw
      by_cases hk : D.T ((a + b) / 2) 0 < tg
      · rw [cmpI, if_pos hk]
        go_wp2
        go_round
        case rel =>
          refine ⟨(a + b) / 2 + 1, b, by go_num, rfl, by omega, hbn, ?_, unhide Hhi⟩
          intro i hi
          rcases Nat.lt_succ_iff_lt_or_eq.1 hi with e | e
          · exact Int.lt_trans ((unhide HI).acr i _ 0 0 e hm1 ((unhide HI).pos _ (by omega)) ((unhide HI).pos _ hm1)) hk
          · rw [e]; exact hk
        case measure => simp [intOf]; omega
      · have hc0 : 0 ≤ cmpI (D.T ((a + b) / 2) 0) tg := by unfold cmpI; split <;> (try split) <;> omega
        generalize cmpI (D.T ((a + b) / 2) 0) tg = cc9 at hc0
        go_wp2
        go_round
        case rel =>
          refine ⟨a, (a + b) / 2, rfl, by go_num, by omega, by omega, unhide Hlo, ?_⟩
          intro i hi hn
          rcases Nat.lt_or_eq_of_le hi with e | e
          · have := (unhide HI).acr _ i 0 0 e hn ((unhide HI).pos _ hm1) ((unhide HI).pos _ hn)
            omega
          · rw [← e]; omega
        case measure => simp [intOf]; omega
    · have hba : a = b := by omega
      subst hba
      by_cases ha : a < D.N
      · have cc := (unhide HH).outer _ ha
        go_wp2_with fail
        refine (clos1 _ _ _ _ cb _ tg w ((unhide HI).pos _ ha) (by simpa using (unhide HH).ptr _ 0 ha ((unhide HI).pos _ ha)) ((unhide HH).ts _ 0 ha ((unhide HI).pos _ ha)) hc).mono ?_
        rintro e w1 ⟨rfl, hw⟩
        obtain rfl := hw.symm
        clear hw
        go_wp2
        go_ret2
        exact ⟨a, _, rfl, hbn, unhide Hlo, unhide Hhi, rfl⟩
      · go_wp2
        go_ret2
        exact ⟨a, .inl rfl, hbn, unhide Hlo, unhide Hhi, rfl⟩

/-- the place of the last version not above ts in one block -/
theorem cmp_neg {x y : Int} (h : ¬ x < y) : 0 ≤ cmpI x y := by
  unfold cmpI; split <;> (try split) <;> omega

set_option maxHeartbeats 400000 in
theorem bs2 (ob b0 cb : Nat) (tg : Int) (D : VD) (V C : Nat → Nat) (w : World) (H : Rws w ob D V C) (I : Inc D) (hb0 : b0 < D.N) (lc : cb < w.heap.size) (hc : w.cell? ⟨cb, 0, none⟩ = some (.func (Fn.func 51) #[] #[])) :
    Calls Try.prog 57 #[.slice (some ⟨V b0, 0, none⟩) (D.L b0) (C b0), .int .i64 tg, .func (Fn.func 58) #[] #[.pointer (some ⟨cb, 0, none⟩)]] w fun e w' => ∃ (r : Nat) (bl : Bool), e = .returned (.tuple #[.int .i64 r, .bool bl]) ∧ r ≤ D.L b0 ∧ (∀ i, i < r → D.T b0 i < tg) ∧ (∀ i, r ≤ i → i < D.L b0 → tg ≤ D.T b0 i) ∧ Below w.heap.size w w' := by
  have nb := I.lb b0 hb0
  have HI := hide I
  have HH := hide H
  clear I H
  go_enter Try.func57, Try.ntmps57
  go_wp2
  go_loopw [9, 10, 11] (fun i j _ wx => ∃ a b : Nat, i = .int .i64 a ∧ j = .int .i64 b ∧ a ≤ b ∧ b ≤ D.L b0 ∧ (∀ i, i < a → D.T b0 i < tg) ∧ (∀ i, b ≤ i → i < D.L b0 → tg ≤ D.T b0 i) ∧ Below w.heap.size w wx) (fun i j _ _ => (intOf j - intOf i).toNat)
  case atStart => exact ⟨0, D.L b0, rfl, rfl, Nat.zero_le _, Nat.le_refl _, fun i hi => absurd hi (Nat.not_lt_zero i), fun i h1 h2 => absurd h2 (by omega), Below.refl _ _⟩
  case round =>
    obtain ⟨a, b, rfl, rfl, hab, hbn, hlo, hhi, hbel⟩ := hrel
    have Hlo := hide hlo
    have Hhi := hide hhi
    have HX := hide ((unhide HH).below hbel)
    have hc1 := (hbel.cell (p := ⟨cb, 0, none⟩) lc).trans hc
    have lc1 : cb < wr.heap.size := Nat.lt_of_lt_of_le lc hbel.size
    clear hlo hhi
    by_cases hlt : a < b
    · have hm1 : (a + b) / 2 < D.L b0 := by omega
      have c0 := (unhide HX).ptr b0 _ hb0 hm1
      have c1 := (unhide HX).rts b0 _ hb0 hm1
      have hm2 : ((a : Int) + b) / 2 < (D.L b0 : Int) := by omega
      go_wp2_with fail
      refine (clos2 _ cb _ _ tg wr ((unhide HX).lX b0 _ hb0 hm1) ((unhide HX).ts b0 _ hb0 hm1) lc1 hc1).mono ?_
      rintro e w1 ⟨rfl, b1⟩
      have b2 := chain hbel b1
      clear b1 c0 c1
      by_cases hk : D.T b0 ((a + b) / 2) < tg
      · rw [cmpI, if_pos hk]
        go_wp2
        go_roundw
        case rel =>
          refine ⟨(a + b) / 2 + 1, b, by go_num, rfl, by omega, hbn, ?_, unhide Hhi, b2⟩
          intro i hi
          rcases Nat.lt_succ_iff_lt_or_eq.1 hi with e | e
          · exact Int.lt_trans ((unhide HI).inB b0 i _ hb0 e hm1) hk
          · rw [e]; exact hk
        case measure => simp [intOf]; omega
      · have hc0 := cmp_neg hk
        generalize cmpI (D.T b0 ((a + b) / 2)) tg = cc9 at hc0
        go_wp2
        go_roundw
        case rel =>
          refine ⟨a, (a + b) / 2, rfl, by go_num, by omega, by omega, unhide Hlo, ?_, b2⟩
          intro i hi hn
          rcases Nat.lt_or_eq_of_le hi with e | e
          · have := (unhide HI).inB b0 _ i hb0 e hn
            omega
          · rw [← e]; omega
        case measure => simp [intOf]; omega
    · have hba : a = b := by omega
      subst hba
      by_cases ha : a < D.L b0
      · have c0 := (unhide HX).ptr b0 _ hb0 ha
        have c1 := (unhide HX).rts b0 _ hb0 ha
        go_wp2_with fail
        refine (clos2 _ cb _ _ tg wr ((unhide HX).lX b0 _ hb0 ha) ((unhide HX).ts b0 _ hb0 ha) lc1 hc1).mono ?_
        rintro e w1 ⟨rfl, b1⟩
        have b2 := chain hbel b1
        clear b1 c0 c1
        go_wp2
        go_ret2
        exact ⟨a, _, rfl, hbn, unhide Hlo, unhide Hhi, b2⟩
      · go_wp2
        go_ret2
        exact ⟨a, _, rfl, hbn, unhide Hlo, unhide Hhi, hbel⟩
end Go.Proofs.Qxb6616487a.Vr
