import Derived.Test.Qxb6616487aFrE
namespace Go.Proofs.Qxb6616487a.Fr
open Go.RowKit Go.Deep

theorem Fst.ins_x {f : Nat → Acc} {n q : Nat} {x : Acc} {wn : Int} (hq : q ≤ n) (hx : rd x wn = true) (hlo : ∀ i, i < q → rd (f i) wn = false) : Fst (ins q x f) (n + 1) wn q := by
  refine ⟨by omega, ?_, fun j hj => ?_⟩
  · rw [← ins_at q x f]; exact hx
  · rw [← ins_lo q x f j hj]; exact hlo j hj

theorem Fst.ins_hi {f : Nat → Acc} {n q k : Nat} {x : Acc} {wn : Int} (h : Fst f n wn k) (hqk : q ≤ k) (hx : rd x wn = false) : Fst (ins q x f) (n + 1) wn (k + 1) := by
  refine ⟨by have := h.1; omega, ?_, fun j hj => ?_⟩
  · rw [← Fr.ins_hi q x f k hqk]; exact h.2.1
  · rcases Nat.lt_trichotomy j q with e | e | e
    · rw [← ins_lo q x f j e]; exact h.2.2 j (by omega)
    · subst e; rw [← ins_at j x f]; exact hx
    · obtain ⟨i, rfl⟩ : ∃ i, j = i + 1 := ⟨j - 1, by omega⟩
      rw [← Fr.ins_hi q x f i (by omega)]; exact h.2.2 i (by omega)

theorem Fst.ins_lo {f : Nat → Acc} {n q k : Nat} {x : Acc} {wn : Int} (h : Fst f n wn k) (hqk : k < q) : Fst (ins q x f) (n + 1) wn k := by
  refine ⟨by have := h.1; omega, ?_, fun j hj => ?_⟩
  · rw [← Fr.ins_lo q x f k hqk]; exact h.2.1
  · rw [← Fr.ins_lo q x f j (by omega)]; exact h.2.2 j hj

theorem ex_ins_x {f : Nat → Acc} {n q : Nat} {x : Acc} {wn : Int} (hq : q ≤ n) (hx : rd x wn = true) : ∃ i, i < n + 1 ∧ rd (ins q x f i) wn = true :=
  ⟨q, by omega, by rw [← ins_at q x f]; exact hx⟩
theorem ex_ins_f {f : Nat → Acc} {n q : Nat} {x : Acc} {wn : Int} (he : ∃ i, i < n ∧ rd (f i) wn = true) : ∃ i, i < n + 1 ∧ rd (ins q x f i) wn = true := by
  obtain ⟨i, hi, hr⟩ := he
  rcases Nat.lt_or_ge i q with e | e
  · exact ⟨i, by omega, by rw [← Fr.ins_lo q x f i e]; exact hr⟩
  · exact ⟨i + 1, by omega, by rw [← Fr.ins_hi q x f i e]; exact hr⟩

set_option maxHeartbeats 400000 in
set_option maxRecDepth 100000 in
theorem bytes1Yes (a0 : Option Addr) (n0 c0 : Nat) (x : Acc) (q y z : Int) (w : World) (h : n0 ≤ 1048576) :
    Calls Try.prog 20 #[.slice a0 n0 c0, av x, .int .i64 q, .int .i64 y, .int .i64 z] w fun e w' => e = .returned (.bool true) ∧ Below w.heap.size w w' := by
  go_enter Try.func20, Try.ntmps20
  go_wp2
  go_ret
  exact ⟨rfl, by first | exact Below.refl _ _ | exact (Below.refl _ _).alloc (Nat.le_refl _) _⟩

set_option maxHeartbeats 400000 in
set_option maxRecDepth 100000 in
theorem bytes1No (a0 : Option Addr) (n0 c0 : Nat) (x : Acc) (q y z : Int) (w : World) (h : ¬ n0 ≤ 1048576) (_h0 : n0 ≤ 9223372036854775807) :
    Calls Try.prog 20 #[.slice a0 n0 c0, av x, .int .i64 q, .int .i64 y, .int .i64 z] w fun e w' => e = .returned (.bool false) ∧ Below w.heap.size w w' := by
  go_enter Try.func20, Try.ntmps20
  go_wp2
  go_ret
  exact ⟨rfl, by first | exact Below.refl _ _ | exact (Below.refl _ _).alloc (Nat.le_refl _) _⟩

/-- the box that holds x, and what came before -/
structure Boxed (w w' : World) (x : Acc) : Prop where
  bel : Below w.heap.size w w'
  lt : w.heap.size < w'.heap.size
  acc : accAt w' w.heap.size 0 x

theorem Boxed.mk0 (w : World) (x : Acc) : Boxed w (w.alloc (.cells #[.int .i64 x.1, .int .i64 x.2.1, .int .i64 x.2.2.1, .bool x.2.2.2] 44)) x :=
  ⟨(Below.refl _ _).alloc (Nat.le_refl _) _, by simp, by simp, by simp, by simp, by simp⟩

theorem Boxed.next {w w1 w2 : World} {x : Acc} (h : Boxed w w1 x) (hb : Below w1.heap.size w1 w2) : Boxed w w2 x :=
  ⟨h.bel.chain hb, Nat.lt_of_lt_of_le h.lt hb.size, h.acc.below hb h.lt⟩

set_option maxHeartbeats 1000000 in
set_option maxRecDepth 100000 in
theorem walk1 (a : Option Addr) (n c q : Nat) (x : Acc) (f : Nat → Acc) (num wn : Int) (w : World) (qa : QuadsAt w a n f) (h0 : n ≤ 32768) (hq : q ≤ n) :
    Calls Try.prog 5 #[.slice a n c, av x, .int .i64 q, .int .i64 num, .int .i64 wn] w fun e w' => e = .returned (.bool true) ∧ Below w.heap.size w w' := by
  have QA := hide qa
  clear qa
  have B0 := Boxed.mk0 w x
  go_enter Try.func5, Try.ntmps5
  go_wp2_with fail
  refine (bytes1Yes a n c x q num wn _ (by omega)).mono ?_
  rintro e w1 ⟨rfl, b1⟩
  have B1 := B0.next b1
  obtain ⟨y0, y1, y2, y3⟩ := B1.acc
  clear b1 B0
  go_wp2_with fail
  refine (hasRead a n c f wn w1 ((unhide QA).below B1.bel) (by omega)).mono ?_
  rintro e w2 ⟨r1, rfl, hr1, b2⟩
  have B2 := B1.next b2
  have R1 := hide hr1
  clear b2 B1 hr1 y0 y1 y2 y3
  obtain ⟨y0, y1, y2, y3⟩ := B2.acc
  go_wp2_with fail
  refine (isReadX x wn w2).mono ?_
  rintro e w3 ⟨rfl, b3⟩
  have B3 := B2.next b3
  clear b3 B2 y0 y1 y2 y3
  cases r1
  · cases hx : rd x wn
    · go_wp2
      go_ret
      exact ⟨rfl, B3.bel⟩
    have hex : Hid (∃ i, i < n + 1 ∧ rd (ins q x f i) wn = true) := ex_ins_x hq hx
    obtain ⟨y0, y1, y2, y3⟩ := B3.acc
    go_wp2_with fail
    refine (newNum wn w3).mono ?_
    rintro e w4 ⟨rfl, b4, N4⟩
    have B4 := B3.next b4
    have HN4 := hide N4
    clear b4 N4 B3 y0 y1 y2 y3
    obtain ⟨y0, y1, y2, y3⟩ := B4.acc
    go_wp2_with fail
    refine (insert a n c q x f w4 ((unhide QA).below B4.bel) (by omega) hq).mono ?_
    rintro e w5 ⟨rfl, Rw⟩
    have B5 := B4.next Rw.bel
    have HN5 := hide ((unhide HN4).below Rw.bel)
    have HR := hide Rw
    clear Rw HN4 B4 y0 y1 y2 y3
    go_wp2_with fail
    refine (newAcc num w4 w5 (w4.heap.size + 1) (n + 1) (ins q x f) (unhide HR)).mono ?_
    rintro e w6 ⟨rfl, b6, T6⟩
    have B6 := B5.next b6
    have HN6 := hide ((unhide HN5).below b6)
    have HT := hide T6
    clear b6 T6 HN5 HR B5
    go_wp2_with fail
    refine (found _ _ _ (n + 1) wn (ins q x f) w6 (unhide HT) (unhide HN6) (by omega) (unhide hex)).mono ?_
    rintro e w7 ⟨k1, hk, rfl, b7⟩
    have B7 := B6.next b7
    have HN7 := hide ((unhide HN6).below b7)
    have HK := hide hk
    clear b7 HN6 HT hk B6
    have hkq : k1 = q := (unhide HK).unique (Fst.ins_x hq hx (fun i hi => by
      cases hr : rd (f i) wn
      · rfl
      · cases (unhide R1).2 ⟨i, by omega, hr⟩))
    subst hkq
    go_wp2
    go_ret
    exact ⟨rfl, B7.bel⟩
  · have yA := hide ((unhide R1).1 rfl)
    have hex : Hid (∃ i, i < n + 1 ∧ rd (ins q x f i) wn = true) := ex_ins_f (unhide yA)
    clear R1
    obtain ⟨y0, y1, y2, y3⟩ := B3.acc
    go_wp2_with fail
    refine (newNum wn w3).mono ?_
    rintro e w4 ⟨rfl, b4, N4⟩
    have B4 := B3.next b4
    have HN4 := hide N4
    clear b4 N4 B3 y0 y1 y2 y3
    obtain ⟨y0, y1, y2, y3⟩ := B4.acc
    go_wp2_with fail
    refine (insert a n c q x f w4 ((unhide QA).below B4.bel) (by omega) hq).mono ?_
    rintro e w5 ⟨rfl, Rw⟩
    have B5 := B4.next Rw.bel
    have HN5 := hide ((unhide HN4).below Rw.bel)
    have HR := hide Rw
    clear Rw HN4 B4 y0 y1 y2 y3
    go_wp2_with fail
    refine (newAcc num w4 w5 (w4.heap.size + 1) (n + 1) (ins q x f) (unhide HR)).mono ?_
    rintro e w6 ⟨rfl, b6, T6⟩
    have B6 := B5.next b6
    have HN6 := hide ((unhide HN5).below b6)
    have HT := hide T6
    clear b6 T6 HN5 HR B5
    go_wp2_with fail
    refine (found _ _ _ (n + 1) wn (ins q x f) w6 (unhide HT) (unhide HN6) (by omega) (unhide hex)).mono ?_
    rintro e w7 ⟨k1, hk, rfl, b7⟩
    have B7 := B6.next b7
    have HN7 := hide ((unhide HN6).below b7)
    have HK := hide hk
    clear b7 HN6 HT hk B6
    go_wp2_with fail
    refine (join a none n c 0 0 f f w7 ((unhide QA).below B7.bel) (QuadsAt.nil _ _ _) (by omega) (by omega)).mono ?_
    rintro e w8 ⟨rfl, Rw⟩
    have B8 := B7.next Rw.bel
    have HN8 := hide ((unhide HN7).below Rw.bel)
    have HR := hide Rw
    clear Rw HN7 B7
    go_wp2_with fail
    refine (newAcc num w7 w8 w7.heap.size (n + 0) (jn n f f) (unhide HR)).mono ?_
    rintro e w9 ⟨rfl, b9, T9⟩
    have B9 := B8.next b9
    have HN9 := hide ((unhide HN8).below b9)
    have HT := hide T9
    clear b9 T9 HN8 HR B8
    go_wp2_with fail
    refine (found _ _ _ (n + 0) wn (jn n f f) w9 (unhide HT) (unhide HN9) (by omega) (ex_left (unhide yA))).mono ?_
    rintro e w10 ⟨k0, hk, rfl, b10⟩
    have B10 := B9.next b10
    have hk0 := hk.left (unhide yA)
    have hj1 := hk0.1
    have hrd := hk0.2.1
    have HK0 := hide hk0
    clear b10 HN9 HT hk hk0 B9
    obtain ⟨bb, off, rfl, lb, cc⟩ := (unhide QA).at B10.bel hj1
    obtain ⟨c0, c1, c2, c3⟩ := cc
    have e2 : ¬ ((k0 : Int) < 0) := by omega
    have e3 : ((k0 : Int) < n) := by omega
    have e4 : decide ((k0 : Int) < 0) = false := by simp
    go_wp2_with fail
    refine (isReadX (f k0) wn _).mono ?_
    rintro e w11 ⟨rfl, b11⟩
    have B11 := B10.next b11
    clear b11 B10 c0 c1 c2 c3
    by_cases hqk : q ≤ k0
    · cases hx : rd x wn
      · have hkq : k1 = k0 + 1 := (unhide HK).unique ((unhide HK0).ins_hi hqk hx)
        subst hkq
        go_wp2
        go_ret
        exact ⟨rfl, B11.bel⟩
      · have hkq : k1 = q := (unhide HK).unique (Fst.ins_x hq hx (fun i hi => (unhide HK0).2.2 i (by omega)))
        subst hkq
        go_wp2
        go_ret
        exact ⟨rfl, B11.bel⟩
    · have hkq : k1 = k0 := (unhide HK).unique ((unhide HK0).ins_lo (by omega))
      subst hkq
      go_wp2
      go_ret
      exact ⟨rfl, B11.bel⟩

set_option maxHeartbeats 1000000 in
set_option maxRecDepth 100000 in
theorem walk1All (a : Option Addr) (n c : Nat) (q : Int) (x : Acc) (f : Nat → Acc) (num wn : Int) (w : World) (qa : QuadsAt w a n f) (m0 : n ≤ 9223372036854775807) :
    Calls Try.prog 5 #[.slice a n c, av x, .int .i64 q, .int .i64 num, .int .i64 wn] w fun e w' => e = .returned (.bool true) ∧ Below w.heap.size w w' := by
  by_cases h1 : n ≤ 32768
  · by_cases hq : 0 ≤ q ∧ q ≤ n
    · obtain ⟨k, rfl⟩ := Int.eq_ofNat_of_zero_le hq.1
      exact walk1 a n c k x f num wn w qa h1 (by omega)
    · clear qa
      have B0 := Boxed.mk0 w x
      by_cases hn : q < 0
      all_goals
        go_enter Try.func5, Try.ntmps5
        go_wp2_with fail
        refine (bytes1Yes a n c x q num wn _ (by omega)).mono ?_
        rintro e w1 ⟨rfl, b1⟩
        have B1 := B0.next b1
        go_wp2
        go_ret
        exact ⟨rfl, B1.bel⟩
  · clear qa
    have B0 := Boxed.mk0 w x
    by_cases h2 : n ≤ 1048576
    · go_enter Try.func5, Try.ntmps5
      go_wp2_with fail
      refine (bytes1Yes a n c x q num wn _ h2).mono ?_
      rintro e w1 ⟨rfl, b1⟩
      have B1 := B0.next b1
      go_wp2
      go_ret
      exact ⟨rfl, B1.bel⟩
    · go_enter Try.func5, Try.ntmps5
      go_wp2_with fail
      refine (bytes1No a n c x q num wn _ h2 m0).mono ?_
      rintro e w1 ⟨rfl, b1⟩
      have B1 := B0.next b1
      go_wp2
      go_ret
      exact ⟨rfl, B1.bel⟩
end Go.Proofs.Qxb6616487a.Fr
