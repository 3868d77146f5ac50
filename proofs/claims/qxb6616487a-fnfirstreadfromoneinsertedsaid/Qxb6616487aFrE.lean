import Derived.Test.Qxb6616487aFrD
namespace Go.Proofs.Qxb6616487a.Fr
open Go.RowKit Go.Deep

theorem Fst.unique {f : Nat → Acc} {n m : Nat} {wn : Int} {k j : Nat} (h : Fst f n wn k) (h' : Fst f m wn j) : k = j := by
  rcases Nat.lt_trichotomy k j with e | e | e
  · have := h'.2.2 k e; rw [h.2.1] at this; cases this
  · exact e
  · have := h.2.2 j e; rw [h'.2.1] at this; cases this

theorem Fst.left {f h : Nat → Acc} {n m : Nat} {wn : Int} {k : Nat} (H : Fst (jn n f h) (n + m) wn k) (he : ∃ i, i < n ∧ rd (f i) wn = true) : Fst f n wn k := by
  obtain ⟨i, hi, hr⟩ := he
  have hk : k < n := by
    rcases Nat.lt_or_ge k n with e | e
    · exact e
    · have := H.2.2 i (by omega)
      rw [← jn_left n f h i hi, hr] at this; cases this
  refine ⟨hk, ?_, fun j hj => ?_⟩
  · rw [jn_left n f h k hk]; exact H.2.1
  · rw [jn_left n f h j (by omega)]; exact H.2.2 j hj

theorem Fst.right {f h : Nat → Acc} {n m : Nat} {wn : Int} {k : Nat} (H : Fst (jn n f h) (n + m) wn k) (he : ¬ ∃ i, i < n ∧ rd (f i) wn = true) : ∃ j, k = n + j ∧ Fst h m wn j := by
  have hk : n ≤ k := by
    rcases Nat.lt_or_ge k n with e | e
    · exact absurd ⟨k, e, by rw [jn_left n f h k e]; exact H.2.1⟩ he
    · exact e
  obtain ⟨j, rfl⟩ : ∃ j, k = n + j := ⟨k - n, by omega⟩
  refine ⟨j, rfl, by have := H.1; omega, ?_, fun i hi => ?_⟩
  · rw [jn_right n f h j]; exact H.2.1
  · rw [jn_right n f h i]; exact H.2.2 (n + i) (by omega)

theorem ex_left {f h : Nat → Acc} {n m : Nat} {wn : Int} (he : ∃ i, i < n ∧ rd (f i) wn = true) : ∃ i, i < n + m ∧ rd (jn n f h i) wn = true := by
  obtain ⟨i, hi, hr⟩ := he
  exact ⟨i, by omega, by rw [← jn_left n f h i hi]; exact hr⟩
theorem ex_right {f h : Nat → Acc} {n m : Nat} {wn : Int} (he : ∃ i, i < m ∧ rd (h i) wn = true) : ∃ i, i < n + m ∧ rd (jn n f h i) wn = true := by
  obtain ⟨i, hi, hr⟩ := he
  exact ⟨n + i, by omega, by rw [← jn_right n f h i]; exact hr⟩

set_option maxHeartbeats 400000 in
theorem bytesYes (a0 a1 : Option Addr) (n0 c0 n1 c1 : Nat) (x y : Int) (w : World) (h : n0 + n1 ≤ 1048576) :
    Calls Try.prog 14 #[.slice a0 n0 c0, .slice a1 n1 c1, .int .i64 x, .int .i64 y] w fun e w' => e = .returned (.bool true) ∧ w' = w := by
  go_enter Try.func14, Try.ntmps14
  go_wp2
  go_ret
  exact ⟨rfl, rfl⟩

set_option maxHeartbeats 400000 in
theorem bytesNo (a0 a1 : Option Addr) (n0 c0 n1 c1 : Nat) (x y : Int) (w : World) (h : ¬ n0 + n1 ≤ 1048576) (_h0 : n0 ≤ 9223372036854775807) (_h1 : n1 ≤ 9223372036854775807) :
    Calls Try.prog 14 #[.slice a0 n0 c0, .slice a1 n1 c1, .int .i64 x, .int .i64 y] w fun e w' => e = .returned (.bool false) ∧ w' = w := by
  by_cases k0 : n0 ≤ 1048576
  · by_cases k1 : n1 ≤ 1048576
    all_goals
      go_enter Try.func14, Try.ntmps14
      go_wp2
      go_ret
      exact ⟨rfl, rfl⟩
  · go_enter Try.func14, Try.ntmps14
    go_wp2
    go_ret
    exact ⟨rfl, rfl⟩

/-- a transaction in memory whose accesses are f -/
structure Txn (w : World) (tb g n : Nat) (f : Nat → Acc) : Prop where
  acc : w.cell? ⟨tb, 4, none⟩ = some (.slice (some ⟨g, 0, none⟩) n n)
  quads : QuadsAt w (some ⟨g, 0, none⟩) n f
  lt : tb < w.heap.size
/-- a transaction in memory whose number is wn -/
structure Num (w : World) (wb : Nat) (wn : Int) : Prop where
  num : w.cell? ⟨wb, 0, none⟩ = some (.int .i64 wn)
  lt : wb < w.heap.size

theorem Num.below {w w' : World} {wb : Nat} {wn : Int} (h : Num w wb wn) (hb : Below w.heap.size w w') : Num w' wb wn := ⟨(hb.cell (p := ⟨wb, 0, none⟩) h.lt).trans h.num, Nat.lt_of_lt_of_le h.lt hb.size⟩

theorem newNum (num : Int) (w : World) :
    Calls Try.prog 16 #[.int .i64 num, .slice none 0 0] w fun e w' => e = .returned (.pointer (some ⟨w.heap.size, 0, none⟩)) ∧ Below w.heap.size w w' ∧ Num w' w.heap.size num :=
  (newTxn num none 0 0 w).mono fun _ _ ⟨h1, h2, h3, _, h5⟩ => ⟨h1, h2, h3, h5⟩

theorem newAcc (num : Int) (w0 w : World) (g n : Nat) (f : Nat → Acc) (R : Row w0 w g n f) :
    Calls Try.prog 16 #[.int .i64 num, .slice (some ⟨g, 0, none⟩) n n] w fun e w' => e = .returned (.pointer (some ⟨w.heap.size, 0, none⟩)) ∧ Below w.heap.size w w' ∧ Txn w' w.heap.size g n f :=
  (newTxn num (some ⟨g, 0, none⟩) n n w).mono fun _ _ ⟨h1, h2, _, h4, h5⟩ => ⟨h1, h2, h4, R.quads.below h2, h5⟩

theorem found (tb wb g n : Nat) (wn : Int) (f : Nat → Acc) (w : World) (T : Txn w tb g n f) (N : Num w wb wn) (hn : n ≤ 10000000) (hex : ∃ i, i < n ∧ rd (f i) wn = true) :
    Calls Try.prog 18 #[.pointer (some ⟨tb, 0, none⟩), .pointer (some ⟨wb, 0, none⟩)] w fun e w' => ∃ k, Fst f n wn k ∧ e = .returned (.int .i64 k) ∧ Below w.heap.size w w' :=
  foundAt tb wb g n wn f w T.acc T.quads N.num T.lt N.lt hn hex

theorem QuadsAt.at {w w' : World} {a : Option Addr} {n : Nat} {f : Nat → Acc} (h : QuadsAt w a n f) (hb : Below w.heap.size w w') {k : Nat} (hk : k < n) : ∃ b off, a = some ⟨b, off, none⟩ ∧ b < w'.heap.size ∧ accAt w' b (off + k * 4) (f k) := h.below hb k hk

theorem _root_.Go.RowKit.Below.chain {a b c : World} (h : Below a.heap.size a b) (k : Below b.heap.size b c) : Below a.heap.size a c := h.trans (k.mono h.size)

set_option maxHeartbeats 1000000 in
set_option maxRecDepth 100000 in
theorem walk (a b : Option Addr) (n c m d : Nat) (f h : Nat → Acc) (num wn : Int) (w : World) (qa : QuadsAt w a n f) (qb : QuadsAt w b m h) (hs : n + m ≤ 1048576) (h0 : n ≤ 16384) (h1 : m ≤ 16384) :
    Calls Try.prog 4 #[.slice a n c, .slice b m d, .int .i64 num, .int .i64 wn] w fun e w' => e = .returned (.bool true) ∧ Below w.heap.size w w' := by
  have QA := hide qa
  have QB := hide qb
  clear qa qb
  go_enter Try.func4, Try.ntmps4
  go_wp2_with (go_at_call 14; refine (bytesYes _ _ _ _ _ _ _ _ _ hs).mono ?_; rintro e w' ⟨rfl, hw⟩; have hw2 := hw.symm; subst hw2; clear hw)
  refine (hasRead a n c f wn w (unhide QA) (by omega)).mono ?_
  rintro e w1 ⟨r1, rfl, hr1, b1⟩
  have R1 := hide hr1
  clear hr1
  cases r1
  · go_wp2_with fail
    refine (hasRead b m d h wn w1 ((unhide QB).below b1) (by omega)).mono ?_
    rintro e w2 ⟨r2, rfl, hr2, b2'⟩
    have b2 := b1.chain b2'
    have R2 := hide hr2
    clear hr2 b2' b1
    cases r2
    · go_wp2
      go_ret
      exact ⟨rfl, b2⟩
    · have nA : Hid (¬ ∃ i, i < n ∧ rd (f i) wn = true) := fun e => by cases (unhide R1).2 e
      have yB := hide ((unhide R2).1 rfl)
      clear R1 R2
      go_wp2_with fail
      refine (newNum wn w2).mono ?_
      rintro e w3 ⟨rfl, b3', N3⟩
      have b3 := b2.chain b3'
      have HN3 := hide N3
      clear b3' N3
      go_wp2_with fail
      refine (join a b n c m d f h w3 ((unhide QA).below b3) ((unhide QB).below b3) (by omega) (by omega)).mono ?_
      rintro e w4 ⟨rfl, Rw⟩
      have b4 := b3.chain Rw.bel
      have HN4 := hide ((unhide HN3).below Rw.bel)
      have HR := hide Rw
      clear Rw HN3 b3
      go_wp2_with fail
      refine (newAcc num w3 w4 w3.heap.size (n + m) (jn n f h) (unhide HR)).mono ?_
      rintro e w5 ⟨rfl, b5', T5⟩
      have b5 := b4.chain b5'
      have HN5 := hide ((unhide HN4).below b5')
      have HT := hide T5
      clear b5' T5 HN4 HR b4
      go_wp2_with fail
      refine (found _ _ _ (n + m) wn (jn n f h) w5 (unhide HT) (unhide HN5) (by omega) (ex_right (unhide yB))).mono ?_
      rintro e w6 ⟨k, hk, rfl, b6'⟩
      have b6 := b5.chain b6'
      have HN6 := hide ((unhide HN5).below b6')
      obtain ⟨j, rfl, hj⟩ := hk.right (unhide nA)
      have HJ := hide hj
      have hj1 := hj.1
      have hrd := hj.2.1
      clear b6' HN5 HT hk hj
      obtain ⟨bb, off, rfl, lb, cc⟩ := (unhide QB).at b6 hj1
      obtain ⟨c0, c1, c2, c3⟩ := cc
      have e1 : (((n + j : Nat) : Int)) = (n : Int) + j := by omega
      have e2 : ¬ ((n : Int) + j < 0) := by omega
      have e3 : ¬ ((n : Int) + j < n) := by omega
      have e4 : (n : Int) + j - n = j := by omega
      have e5 : (j : Int) < m := by omega
      go_wp2_with fail
      refine (isReadX (h j) wn _).mono ?_
      rintro e w7 ⟨rfl, b7'⟩
      have b7 := (b6.alloc b6.size _).trans (b7'.mono (by simp; have := b6.size; omega))
      have HN7 := hide (((unhide HN6).below ((Below.refl _ _).alloc (Nat.le_refl _) _)).below b7')
      clear b7' HN6 c0 c1 c2 c3 e1 e2 e3 e4 lb b6 b5 b2
      go_wp2_with fail
      refine (join _ none m d 0 0 h h w7 ((unhide QB).below b7) (QuadsAt.nil _ _ _) (by omega) (by omega)).mono ?_
      rintro e w8 ⟨rfl, Rw⟩
      have b8 := b7.chain Rw.bel
      have HN8 := hide ((unhide HN7).below Rw.bel)
      have HR := hide Rw
      clear Rw HN7 b7
      go_wp2_with fail
      refine (newAcc num w7 w8 w7.heap.size (m + 0) (jn m h h) (unhide HR)).mono ?_
      rintro e w9 ⟨rfl, b9', T9⟩
      have b9 := b8.chain b9'
      have HN9 := hide ((unhide HN8).below b9')
      have HT := hide T9
      clear b9' T9 HN8 HR b8
      go_wp2_with fail
      refine (found _ _ _ (m + 0) wn (jn m h h) w9 (unhide HT) (unhide HN9) (by omega) (ex_left (unhide yB))).mono ?_
      rintro e w10 ⟨k, hk, rfl, b10'⟩
      have b10 := b9.chain b10'
      have hkj : k = j := (hk.left (unhide yB)).unique (unhide HJ)
      subst hkj
      clear b10' HN9 HT hk HJ
      go_wp2
      go_ret
      exact ⟨rfl, b10⟩
  · have yA := hide ((unhide R1).1 (by simp))
    clear R1
    go_wp2_with fail
    refine (newNum wn w1).mono ?_
    rintro e w3 ⟨rfl, b3', N3⟩
    have b3 := b1.chain b3'
    have HN3 := hide N3
    clear b3' N3
    go_wp2_with fail
    refine (join a b n c m d f h w3 ((unhide QA).below b3) ((unhide QB).below b3) (by omega) (by omega)).mono ?_
    rintro e w4 ⟨rfl, Rw⟩
    have b4 := b3.chain Rw.bel
    have HN4 := hide ((unhide HN3).below Rw.bel)
    have HR := hide Rw
    clear Rw HN3 b3
    go_wp2_with fail
    refine (newAcc num w3 w4 w3.heap.size (n + m) (jn n f h) (unhide HR)).mono ?_
    rintro e w5 ⟨rfl, b5', T5⟩
    have b5 := b4.chain b5'
    have HN5 := hide ((unhide HN4).below b5')
    have HT := hide T5
    clear b5' T5 HN4 HR b4
    go_wp2_with fail
    refine (found _ _ _ (n + m) wn (jn n f h) w5 (unhide HT) (unhide HN5) (by omega) (ex_left (unhide yA))).mono ?_
    rintro e w6 ⟨j, hk, rfl, b6'⟩
    have b6 := b5.chain b6'
    have HN6 := hide ((unhide HN5).below b6')
    have hj := hk.left (unhide yA)
    have HJ := hide hj
    have hj1 := hj.1
    have hrd := hj.2.1
    clear b6' HN5 HT hk hj
    obtain ⟨bb, off, rfl, lb, cc⟩ := (unhide QA).at b6 hj1
    obtain ⟨c0, c1, c2, c3⟩ := cc
    have e2 : ¬ ((j : Int) < 0) := by omega
    have e3 : ((j : Int) < n) := by omega
    go_wp2_with fail
    refine (isReadX (f j) wn _).mono ?_
    rintro e w7 ⟨rfl, b7'⟩
    have b7 := (b6.alloc b6.size _).trans (b7'.mono (by simp; have := b6.size; omega))
    have HN7 := hide (((unhide HN6).below ((Below.refl _ _).alloc (Nat.le_refl _) _)).below b7')
    clear b7' HN6 c0 c1 c2 c3 e2 e3 lb b6 b5 b1
    go_wp2_with fail
    refine (join _ none n c 0 0 f f w7 ((unhide QA).below b7) (QuadsAt.nil _ _ _) (by omega) (by omega)).mono ?_
    rintro e w8 ⟨rfl, Rw⟩
    have b8 := b7.chain Rw.bel
    have HN8 := hide ((unhide HN7).below Rw.bel)
    have HR := hide Rw
    clear Rw HN7 b7
    go_wp2_with fail
    refine (newAcc num w7 w8 w7.heap.size (n + 0) (jn n f f) (unhide HR)).mono ?_
    rintro e w9 ⟨rfl, b9', T9⟩
    have b9 := b8.chain b9'
    have HN9 := hide ((unhide HN8).below b9')
    have HT := hide T9
    clear b9' T9 HN8 HR b8
    go_wp2_with fail
    refine (found _ _ _ (n + 0) wn (jn n f f) w9 (unhide HT) (unhide HN9) (by omega) (ex_left (unhide yA))).mono ?_
    rintro e w10 ⟨k, hk, rfl, b10'⟩
    have b10 := b9.chain b10'
    have hkj : k = j := (hk.left (unhide yA)).unique (unhide HJ)
    subst hkj
    clear b10' HN9 HT hk HJ
    go_wp2
    go_ret
    exact ⟨rfl, b10⟩

set_option maxHeartbeats 1000000 in
set_option maxRecDepth 100000 in
theorem walkAll (a0 a1 : Option Addr) (n0 c0 n1 c1 : Nat) (f h : Nat → Acc) (num wn : Int) (w : World) (p0 : QuadsAt w a0 n0 f) (p1 : QuadsAt w a1 n1 h) (m0 : n0 ≤ 9223372036854775807) (m1 : n1 ≤ 9223372036854775807) :
    Calls Try.prog 4 #[.slice a0 n0 c0, .slice a1 n1 c1, .int .i64 num, .int .i64 wn] w fun e w' => e = .returned (.bool true) ∧ Below w.heap.size w w' := by
  by_cases hs : n0 + n1 ≤ 1048576
  · by_cases h0 : n0 ≤ 16384
    · by_cases h1 : n1 ≤ 16384
      · exact walk a0 a1 n0 c0 n1 c1 f h num wn w p0 p1 hs h0 h1
      · clear p0 p1
        go_enter Try.func4, Try.ntmps4
        go_wp2_with (go_at_call 14; refine (bytesYes _ _ _ _ _ _ _ _ _ hs).mono ?_; rintro e w' ⟨rfl, rfl⟩)
        go_ret
        exact ⟨rfl, Below.refl _ _⟩
    · clear p0 p1
      go_enter Try.func4, Try.ntmps4
      go_wp2_with (go_at_call 14; refine (bytesYes _ _ _ _ _ _ _ _ _ hs).mono ?_; rintro e w' ⟨rfl, rfl⟩)
      go_ret
      exact ⟨rfl, Below.refl _ _⟩
  · clear p0 p1
    go_enter Try.func4, Try.ntmps4
    go_wp2_with (go_at_call 14; refine (bytesNo _ _ _ _ _ _ _ _ _ hs m0 m1).mono ?_; rintro e w' ⟨rfl, rfl⟩)
    go_ret
    exact ⟨rfl, Below.refl _ _⟩
end Go.Proofs.Qxb6616487a.Fr
