import Derived.Test.Qxb6616086aFmtDwN
namespace Go.Proofs.Qxb6616086aFmt.Dw
open Go.RowKit Go.Deep Go.Extern.Stop Go.Stop Go.Extern Go.Maps Go.WideShapes Go.ChangeMaps
set_option linter.unusedVariables false

theorem wpList_append_tables {base m : Nat} {L : List ByteArray} {x : ByteArray} (w : World) {ops : Array Oper} {rest : List Oper} {o : Oper} {a : Act} {Q : Exit → Act → World → Prop} (hgd : o.guard = none) (s y : Operand)
    (ho : o.op = .call { callee := .builtin .append, args := #[s, y], argTypes := #[28, 28] }) (v : Value) (hs : a.eval s = v) (T : TbS w base v L m) (hfull : ∀ a cap, v = .slice a L.length cap → ¬ L.length < cap) (hb : base ≤ w.heap.size) (hL : L.length < 65536)
    (ad : Addr) (c : Nat) (hy : a.eval y = .slice (some ad) 1 c) (hn : ∀ j u, [Value.string x, .bool false, .slice none 0 0, .map none][j]? = some u → w.cell? (ad.add j) = some u)
    (h : ∀ g cap' w', TbS w' base (.slice (some ⟨g, 0, none⟩) (L.length + 1) cap') (L ++ [x]) m → Below w.heap.size w w' → wpList Tryf.prog ops Q rest (a.put o.dst (.slice (some ⟨g, 0, none⟩) (L.length + 1) cap')) w') : wpList Tryf.prog ops Q (o :: rest) a w := by
  refine wpList_plain hgd fun _ hK => ?_
  obtain ⟨g, cap', w', hr, h2, h3⟩ := run_append_tables (x := x) w v o.type T hfull hb hL ad hn c
  unfold Oper.wp execOp
  simp only [ho, resolve, invoke, builtin, Sem.run_bind, Sem.run_pure, Result.andThen_ok, List.map_toArray, List.map_cons, List.map_nil, hs, hy, hr]
  exact hK _ _ (h g cap' w' h2 h3)

section
variable {w w' w1 w2 w4 : World} {base wb : Nat} {v v2 ix ix' : Value} {L : List ByteArray} {m : Nat} {x : ByteArray}
theorem WS.lt (h : WS w base wb v ix L m) : wb < w.heap.size := (Array.getElem?_eq_some_iff.1 h.hd).1
theorem WS.c0 (h : WS w base wb v ix L m) : w.cell? ⟨wb, 0, none⟩ = some v := by simp [World.cell?, h.hd]
theorem WS.c1 (h : WS w base wb v ix L m) : w.cell? ⟨wb, 1, none⟩ = some ix := by simp [World.cell?, h.hd]
theorem WS.fz (h : WS w base wb v ix L m) (o : Nat) : w.frozen? ⟨wb, o, none⟩ = false := by simp [World.frozen?, h.hd]
theorem IX.keep (h : IX w ix L) (hk : ∀ mb, ix = .map (some mb) → w'.heap[mb]? = w.heap[mb]?) : IX w' ix L := by
  rcases h with h | ⟨mb, e, M, h8⟩
  · exact .inl h
  · exact .inr ⟨mb, e, M.block (hk mb e), h8⟩
theorem IX.notCells (h : IX w ix L) {k : Nat} {c : Array Value} {e : TypeId} {fr : Nat × Nat} (hk : w.heap[k]? = some (.cells c e fr)) : ix ≠ .map (some k) := by
  rintro rfl
  rcases h with ⟨h, _⟩ | ⟨mb, e, M, h8⟩
  · cases h
  · cases e
    obtain ⟨es, c', h⟩ := M.obj
    rw [hk] at h
    cases h
theorem WS.below (h : WS w base wb v ix L m) (hb : Below w.heap.size w w') : WS w' base wb v ix L m :=
  ⟨(hb.block _ h.lt).trans h.hd, h.lo, h.tb.below hb, h.ixx.below hb, h.ib, h.nd, h.sz⟩
theorem WS.mono {m' : Nat} (h : WS w base wb v ix L m) (hm : m ≤ m') : WS w base wb v ix L m' := ⟨h.hd, h.lo, h.tb.mono hm, h.ixx, h.ib, h.nd, h.sz⟩
theorem Mv.refl (base wb : Nat) (w : World) : Mv base wb w w := ⟨rfl, rfl, rfl, Nat.le_refl _, fun _ _ => rfl, fun _ _ _ _ _ _ => rfl⟩
theorem Mv.ofBelow (h : Below w.heap.size w w') (hb : base ≤ w.heap.size) : Mv base wb w w' := ⟨h.os, h.tape, h.output, h.size, fun k hk => h.block k (by omega), fun k c e hk _ _ => h.block k (Array.getElem?_eq_some_iff.1 hk).1⟩
theorem Mv.trans {w'' : World} (h : Mv base wb w w') (k : Mv base wb w' w'') : Mv base wb w w'' :=
  ⟨k.os.trans h.os, k.tape.trans h.tape, k.output.trans h.output, Nat.le_trans h.size k.size, fun i hi => (k.low i hi).trans (h.low i hi), fun i c e hi h1 h2 => by
    have e1 := h.keep i c e hi h1 h2
    exact (k.keep i c e (e1.trans hi) h1 h2).trans e1⟩
theorem Mv.setW (w : World) (o : Nat) (u : Value) (hb : base ≤ wb) : Mv base wb w (w.setCell ⟨wb, o, none⟩ u) :=
  ⟨rfl, rfl, rfl, by simp, fun k hk => Below.heap_setCell _ _ _ _ (by simp; omega), fun k c e _ _ h => Below.heap_setCell _ _ _ _ h⟩
theorem Mv.setT (w : World) (g o : Nat) (u : Value) {cur : Array Value} (hg : w.heap[g]? = some (.cells cur 54 (0, 0))) (hb : base ≤ g) : Mv base wb w (w.setCell ⟨g, o, none⟩ u) :=
  ⟨rfl, rfl, rfl, by simp, fun k hk => Below.heap_setCell _ _ _ _ (by simp; omega), fun k c e hk he _ => Below.heap_setCell _ _ _ _ (fun e1 => by
    simp at e1
    subst e1
    rw [hg] at hk
    simp only [Option.some.injEq, Obj.cells.injEq] at hk
    exact he hk.2.1.symm)⟩
theorem Mv.below (h : Mv base wb w w') : Below base w w' := ⟨h.os, h.tape, h.output, h.size, h.low⟩

/-- a name more: the write set behind 'table' -/
theorem WS.more (S : WS w base wb v ix L m) (hx : ¬ x ∈ L) (hs : x.size ≤ 65536) (M1 : Mv base wb w w2) (T2 : TbS w2 base v2 (L ++ [x]) m) (I2 : IX w2 ix L) (P : IP w2.drew w4 wb v2 ix ix' (L ++ [x])) (hd2 : w2.heap[wb]? = some (.cells #[v2, ix] 31 (0, 0))) (hbs : base ≤ w.heap.size) :
    WS w4 base wb v2 ix' (L ++ [x]) m ∧ Mv base wb w w4 := by
  have M2 : Mv base wb w2 w4 := by
    refine ⟨P.os, P.tape, P.output, P.size, fun k hk => ?_, fun k c e hk he hne => ?_⟩
    · have hl : k < w2.heap.size := by have := M1.size; omega
      exact P.block k hl (by have := S.lo; omega) (fun e => by have := S.ib k e; omega)
    · exact P.block k (Array.getElem?_eq_some_iff.1 hk).1 hne (I2.notCells hk)
  refine ⟨⟨P.hd, S.lo, T2.stay (fun k c _ hk => ?_) (fun k c _ hk => ?_), P.ixx, fun mb e => ?_, ?_, fun y hy => ?_⟩, M1.trans M2⟩
  · exact P.block k (Array.getElem?_eq_some_iff.1 hk).1 (fun e => by rw [e, hd2] at hk; cases hk) (I2.notCells hk)
  · exact M2.keep k c 58 hk (by decide) (fun e => by rw [e, hd2] at hk; cases hk)
  · rcases P.new mb e with h | h
    · have h' : w2.heap.size ≤ mb := h
      have := M1.size
      omega
    · exact S.ib mb h
  · exact List.nodup_append.2 ⟨S.nd, by simp, fun a ha b hb => by simp at hb; subst hb; intro e; exact hx (e ▸ ha)⟩
  · simp at hy
    rcases hy with h | h
    · exact S.sz y h
    · exact h ▸ hs
end

/-- what 'table' leaves -/
def TB (w w' : World) (base wb : Nat) (L : List ByteArray) (m : Nat) (x : ByteArray) (r : Ending) : Prop :=
  ∃ (ix' : Value) (g cap t : Nat), r = .returned (.pointer (some ⟨g, t * 4, none⟩)) ∧ WS w' base wb (.slice (some ⟨g, 0, none⟩) (addN L x).length cap) ix' (addN L x) m ∧ t < (addN L x).length ∧ Mv base wb w w'

set_option maxHeartbeats 2000000 in
set_option maxRecDepth 100000 in
theorem table (base wb : Nat) (v ix : Value) (L : List ByteArray) (m : Nat) (x : ByteArray) (w : World) (S : WS w base wb v ix L m) (hx : x.size ≤ 65536) (hL : L.length < 65536) (hb : base ≤ w.heap.size) :
    Calls Tryf.prog 19 #[.pointer (some ⟨wb, 0, none⟩), .string x] w fun r w' => TB w w' base wb L m x r := by
  have hmx : x.size ≤ maxLen := by unfold maxLen; omega
  have C1 := hide (find ix v L x w S.tb.tn S.ixx (by omega) hmx)
  have c0 := S.c0
  have c1 := S.c1
  have HS := hide S
  clear S
  go_enter Tryf.func19, Tryf.ntmps19
  go_wp2_with fail
  refine (unhide C1).mono ?_
  rintro r w1 ⟨⟨z, rfl, hz⟩, B1⟩
  have S1 := (unhide HS).below B1
  have d0 := S1.c0
  have d1 := S1.c1
  have fz := S1.fz 0
  rcases hz with ⟨i, rfl, hi⟩ | ⟨rfl, hno⟩
  · have hin : x ∈ L := List.mem_of_getElem? hi
    have hil : i < L.length := (List.getElem?_eq_some_iff.1 hi).1
    obtain ⟨g, cap, e1, _⟩ := S1.tb.tn.name hi
    subst e1
    have i0 : ¬ (i : Int) < 0 := by omega
    have i1 : (0 : Int) ≤ (i : Int) := by omega
    have i2 : (i : Int) < (L.length : Int) := by omega
    have HF := hide (show TB w w1 base wb L m x (.returned (.pointer (some ⟨g, i * 4, none⟩))) from ⟨ix, g, cap, i, rfl, by rw [addN_pos hin]; exact S1, by rw [addN_pos hin]; exact hil, Mv.ofBelow B1 hb⟩)
    clear S1 hi hin C1
    go_wp2_with fail
    go_ret
    exact unhide HF
  · obtain ⟨a, cap, e1⟩ := S1.tb.tn.shape
    subst e1
    have szs : ∀ y ∈ L ++ [x], y.size ≤ maxLen := fun y hy => by
      simp at hy
      unfold maxLen
      rcases hy with h | h
      · have := S1.sz y h; omega
      · rw [h]; omega
    have l1 := S1.lt
    have lo := S1.lo
    by_cases hlt : L.length < cap
    · obtain ⟨g, cur, ea, hbg, hg, hcs⟩ : ∃ (g : Nat) (cur : Array Value), a = some ⟨g, 0, none⟩ ∧ base ≤ g ∧ w1.heap[g]? = some (.cells cur 54 (0, 0)) ∧ cur.size = cap * 4 := by
        rcases S1.tb with ⟨h, h'⟩ | ⟨g, cap', cur, h1, h2, h3, h4, _⟩
        · simp only [Value.slice.injEq] at h
          omega
        · simp only [Value.slice.injEq, true_and] at h1
          obtain ⟨rfl, rfl⟩ := h1
          exact ⟨g, cur, rfl, h2, h3, h4⟩
      subst ea
      have hne : wb ≠ g := by
        intro e
        have := S1.hd
        rw [e, hg] at this
        simp at this
      have hne' : g ≠ wb := fun e => hne e.symm
      obtain ⟨y, hy⟩ : ∃ y, w1.cell? ⟨g, L.length * 4, none⟩ = some y := ⟨cur[L.length * 4]'(by omega), by rw [cell_of_row _ _ _ _ _ _ hg, Array.getElem?_eq_getElem]⟩
      have fg : w1.frozen? ⟨g, L.length * 4, none⟩ = false := by simp [World.frozen?, hg]
      have Ta := S1.tb.stay (w' := w1.setCell ⟨wb, 0, none⟩ (.slice (some ⟨g, 0, none⟩) (L.length + 1) cap)) (fun k c _ hk => Below.heap_setCell _ _ _ _ (fun e => by simp at e; rw [e, S1.hd] at hk; cases hk)) (fun k c _ hk => Below.heap_setCell _ _ _ _ (fun e => by simp at e; rw [e, S1.hd] at hk; cases hk))
      have T2 := Ta.room (x := x) hlt
      have hga : (w1.setCell ⟨wb, 0, none⟩ (.slice (some ⟨g, 0, none⟩) (L.length + 1) cap)).heap[g]? = some (.cells cur 54 (0, 0)) := (Below.heap_setCell _ _ _ _ hne').trans hg
      have hd2 : ((w1.setCell ⟨wb, 0, none⟩ (.slice (some ⟨g, 0, none⟩) (L.length + 1) cap)).setCell ⟨g, L.length * 4, none⟩ (.string x)).heap[wb]? = some (.cells #[.slice (some ⟨g, 0, none⟩) (L.length + 1) cap, ix] 31 (0, 0)) := by
        rw [Below.heap_setCell _ _ _ _ hne]
        have := S1.hd
        simp [World.setCell, Array.getElem?_modify, this]
      have M1 := (Mv.ofBelow (wb := wb) B1 hb).trans ((Mv.setW w1 0 (.slice (some ⟨g, 0, none⟩) (L.length + 1) cap) lo).trans (Mv.setT (wb := wb) _ g (L.length * 4) (.string x) hga hbg))
      have I2 : IX ((w1.setCell ⟨wb, 0, none⟩ (.slice (some ⟨g, 0, none⟩) (L.length + 1) cap)).setCell ⟨g, L.length * 4, none⟩ (.string x)) ix L := S1.ixx.keep fun mb e => by
        rw [Below.heap_setCell _ _ _ _ (fun e2 => S1.ixx.notCells hg (by simp at e2; rw [← e2]; exact e)), Below.heap_setCell _ _ _ _ (fun e2 => S1.ixx.notCells S1.hd (by simp at e2; rw [← e2]; exact e))]
      have C28 := hide (indexLast wb _ ix L x (((w1.setCell ⟨wb, 0, none⟩ (.slice (some ⟨g, 0, none⟩) (L.length + 1) cap)).setCell ⟨g, L.length * 4, none⟩ (.string x)).drew) hd2 T2.tn I2 hno S1.nd szs hL)
      have HM := hide (fun w4 ix' (P : IP (((w1.setCell ⟨wb, 0, none⟩ (.slice (some ⟨g, 0, none⟩) (L.length + 1) cap)).setCell ⟨g, L.length * 4, none⟩ (.string x)).drew) w4 wb (.slice (some ⟨g, 0, none⟩) (L.length + 1) cap) ix ix' (L ++ [x])) => (unhide HS).more hno hx M1 T2 I2 P hd2 hb)
      have HN := hide hno
      have i1 : (L.length : Int) < (cap : Int) := by omega
      have i2 : (L.length : Int) + 1 ≤ (cap : Int) := by omega
      have i3 : (0 : Int) ≤ (L.length : Int) + 1 := by omega
      have i4 : (L.length : Int) < (L.length : Int) + 1 := by omega
      have i5 : (0 : Int) ≤ (L.length : Int) := by omega
      have i6 : cap ≠ 0 := by omega
      have lg : g < w1.heap.size := (Array.getElem?_eq_some_iff.1 hg).1
      clear S1 Ta T2 hga hd2 M1 I2 hno C1 c0 c1
      go_upto_region 8 with fail
      go_region_with ((go_at_call 28; refine (unhide C28).mono ?_; rintro e w4 ⟨rfl, ix', P4⟩; have q0 : w4.cell? ⟨wb, 0, none⟩ = some (.slice (some ⟨g, 0, none⟩) (L.length + 1) cap) := by (simp [World.cell?, P4.hd])))
      all_goals
        go_wp2_with fail
        go_ret
        obtain ⟨Sf, Mf⟩ := unhide HM _ _ P4
        exact ⟨ix', g, cap, L.length, rfl, by rw [addN_neg (unhide HN)]; simpa using Sf, by rw [addN_neg (unhide HN)]; simp, Mf⟩
    · have HN := hide hno
      have HS1 := hide S1
      have HB1 := hide B1
      have i1 : ¬ (L.length : Int) < (cap : Int) := by omega
      have i4 : (L.length : Int) < (L.length : Int) + 1 := by omega
      have i5 : (0 : Int) ≤ (L.length : Int) := by omega
      have hbs := B1.size
      clear S1 hno C1 c0 c1 B1
      go_upto_region 8 with (at_builtin; refine wpList_append_tables (base := base) (m := m) (L := L) (x := x) _ rfl _ _ rfl _ rfl ((unhide HS1).tb.below ((Below.refl _ _).alloc (Nat.le_refl _) _)) (fun a' cap' e => by cases e; exact hlt) (by simp; omega) hL _ _ rfl (cell_four_new _ _ _ _ _ _) ?_; intro g cap' w3 T3 B3; have BB := hide ((((Below.refl _ _).alloc (Nat.le_refl _) (.cells #[.string x, .bool false, .slice none 0 0, .map none] 54)) : Below w1.heap.size w1 _).trans (B3.mono (by simp))); have S3 := (unhide HS1).below (unhide BB); have e0 := S3.c0; have e1 := S3.fz 0; have HS3 := hide S3; have HT3 := hide T3; clear S3 T3 B3)
      have S3 := unhide HS3
      have T2 := (unhide HT3).stay (w' := w3.setCell ⟨wb, 0, none⟩ (.slice (some ⟨g, 0, none⟩) (L.length + 1) cap')) (fun k c _ hk => Below.heap_setCell _ _ _ _ (fun e => by simp at e; rw [e, S3.hd] at hk; cases hk)) (fun k c _ hk => Below.heap_setCell _ _ _ _ (fun e => by simp at e; rw [e, S3.hd] at hk; cases hk))
      have hd2 : (w3.setCell ⟨wb, 0, none⟩ (.slice (some ⟨g, 0, none⟩) (L.length + 1) cap')).heap[wb]? = some (.cells #[.slice (some ⟨g, 0, none⟩) (L.length + 1) cap', ix] 31 (0, 0)) := by
        have := S3.hd
        simp [World.setCell, Array.getElem?_modify, this]
      have M1 := (Mv.ofBelow (wb := wb) (unhide HB1) hb).trans ((Mv.ofBelow (base := base) (unhide BB) (by omega)).trans (Mv.setW w3 0 (.slice (some ⟨g, 0, none⟩) (L.length + 1) cap') lo))
      have I2 : IX (w3.setCell ⟨wb, 0, none⟩ (.slice (some ⟨g, 0, none⟩) (L.length + 1) cap')) ix L := S3.ixx.keep fun mb e => by
        rw [Below.heap_setCell _ _ _ _ (fun e2 => S3.ixx.notCells S3.hd (by simp at e2; rw [← e2]; exact e))]
      have C28 := hide (indexLast wb _ ix L x ((w3.setCell ⟨wb, 0, none⟩ (.slice (some ⟨g, 0, none⟩) (L.length + 1) cap')).drew) hd2 T2.tn I2 (unhide HN) S3.nd szs hL)
      have HM := hide (fun w4 ix' (P : IP ((w3.setCell ⟨wb, 0, none⟩ (.slice (some ⟨g, 0, none⟩) (L.length + 1) cap')).drew) w4 wb (.slice (some ⟨g, 0, none⟩) (L.length + 1) cap') ix ix' (L ++ [x])) => (unhide HS).more (unhide HN) hx M1 T2 I2 P hd2 hb)
      clear S3 T2 hd2 M1 I2
      go_region_with ((go_at_call 28; refine (unhide C28).mono ?_; rintro e w4 ⟨rfl, ix', P4⟩; have q0 : w4.cell? ⟨wb, 0, none⟩ = some (.slice (some ⟨g, 0, none⟩) (L.length + 1) cap') := by (simp [World.cell?, P4.hd])))
      all_goals
        go_wp2_with fail
        go_ret
        obtain ⟨Sf, Mf⟩ := unhide HM _ _ P4
        exact ⟨ix', g, cap', L.length, rfl, by rw [addN_neg (unhide HN)]; simpa using Sf, by rw [addN_neg (unhide HN)]; simp, Mf⟩
end Go.Proofs.Qxb6616086aFmt.Dw
