import Derived.Test.Qxb6616086aFmtDwE
import Derived.Laws.AppendOwn
import Derived.Laws.OwnMore
import Derived.OwnWalk
import Derived.Deep.RegionLaw
import Derived.Laws.StructEq
namespace Go.Proofs.Qxb6616086aFmt.Dw
open Go.RowKit Go.Deep Go.Extern.Stop Go.Stop Go.Extern
set_option linter.unusedVariables false

/-- only rows of type e, from base on, turn, and keep their size -/
structure Shp (base : Nat) (e : TypeId) (w w' : World) : Prop where
  os : w'.os = w.os
  tape : w'.tape = w.tape
  output : w'.output = w.output
  size : w.heap.size ≤ w'.heap.size
  same : ∀ k : Nat, k < w.heap.size → (k < base ∨ ∀ c : Array Value, w.heap[k]? ≠ some (.cells c e (0, 0))) → w'.heap[k]? = w.heap[k]?
  rows : ∀ (k : Nat) (c : Array Value), w.heap[k]? = some (.cells c e (0, 0)) → ∃ c' : Array Value, w'.heap[k]? = some (.cells c' e (0, 0)) ∧ c'.size = c.size

theorem Shp.refl (base : Nat) (e : TypeId) (w : World) : Shp base e w w := ⟨rfl, rfl, rfl, Nat.le_refl _, fun _ _ _ => rfl, fun k c h => ⟨c, h, rfl⟩⟩
theorem Shp.trans {base : Nat} {e : TypeId} {a b c : World} (h : Shp base e a b) (k : Shp base e b c) : Shp base e a c := by
  refine ⟨k.os.trans h.os, k.tape.trans h.tape, k.output.trans h.output, Nat.le_trans h.size k.size, fun i hi ho => ?_, fun i x hx => ?_⟩
  · have e1 := h.same i hi ho
    rw [← e1]
    exact k.same i (Nat.lt_of_lt_of_le hi h.size) (by rw [e1]; exact ho)
  · obtain ⟨c1, h1, s1⟩ := h.rows i x hx
    obtain ⟨c2, h2, s2⟩ := k.rows i c1 h1
    exact ⟨c2, h2, s2.trans s1⟩
theorem Shp.ofBelow {base : Nat} {e : TypeId} {a b : World} (h : Below a.heap.size a b) : Shp base e a b :=
  ⟨h.os, h.tape, h.output, h.size, fun k hk _ => h.block k hk, fun k c hc => ⟨c, (h.block k (Array.getElem?_eq_some_iff.1 hc).1).trans hc, rfl⟩⟩
theorem Shp.below {base : Nat} {e : TypeId} {a b : World} (h : Shp base e a b) (hs : base ≤ a.heap.size) : Below base a b :=
  ⟨h.os, h.tape, h.output, h.size, fun k hk => h.same k (by omega) (.inl hk)⟩
theorem Shp.other {base : Nat} {e e' : TypeId} {a b : World} (h : Shp base e a b) (he : e' ≠ e) {k : Nat} {c : Array Value} (hk : a.heap[k]? = some (.cells c e' (0, 0))) : b.heap[k]? = some (.cells c e' (0, 0)) :=
  (h.same k (Array.getElem?_eq_some_iff.1 hk).1 (.inr fun c' => by rw [hk]; simp [he])).trans hk
theorem Shp.setRow {base : Nat} {e : TypeId} (w : World) (g : Nat) (cur cs : Array Value) (hg : w.heap[g]? = some (.cells cur e (0, 0))) (hb : base ≤ g) (hs : cs.size = cur.size) : Shp base e w (w.setRow g cs) := by
  refine ⟨rfl, rfl, rfl, by simp, fun k hk ho => ?_, fun k c hc => ?_⟩
  · by_cases e1 : k = g
    · subst e1
      rcases ho with ho | ho
      · omega
      · exact absurd hg (ho cur)
    · exact setRow_other w g k cs e1
  · by_cases e1 : k = g
    · subst e1
      rw [hg] at hc
      simp only [Option.some.injEq, Obj.cells.injEq] at hc
      exact ⟨cs, setRow_heap w k cur cs e _ hg, by rw [hs, hc.1]⟩
    · exact ⟨c, (setRow_other w g k cs e1).trans hc, rfl⟩
theorem Shp.setCell {base : Nat} {e : TypeId} (w : World) (g o : Nat) (cur : Array Value) (v : Value) (hg : w.heap[g]? = some (.cells cur e (0, 0))) (hb : base ≤ g) : Shp base e w (w.setCell ⟨g, o, none⟩ v) := by
  rw [setCell_eq_setRow w g o cur e (0, 0) v hg]
  exact Shp.setRow w g cur _ hg hb (by simp)

section
variable {w w' : World} {base : Nat} {e e' : TypeId} {size : Nat} {v : Value} {n : Nat} {xs : List Value}
/-- a row of another type is as it was -/
theorem own_other (h : w.ownsRow base e' size v n xs) (s : Shp base e w w') (he : e' ≠ e) : w'.ownsRow base e' size v n xs := by
  refine ⟨h.1, ?_⟩
  rcases h.2 with h1 | ⟨g, cap, cur, h1, h2, h3, h4⟩
  · exact .inl h1
  · exact .inr ⟨g, cap, cur, h1, h2, s.other he h3, h4⟩
/-- a valid slice of its own memory, its content unsaid -/
def Chg (w : World) (base : Nat) (e : TypeId) (size : Nat) (v : Value) (n : Nat) : Prop := ∃ xs, w.ownsRow base e size v n xs
theorem Chg.same (h : Chg w base e size v n) (s : Shp base e w w') : Chg w' base e size v n := by
  obtain ⟨xs, h0, h⟩ := h
  rcases h with h1 | ⟨g, cap, cur, h1, h2, h3, h4, h5, h6, h7⟩
  · exact ⟨xs, h0, .inl h1⟩
  · obtain ⟨c', hc, hs⟩ := s.rows g cur h3
    refine ⟨c'.toList.take (n * size), ?_, .inr ⟨g, cap, c', h1, h2, hc, h4, h5, hs.trans h6, rfl⟩⟩
    rw [List.length_take, Array.length_toList, hs, h6]
    exact Nat.min_eq_left (Nat.mul_le_mul_right _ h4)
theorem Chg.other (h : Chg w base e' size v n) (s : Shp base e w w') (he : e' ≠ e) : Chg w' base e' size v n := by
  obtain ⟨xs, h⟩ := h
  exact ⟨xs, own_other h s he⟩
theorem Chg.nil (w : World) (base : Nat) (e : TypeId) (size : Nat) : Chg w base e size (.slice none 0 0) 0 := ⟨[], World.ownsRow_nil w base e size⟩
end

theorem Shp.grow {base : Nat} {e : TypeId} (w : World) (o : Obj) : Shp base e w (w.drew.alloc o) := Shp.ofBelow (((Below.refl _ _).drew).alloc (by simp) _)

/-- append, whatever room there is: what it leaves, and that only rows of its type turn -/
theorem run_append_shp {P : Program} (w : World) (base : Nat) (t ty e : TypeId) (i : TypeInfo) (z : Value) (size bytes : Nat) (ht : P.underlying t = some (.slice e)) (hi : P.info? e = some i) (hz : i.zero = some z)
    (hsize : i.size = size) (hby : i.bytes = bytes) (hzs : z.cells.size = size) (hsz : 0 < size)
    (v : Value) (n : Nat) (xs : List Value) (hown : w.ownsRow base e size v n xs)
    (a : Addr) (c : Nat) (news : List Value) (hl : news.length = 1 * size) (hnews : ∀ j u, news[j]? = some u → w.cell? (a.add j) = some u) (h1 : ∀ u ∈ news, u.oneCell' = true)
    (h63 : n + 1 ≤ maxLen) (hbytes : (n + 1) * bytes ≤ 140737488355328) (hbase : base ≤ w.heap.size) :
    ∃ v' w', (Builtin.append_ #[t, t] ty #[v, .slice (some a) 1 c]).run P w = .ok v' w' ∧ w'.ownsRow base e size v' (n + 1) (xs ++ news) ∧ Shp base e w w' := by
  subst hsize
  subst hby
  have hlen : (xs ++ news).length = (n + 1) * i.size := by rw [List.length_append, hown.1, hl, Nat.add_mul]
  have hmx : n + 1 ≤ 9223372036854775807 := by simpa [maxLen] using h63
  rcases hown.2 with ⟨rfl, rfl⟩ | ⟨g, cap, cur, rfl, hbg, hg, hnc, hcm, hcs, htake⟩
  · have hx : xs = [] := List.eq_nil_of_length_eq_zero (by simpa using hown.1)
    subst hx
    have hr := run_append_nil (P := P) w t ty e i z ht hi hz a 1 c news hl hnews (by omega) (by omega) (by omega)
    refine ⟨_, _, hr, ?_, Shp.grow w _⟩
    have hge := grownCap_ge w 1 0 e
    refine ⟨by simpa using hlen, .inr ⟨w.heap.size, _, _, rfl, hbase, heap_alloc_new w.drew _, hge, grownCap_le_maxLen w 1 0 e (by simp [maxLen]), ?_, ?_⟩⟩
    · simp only [Array.size_append, List.size_toArray, size_zeroCells, hzs, hl, ← Nat.add_mul]
      congr 1
      omega
    · simp only [Array.toList_append, List.nil_append, Nat.zero_add]
      rw [← hl]
      exact List.take_left
  · by_cases hroom : n + 1 ≤ cap
    · have hfit : n * i.size + news.length ≤ cur.size := by rw [hl, hcs, ← Nat.add_mul]; exact Nat.mul_le_mul_right _ hroom
      have hr := run_append_room (P := P) w t ty e i ht hi g n cap cur hg a 1 c news hl hnews h1 hroom hfit
      have hsz2 : (cur.toList.take (n * i.size) ++ news ++ cur.toList.drop (n * i.size + news.length)).toArray.size = cur.size := by
        simp only [List.size_toArray, List.length_append, List.length_take, List.length_drop, Array.length_toList]
        omega
      refine ⟨_, _, hr, ⟨hlen, .inr ⟨g, cap, _, rfl, hbg, setRow_heap w g cur _ e _ hg, hroom, hcm, by rw [hsz2, hcs], ?_⟩⟩, Shp.setRow w g cur _ hg hbg hsz2⟩
      rw [htake, ← hlen]
      exact List.take_left
    · have holds : ∀ j u, xs[j]? = some u → w.cell? ((⟨g, 0, none⟩ : Addr).add j) = some u := hown.cells (g := g) rfl
      have hr := run_append_grow (P := P) w t ty e i z ht hi hz ⟨g, 0, none⟩ n cap xs hown.1 holds a 1 c news hl hnews (by omega) (by omega) (growslice_fits (by omega) hbytes)
      refine ⟨_, _, hr, ?_, Shp.grow w _⟩
      have hge := grownCap_ge w (n + 1) cap e
      refine ⟨hlen, .inr ⟨w.heap.size, _, _, rfl, hbase, heap_alloc_new w.drew _, hge, grownCap_le_maxLen w (n + 1) cap e h63, ?_, ?_⟩⟩
      · simp only [Array.size_append, List.size_toArray, size_zeroCells, hzs, hown.1, hl, ← Nat.add_mul]
        congr 1
        omega
      · simp only [Array.toList_append, List.append_assoc]
        rw [← List.append_assoc, ← hlen]
        exact List.take_left

/-- .. AT THE OPERATION, for the walk -/
theorem wpList_append_shp {P : Program} (w : World) {ops : Array Oper} {rest : List Oper} {o : Oper} {a : Act} {Q : Exit → Act → World → Prop} (hgd : o.guard = none) (s x : Operand) (t : TypeId)
    (ho : o.op = .call { callee := .builtin .append, args := #[s, x], argTypes := #[t, t] })
    (base : Nat) (e : TypeId) (i : TypeInfo) (z : Value) (size bytes : Nat) (ht : P.underlying t = some (.slice e)) (hi : P.info? e = some i) (hz : i.zero = some z)
    (hsize : i.size = size) (hby : i.bytes = bytes) (hzs : z.cells.size = size) (hsz : 0 < size)
    (v : Value) (n : Nat) (xs : List Value) (hs : a.eval s = v) (hown : w.ownsRow base e size v n xs)
    (ad : Addr) (c : Nat) (news : List Value) (hx : a.eval x = .slice (some ad) 1 c) (hl : news.length = 1 * size) (hnews : ∀ j u, news[j]? = some u → w.cell? (ad.add j) = some u) (h1 : ∀ u ∈ news, u.oneCell' = true)
    (h63 : n + 1 ≤ maxLen) (hbytes : (n + 1) * bytes ≤ 140737488355328) (hbase : base ≤ w.heap.size)
    (h : ∀ v' w', w'.ownsRow base e size v' (n + 1) (xs ++ news) → Shp base e w w' → wpList P ops Q rest (a.put o.dst v') w') : wpList P ops Q (o :: rest) a w := by
  refine wpList_plain hgd fun _ hK => ?_
  obtain ⟨v', w', hr, h2, h3⟩ := run_append_shp (P := P) w base t o.type e i z size bytes ht hi hz hsize hby hzs hsz v n xs hown ad c news hl hnews h1 h63 hbytes hbase
  unfold Oper.wp execOp
  simp only [ho, resolve, invoke, builtin, Sem.run_bind, Sem.run_pure, Result.andThen_ok, List.map_toArray, List.map_cons, List.map_nil, hs, hx, hr]
  exact hK _ _ (h v' w' h2 h3)

/-- .. as one step of a region that draws -/
theorem step_append_shp {P : Program} {ops : Array Oper} {o : Oper} {a : Act} {w : World} {K : Act → World → Prop} {Q : Exit → Act → World → Prop} {E : Prop} (hgd : o.guard = none) (s x : Operand) (t : TypeId)
    (ho : o.op = .call { callee := .builtin .append, args := #[s, x], argTypes := #[t, t] })
    (base : Nat) (e : TypeId) (i : TypeInfo) (z : Value) (size bytes : Nat) (ht : P.underlying t = some (.slice e)) (hi : P.info? e = some i) (hz : i.zero = some z)
    (hsize : i.size = size) (hby : i.bytes = bytes) (hzs : z.cells.size = size) (hsz : 0 < size)
    (v : Value) (n : Nat) (xs : List Value) (hs : a.eval s = v) (hown : w.ownsRow base e size v n xs)
    (ad : Addr) (c : Nat) (news : List Value) (hx : a.eval x = .slice (some ad) 1 c) (hl : news.length = 1 * size) (hnews : ∀ j u, news[j]? = some u → w.cell? (ad.add j) = some u) (h1 : ∀ u ∈ news, u.oneCell' = true)
    (h63 : n + 1 ≤ maxLen) (hbytes : (n + 1) * bytes ≤ 140737488355328) (hbase : base ≤ w.heap.size)
    (hK : ∀ v' w', w'.ownsRow base e size v' (n + 1) (xs ++ news) → Shp base e w w' → K (a.put o.dst v') w') :
    if Region.wanted o (yielded ops a.tmps) = true then Oper.wp P o a w K Q else E := by
  have hw : Region.wanted o (yielded ops a.tmps) = true := by simp [Region.wanted, hgd]
  rw [if_pos hw]
  obtain ⟨v', w', hr, h2, h3⟩ := run_append_shp (P := P) w base t o.type e i z size bytes ht hi hz hsize hby hzs hsz v n xs hown ad c news hl hnews h1 h63 hbytes hbase
  unfold Oper.wp execOp
  simp only [ho, resolve, invoke, builtin, Sem.run_bind, Sem.run_pure, Result.andThen_ok, List.map_toArray, List.map_cons, List.map_nil, hs, hx, hr]
  exact hK v' w' h2 h3

theorem cell_three_new (w : World) (x y z : Value) (t : TypeId) : ∀ j u, [x, y, z][j]? = some u → (w.alloc (.cells #[x, y, z] t)).cell? ((⟨w.heap.size, 0, none⟩ : Addr).add j) = some u := by
  intro j u h
  rw [Go.WideShapes.add_plain, Nat.zero_add, World.cell?_alloc_new]
  simpa using h

theorem beqB (a b : ByteArray) : (a == b) = true ↔ a = b := by
  rw [beq_toListBytes]
  constructor
  · intro h
    have := beq_iff_eq.1 h
    rw [ByteArray.toList_eq, ByteArray.toList_eq] at this
    cases a; cases b
    simp_all
  · rintro rfl
    simp
theorem beqB_ne {a b : ByteArray} (h : a ≠ b) : (a == b) = false := by
  cases e : (a == b) with
  | false => rfl
  | true => exact absurd ((beqB a b).1 e) h
theorem beqL_ne {a b : ByteArray} (h : a ≠ b) : (a.toList == b.toList) = false := by rw [← beq_toListBytes]; exact beqB_ne h

/-! names, in the order of their first mention -/
open Classical in
noncomputable def addN (L : List ByteArray) (x : ByteArray) : List ByteArray := if x ∈ L then L else L ++ [x]
theorem addN_pos {L : List ByteArray} {x : ByteArray} (h : x ∈ L) : addN L x = L := by unfold addN; rw [if_pos h]
theorem addN_neg {L : List ByteArray} {x : ByteArray} (h : ¬ x ∈ L) : addN L x = L ++ [x] := by unfold addN; rw [if_neg h]
theorem addN_len (L : List ByteArray) (x : ByteArray) : L.length ≤ (addN L x).length ∧ (addN L x).length ≤ L.length + 1 := by
  by_cases h : x ∈ L
  · rw [addN_pos h]; omega
  · rw [addN_neg h]; simp
end Go.Proofs.Qxb6616086aFmt.Dw
