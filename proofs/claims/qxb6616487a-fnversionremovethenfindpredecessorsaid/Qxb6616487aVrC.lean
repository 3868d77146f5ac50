import Derived.Test.Qxb6616487aVrB
import Derived.Deep.RegionLaw
import Derived.Laws.IdiomCopy
namespace Go.Proofs.Qxb6616487a.Vr
open Go.RowKit Go.Deep
set_option linter.unusedVariables false

/-- only block b has turned -/
structure Only (b : Nat) (w w' : World) : Prop where
  os : w'.os = w.os
  tape : w'.tape = w.tape
  output : w'.output = w.output
  size : w'.heap.size = w.heap.size
  block : ∀ k, k ≠ b → w'.heap[k]? = w.heap[k]?

theorem Only.refl (b : Nat) (w : World) : Only b w w := ⟨rfl, rfl, rfl, rfl, fun _ _ => rfl⟩
theorem Only.drew {b : Nat} {w w' : World} (h : Only b w w') : Only b w w'.drew := ⟨h.os, h.tape, h.output, h.size, h.block⟩
theorem Only.setCell {b : Nat} {w w' : World} (h : Only b w w') (o : Nat) (v : Value) : Only b w (w'.setCell ⟨b, o, none⟩ v) :=
  ⟨h.os, h.tape, h.output, by simpa using h.size, fun k hk => (blk_setCell_other _ _ _ _ hk).trans (h.block k hk)⟩
theorem Only.setCells {b : Nat} {w : World} : ∀ (vs : List Value) {w' : World} (_ : Only b w w') (o : Nat), Only b w (w'.setCells b o vs)
  | [], _, h, _ => h
  | v :: r, _, h, o => Only.setCells r (h.setCell o v) (o + 1)
theorem Only.below {b B : Nat} {w w' : World} (h : Only b w w') (hb : B ≤ b) : Below B w w' := ⟨h.os, h.tape, h.output, Nat.le_of_eq h.size.symm, fun k hk => h.block k (by omega)⟩

theorem rowIs_setCells {b : Nat} {t : TypeId} {n : Nat} : ∀ (vs : List Value) {w : World} {f : Nat → Value} (_ : w.rowIs b t n f) (o : Nat), (w.setCells b o vs).rowIs b t n (fun j => if o ≤ j ∧ j < o + vs.length then vs.getD (j - o) undef else f j)
  | [], _, _, h, o => h.congr (fun i _ => by rw [if_neg (by simp only [List.length_nil]; omega)])
  | v :: r, _, f, h, o => (rowIs_setCells r (h.set o v) (o + 1)).congr (fun i _ => by
      by_cases e : i = o
      · subst e
        rw [if_neg (by omega), if_pos rfl, if_pos (by simp only [List.length_cons]; omega)]
        simp
      · by_cases h2 : o + 1 ≤ i ∧ i < o + 1 + r.length
        · rw [if_pos h2, if_pos (by simp; omega)]
          obtain ⟨d, rfl⟩ : ∃ d, i = o + 1 + d := ⟨i - (o + 1), by omega⟩
          rw [show o + 1 + d - (o + 1) = d by omega, show o + 1 + d - o = d + 1 by omega]
          simp
        · rw [if_neg h2, if_neg e, if_neg (by simp; omega)])

/-- the cells of a row of n elements of s cells behind the deletion of element i; z: the zero value's cells -/
def del (s n i : Nat) (z : Nat → Value) (f : Nat → Value) (t : Nat) : Value := if t < i * s then f t else if t < (n - 1) * s then f (t + s) else z (t - (n - 1) * s)

def news (s n i : Nat) (f : Nat → Value) : List Value := (List.range ((n - (i + 1)) * s)).map fun t => f ((i + 1) * s + t)
theorem news_length (s n i : Nat) (f : Nat → Value) : (news s n i f).length = (n - (i + 1)) * s := by simp [news]
theorem news_get (s n i : Nat) (f : Nat → Value) (t : Nat) (h : t < (n - (i + 1)) * s) : (news s n i f)[t]? = some (f ((i + 1) * s + t)) := by simp [news, h]

theorem del_row {w : World} {v n i s : Nat} {ty : TypeId} {f : Nat → Value} (z : List Value) (hs : z.length = s) (h : w.rowIs v ty (n * s) f) (hi : i < n) :
    ((w.setCells v (i * s) (news s n i f)).setCells v ((n - 1) * s) z).rowIs v ty (n * s) (del s n i (fun t => z.getD t undef) f) := by
  have e0 : (n - (i + 1)) * s = n * s - i * s - s := by
    rw [Nat.sub_mul, Nat.add_mul, Nat.one_mul]; omega
  have e1 : (n - 1) * s = n * s - s := by rw [Nat.sub_mul, Nat.one_mul]
  have e2 : i * s + s ≤ n * s := by
    have := Nat.mul_le_mul_right s hi
    rwa [Nat.succ_mul] at this
  refine (rowIs_setCells z (rowIs_setCells (news s n i f) h (i * s)) ((n - 1) * s)).congr (fun t ht => ?_)
  rw [hs, news_length]
  unfold del
  by_cases h1 : t < i * s
  · rw [if_pos h1, if_neg (by omega), if_neg (by omega)]
  · rw [if_neg h1]
    by_cases h2 : t < (n - 1) * s
    · rw [if_pos h2, if_neg (by omega), if_pos (by omega)]
      have g := news_get s n i f (t - i * s) (by omega)
      rw [List.getD_eq_getElem?_getD, g]
      rw [Nat.add_mul, Nat.one_mul, show i * s + s + (t - i * s) = t + s by omega]
      rfl
    · rw [if_neg h2, if_pos (by omega)]

theorem info93 : (Try.prog.info? 93).map (fun i => (i.zero, i.size, i.bytes)) = some (some (.agg #[.pointer none, .int .i64 0]), 2, 16) := by kernel_rfl
theorem info91 : (Try.prog.info? 91).map (fun i => (i.zero, i.size, i.bytes)) = some (some (.slice none 0 0), 1, 24) := by kernel_rfl
theorem zero93 (w : World) : (zeroValue 93).run Try.prog w = .ok (.agg #[.pointer none, .int .i64 0]) w := by kernel_rfl
theorem zero91 (w : World) : (zeroValue 91).run Try.prog w = .ok (.slice none 0 0) w := by kernel_rfl

/-- clear of one element -/
theorem run_clear_one {P : Program} (w : World) (t e ty : TypeId) (z : Value) (zs : List Value) (ht : P.underlying t = some (.slice e)) (hv : ∀ w, (zeroValue e).run P w = .ok z w) (hz : z.cells.toList = zs) (h1 : ∀ u ∈ zs, u.oneCell' = true) (b o c : Nat)
    (hc : ∀ j, j < zs.length → (w.cell? ⟨b, o + j, none⟩).isSome = true) (hf : ∀ j, j < zs.length → w.frozen? ⟨b, o + j, none⟩ = false) :
    (Builtin.clear_ #[t] ty #[.slice (some ⟨b, o, none⟩) 1 c]).run P w = .ok (.tuple #[]) (w.setCells b o zs) := by
  have hzc : (Builtin.zeroCells z.cells 1).toList = zs := by
    rw [← hz]
    simp [Builtin.zeroCells]
    apply List.ext_getElem
    · simp
    · intro i h1 h2
      simp at h1
      simp [Nat.mod_eq_of_lt h1]
      rw [getElem!_pos z.cells i h1]
  have hst := run_storeCells_cells (P := P) b o zs 0 w (by simpa using hc) (by simpa using hf) h1
  simp only [Nat.add_zero] at hst
  simp [Builtin.clear_, run_underlying ht, hv, hzc, hst]

attribute [local go_sem ↓] Go.wp_at_zero Go.wp_at_succ

set_option maxHeartbeats 1600000 in
set_option maxRecDepth 1000000 in
theorem delete2 (v n i : Nat) (f : Nat → Value) (w : World) (h : w.rowIs v 93 (n * 2) f) (h1 : ∀ t, t < n * 2 → (f t).oneCell' = true) (hi : i < n) (hn : n ≤ 1000000) :
    Calls Try.prog 46 #[.slice (some ⟨v, 0, none⟩) n n, .int .i64 i, .int .i64 ((i : Int) + 1)] w fun e w' => e = .returned (.slice (some ⟨v, 0, none⟩) (n - 1) n) ∧ w'.rowIs v 93 (n * 2) (del 2 n i (fun t => [Value.pointer none, Value.int .i64 0].getD t undef) f) ∧ Only v w w' := by
  obtain ⟨i0, hi0, hz0, hz1, hz2⟩ := info_parts info93
  have hd := hide (del_row [Value.pointer none, Value.int .i64 0] rfl (World.rowIs.drew h) hi)
  have ho := hide (Only.setCells [Value.pointer none, Value.int .i64 0] (Only.setCells (news 2 n i f) (Only.refl v w).drew (i * 2)) ((n - 1) * 2))
  obtain ⟨A, hA, hsrc⟩ : ∃ A : Addr, (if n = i + 1 then some (⟨v, 0, none⟩ : Addr) else some ⟨v, (i + 1) * 2, none⟩) = some A ∧ Hid (∀ t u, (news 2 n i f)[t]? = some u → w.drew.cell? (A.add t) = some u) := by
    by_cases e : n = i + 1
    · refine ⟨⟨v, 0, none⟩, by simp [e], fun t u hu => ?_⟩
      have h0 : (news 2 n i f).length = 0 := by rw [news_length]; omega
      rw [List.length_eq_zero_iff.1 h0] at hu
      simp at hu
    · refine ⟨⟨v, (i + 1) * 2, none⟩, by simp [e], fun t u hu => ?_⟩
      have ht : t < (n - (i + 1)) * 2 := by
        have := (List.getElem?_eq_some_iff.1 hu).1
        rwa [news_length] at this
      rw [news_get _ _ _ _ _ ht] at hu
      rw [Addr.add_lit]
      exact (h.cell (by omega)).trans hu
  have s1 := hide (news_length 2 n i f)
  have s2 : Hid (∀ u ∈ news 2 n i f, u.oneCell' = true) := by
    intro u hu
    obtain ⟨t, ht, rfl⟩ := List.mem_map.1 hu
    have := List.mem_range.1 ht
    exact h1 _ (by omega)
  have s3 : Hid (∀ t, t < (news 2 n i f).length → (w.drew.cell? ⟨v, 0 + i * 2 + t, none⟩).isSome = true ∧ w.drew.frozen? ⟨v, 0 + i * 2 + t, none⟩ = false) := by
    intro t ht
    rw [news_length] at ht
    refine ⟨?_, h.frozen _⟩
    show (w.cell? _).isSome = true
    rw [h.cell (by omega)]; rfl
  obtain ⟨W1, hW1⟩ : ∃ W1, W1 = w.drew.setCells v (i * 2) (news 2 n i f) := ⟨_, rfl⟩
  have hcl : ∀ ty, (Builtin.clear_ #[91] ty #[.slice (some ⟨v, (n - 1) * 2, none⟩) 1 1]).run Try.prog W1 = .ok (.tuple #[]) (W1.setCells v ((n - 1) * 2) [.pointer none, .int .i64 0]) := by
    intro ty
    have hr := rowIs_setCells (news 2 n i f) (World.rowIs.drew h) (i * 2)
    rw [← hW1] at hr
    refine run_clear_one W1 91 93 ty _ [.pointer none, .int .i64 0] Try.underlying91 zero93 rfl (by intro u hu; simp at hu; rcases hu with rfl | rfl <;> rfl) v _ _ ?_ ?_
    · intro j hj
      simp at hj
      rw [hr.cell (by omega)]; rfl
    · intro j _
      exact hr.frozen _
  have hW : Hid (W1 = w.drew.setCells v (0 + i * 2) (news 2 n i f)) := by rw [Nat.zero_add]; exact hW1
  clear hW1 h h1
  have j0 : (0 : Int) ≤ (i : Int) := by omega
  have j1 : (i : Int) + 1 ≤ (n : Int) := by omega
  have j2 : ((i : Int) + 1).toNat = i + 1 := by omega
  have j3 : ((i : Int) == (i : Int) + 1) = false := beq_eq_false_iff_ne.2 (by omega)
  have j4 : i + 1 ≤ n := hi
  have j5 : i ≤ n := by omega
  have j6 : (0 : Int) ≤ (i : Int) + 1 := by omega
  go_enter Try.func46, Try.ntmps46
  go_wp2_with fail
  go_region_law (refine step_append_room rfl (.tmp 22) (.tmp 25) 91 rfl 93 i0 2 Try.underlying91 hi0 hz1 v 0 i n (by simp [Act.eval, Act.put]) A (n - (i + 1)) (n - (i + 1)) (news 2 n i f) (by simp [Act.eval, Act.put]) s1.out hsrc.out s2.out (by omega) s3.out ?_; rw [← hW.out])
  rw [show i + (n - (i + 1)) = n - 1 by omega]
  have k1 : n - (n - 1) = 1 := by omega
  have k2 : ¬ n = n - 1 := by omega
  have k3 : n - 1 ≤ n := by omega
  have k4 : ((n - 1 : Nat) : Int) ≤ (n : Int) := by omega
  clear hA j0 j1 j2 j3 j4 j5 j6
  go_wp2
  go_ret
  refine ⟨rfl, ?_, ?_⟩
  · rw [hW.out, Nat.zero_add]; exact hd.out
  · rw [hW.out, Nat.zero_add]; exact ho.out

set_option maxHeartbeats 1600000 in
set_option maxRecDepth 1000000 in
theorem delete1 (v n i : Nat) (f : Nat → Value) (w : World) (h : w.rowIs v 91 (n * 1) f) (h1 : ∀ t, t < n * 1 → (f t).oneCell' = true) (hi : i < n) (hn : n ≤ 1000000) :
    Calls Try.prog 47 #[.slice (some ⟨v, 0, none⟩) n n, .int .i64 i, .int .i64 ((i : Int) + 1)] w fun e w' => e = .returned (.slice (some ⟨v, 0, none⟩) (n - 1) n) ∧ w'.rowIs v 91 (n * 1) (del 1 n i (fun t => [Value.slice none 0 0].getD t undef) f) ∧ Only v w w' := by
  obtain ⟨i0, hi0, hz0, hz1, hz2⟩ := info_parts info91
  have hd : Hid (((w.drew.setCells v (i * 1) (news 1 n i f)).setCells v (n - 1) [Value.slice none 0 0]).rowIs v 91 (n * 1) (del 1 n i (fun t => [Value.slice none 0 0].getD t undef) f)) := by
    have := del_row (s := 1) [Value.slice none 0 0] rfl (World.rowIs.drew h) hi
    rwa [Nat.mul_one (n - 1)] at this
  have ho := hide (Only.setCells [Value.slice none 0 0] (Only.setCells (news 1 n i f) (Only.refl v w).drew (i * 1)) (n - 1))
  obtain ⟨A, hA, hsrc⟩ : ∃ A : Addr, (if n = i + 1 then some (⟨v, 0, none⟩ : Addr) else some ⟨v, i + 1, none⟩) = some A ∧ Hid (∀ t u, (news 1 n i f)[t]? = some u → w.drew.cell? (A.add t) = some u) := by
    by_cases e : n = i + 1
    · refine ⟨⟨v, 0, none⟩, by simp [e], fun t u hu => ?_⟩
      have h0 : (news 1 n i f).length = 0 := by rw [news_length]; omega
      rw [List.length_eq_zero_iff.1 h0] at hu
      simp at hu
    · refine ⟨⟨v, i + 1, none⟩, by simp [e], fun t u hu => ?_⟩
      have ht : t < (n - (i + 1)) * 1 := by
        have := (List.getElem?_eq_some_iff.1 hu).1
        rwa [news_length] at this
      rw [news_get _ _ _ _ _ ht] at hu
      rw [Nat.mul_one] at hu
      rw [Addr.add_lit]
      exact (h.cell (by omega)).trans hu
  have s1 := hide (news_length 1 n i f)
  have s2 : Hid (∀ u ∈ news 1 n i f, u.oneCell' = true) := by
    intro u hu
    obtain ⟨t, ht, rfl⟩ := List.mem_map.1 hu
    have := List.mem_range.1 ht
    exact h1 _ (by omega)
  have s3 : Hid (∀ t, t < (news 1 n i f).length → (w.drew.cell? ⟨v, 0 + i * 1 + t, none⟩).isSome = true ∧ w.drew.frozen? ⟨v, 0 + i * 1 + t, none⟩ = false) := by
    intro t ht
    rw [news_length] at ht
    refine ⟨?_, h.frozen _⟩
    show (w.cell? _).isSome = true
    rw [h.cell (by omega)]; rfl
  obtain ⟨W1, hW1⟩ : ∃ W1, W1 = w.drew.setCells v (i * 1) (news 1 n i f) := ⟨_, rfl⟩
  have hcl : ∀ ty, (Builtin.clear_ #[54] ty #[.slice (some ⟨v, n - 1, none⟩) 1 1]).run Try.prog W1 = .ok (.tuple #[]) (W1.setCells v (n - 1) [.slice none 0 0]) := by
    intro ty
    have hr := rowIs_setCells (news 1 n i f) (World.rowIs.drew h) (i * 1)
    rw [← hW1] at hr
    refine run_clear_one W1 54 91 ty _ [.slice none 0 0] Try.underlying54 zero91 rfl (by intro u hu; simp at hu; subst hu; rfl) v _ _ ?_ ?_
    · intro j hj
      simp at hj
      rw [hr.cell (by omega)]; rfl
    · intro j _
      exact hr.frozen _
  have hW : Hid (W1 = w.drew.setCells v (0 + i * 1) (news 1 n i f)) := by rw [Nat.zero_add]; exact hW1
  clear hW1 h h1
  have j0 : (0 : Int) ≤ (i : Int) := by omega
  have j1 : (i : Int) + 1 ≤ (n : Int) := by omega
  have j2 : ((i : Int) + 1).toNat = i + 1 := by omega
  have j3 : ((i : Int) == (i : Int) + 1) = false := beq_eq_false_iff_ne.2 (by omega)
  have j4 : i + 1 ≤ n := hi
  have j5 : i ≤ n := by omega
  have j6 : (0 : Int) ≤ (i : Int) + 1 := by omega
  go_enter Try.func47, Try.ntmps47
  go_wp2_with fail
  go_region_law (refine step_append_room rfl (.tmp 22) (.tmp 25) 54 rfl 91 i0 1 Try.underlying54 hi0 hz1 v 0 i n (by simp [Act.eval, Act.put]) A (n - (i + 1)) (n - (i + 1)) (news 1 n i f) (by simp [Act.eval, Act.put]) s1.out hsrc.out s2.out (by omega) s3.out ?_; rw [← hW.out])
  rw [show i + (n - (i + 1)) = n - 1 by omega]
  have k1 : n - (n - 1) = 1 := by omega
  have k2 : ¬ n = n - 1 := by omega
  have k3 : n - 1 ≤ n := by omega
  have k4 : ((n - 1 : Nat) : Int) ≤ (n : Int) := by omega
  clear hA j0 j1 j2 j3 j4 j5 j6
  go_wp2
  go_ret
  refine ⟨rfl, ?_, ?_⟩
  · rw [hW.out, Nat.zero_add]; exact hd.out
  · rw [hW.out, Nat.zero_add]; exact ho.out
end Go.Proofs.Qxb6616487a.Vr
