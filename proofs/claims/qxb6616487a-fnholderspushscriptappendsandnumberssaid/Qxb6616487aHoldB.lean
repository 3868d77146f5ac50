import Derived.Test.Qxb6616487aHoldA
import Derived.Deep.RegionHeld3
import Derived.Deep.DrawnRows
import Derived.Deep.QuietTactic
import Derived.BigQuiet
namespace Go.Proofs.Qxb6616487a.Hold
open Go.RowKit Go.Deep

/-- what a slice of two-field structs that came in holds -/
def PairsAt (w : World) (a : Option Addr) (n : Nat) (M X : Nat → Int) : Prop :=
  ∀ i, i < n → ∃ b off, a = some ⟨b, off, none⟩ ∧ b < w.heap.size ∧ w.cell? ⟨b, off + i * 2, none⟩ = some (.int .u8 (M i)) ∧ w.cell? ⟨b, off + i * 2 + 1, none⟩ = some (.int .i64 (X i))

set_option maxHeartbeats 400000 in
theorem bytesYes (a0 a1 : Option Addr) (n0 c0 n1 c1 : Nat) (w : World) (h : n0 + n1 ≤ 1048576) :
    Calls Try.prog 8 #[.slice a0 n0 c0, .slice a1 n1 c1] w fun e w' => e = .returned (.bool true) ∧ w' = w := by
  go_enter Try.func8, Try.ntmps8
  go_wp2
  go_ret
  exact ⟨rfl, rfl⟩

set_option maxHeartbeats 400000 in
theorem bytesNo (a0 a1 : Option Addr) (n0 c0 n1 c1 : Nat) (w : World) (h : ¬ n0 + n1 ≤ 1048576) (_h0 : n0 ≤ 9223372036854775807) (_h1 : n1 ≤ 9223372036854775807) :
    Calls Try.prog 8 #[.slice a0 n0 c0, .slice a1 n1 c1] w fun e w' => e = .returned (.bool false) ∧ w' = w := by
  by_cases k0 : n0 ≤ 1048576
  · by_cases k1 : n1 ≤ 1048576
    all_goals
      go_enter Try.func8, Try.ntmps8
      go_wp2
      go_ret
      exact ⟨rfl, rfl⟩
  · go_enter Try.func8, Try.ntmps8
    go_wp2
    go_ret
    exact ⟨rfl, rfl⟩

/-- a row of pointers to the blocks from c on, the first k filled -/
def ptrs (c k i : Nat) : Value := if i < k then .pointer (some ⟨c + i, 0, none⟩) else .pointer none

/-- behind k rounds of the first building loop -/
structure P2 (w wr : World) (n k : Nat) (M : Nat → Int) : Prop where
  bel : Below w.heap.size w wr
  size : wr.heap.size = w.heap.size + 2 + k
  olds : wr.rowIs w.heap.size 27 n (ptrs (w.heap.size + 2) k)
  held : wr.rowIs (w.heap.size + 1) 27 n (ptrs (w.heap.size + 2) k)
  locks : ∀ i, i < k → wr.heap[w.heap.size + 2 + i]? = some (lockObj (M i) i)

theorem P2.start (w : World) (n : Nat) (M : Nat → Int) :
    P2 w ((w.alloc (.cells (madeCells #[.pointer none] n) 27)).alloc (.cells (madeCells #[.pointer none] n) 27)) n 0 M := by
  refine ⟨((Below.refl _ _).alloc (Nat.le_refl _) _).alloc (by simp) _, by simp, ?_, ?_, fun i hi => absurd hi (Nat.not_lt_zero i)⟩
  · exact ((World.rowIs_made w (.pointer none) n 27).alloc _).congr (fun i _ => by simp [ptrs])
  · have := World.rowIs_made (w.alloc (.cells (madeCells #[.pointer none] n) 27)) (.pointer none) n 27
    rw [nblk_alloc] at this
    exact this.congr (fun i _ => by simp [ptrs])

theorem P2.drew {w wr : World} {n k : Nat} {M : Nat → Int} (h : P2 w wr n k M) : P2 w wr.drew n k M :=
  ⟨h.bel.drew, h.size, h.olds.drew, h.held.drew, h.locks⟩

theorem ptrs_step (c k i : Nat) : (if i = k then Value.pointer (some ⟨c + k, 0, none⟩) else ptrs c k i) = ptrs c (k + 1) i := by
  unfold ptrs
  by_cases h : i = k
  · subst h; simp
  · by_cases h2 : i < k
    · rw [if_neg h, if_pos h2, if_pos (by omega)]
    · rw [if_neg h, if_neg h2, if_neg (by omega)]

theorem P2.step {w wr : World} {n k : Nat} {M : Nat → Int} (h : P2 w wr n k M) :
    P2 w (((wr.setCell ⟨w.heap.size, k, none⟩ (.pointer (some ⟨wr.heap.size, 0, none⟩))).setCell ⟨w.heap.size + 1, k, none⟩ (.pointer (some ⟨wr.heap.size, 0, none⟩))).alloc (lockObj (M k) k)) n (k + 1) M := by
  have hsz := h.size
  refine ⟨((h.bel.setCell (by simp) _).setCell (by simp) _).alloc (by simp; omega) _, by simp; omega, ?_, ?_, ?_⟩
  · rw [hsz]
    exact (((h.olds.set k _).setOther (by simp) _).alloc _).congr (fun i _ => ptrs_step _ _ _)
  · rw [hsz]
    exact (((h.held.setOther (by simp) _).set k _).alloc _).congr (fun i _ => ptrs_step _ _ _)
  · intro i hi
    by_cases e : i = k
    · subst e
      have := blk_alloc_new ((wr.setCell ⟨w.heap.size, i, none⟩ (.pointer (some ⟨wr.heap.size, 0, none⟩))).setCell ⟨w.heap.size + 1, i, none⟩ (.pointer (some ⟨wr.heap.size, 0, none⟩))) (lockObj (M i) i)
      rw [nblk_setCell, nblk_setCell, hsz] at this
      rw [hsz]
      exact this
    · rw [blk_alloc_lt _ _ _ (by simp; omega), blk_setCell_other _ _ _ _ (by simp; omega), blk_setCell_other _ _ _ _ (by simp; omega)]; exact h.locks i (by omega)

/-- behind k rounds of the second building loop -/
structure P3 (w wr : World) (n m k : Nat) (M0 M1 X1 : Nat → Int) : Prop where
  bel : Below w.heap.size w wr
  size : wr.heap.size = w.heap.size + 2 + n + 1 + k
  olds : wr.rowIs w.heap.size 27 n (ptrs (w.heap.size + 2) n)
  held : wr.rowIs (w.heap.size + 1) 27 n (ptrs (w.heap.size + 2) n)
  locks : ∀ i, i < n → wr.heap[w.heap.size + 2 + i]? = some (lockObj (M0 i) i)
  news : wr.rowIs (w.heap.size + 2 + n) 27 m (ptrs (w.heap.size + 2 + n + 1) k)
  nlocks : ∀ j, j < k → wr.heap[w.heap.size + 2 + n + 1 + j]? = some (lockObj (M1 j) (X1 j))

theorem P3.start {w wr : World} {n m : Nat} {M0 M1 X1 : Nat → Int} (h : P2 w wr n n M0) : P3 w (wr.alloc (.cells (madeCells #[.pointer none] m) 27)) n m 0 M0 M1 X1 := by
  have hsz := h.size
  refine ⟨h.bel.alloc (by omega) _, by simp; omega, h.olds.alloc _, h.held.alloc _, ?_, ?_, fun i hi => absurd hi (Nat.not_lt_zero i)⟩
  · intro i hi
    rw [blk_alloc_lt _ _ _ (by omega)]; exact h.locks i hi
  · have := World.rowIs_made wr (.pointer none) m 27
    rw [hsz] at this
    exact this.congr (fun i _ => by simp [ptrs])

theorem P3.drew {w wr : World} {n m k : Nat} {M0 M1 X1 : Nat → Int} (h : P3 w wr n m k M0 M1 X1) : P3 w wr.drew n m k M0 M1 X1 :=
  ⟨h.bel.drew, h.size, h.olds.drew, h.held.drew, h.locks, h.news.drew, h.nlocks⟩

theorem P3.step {w wr : World} {n m k : Nat} {M0 M1 X1 : Nat → Int} (h : P3 w wr n m k M0 M1 X1) :
    P3 w ((wr.setCell ⟨w.heap.size + 2 + n, k, none⟩ (.pointer (some ⟨wr.heap.size, 0, none⟩))).alloc (lockObj (M1 k) (X1 k))) n m (k + 1) M0 M1 X1 := by
  have hsz := h.size
  refine ⟨(h.bel.setCell (by simp; omega) _).alloc (by simp; omega) _, by simp; omega, (h.olds.setOther (by simp; omega) _).alloc _, (h.held.setOther (by simp; omega) _).alloc _, ?_, ?_, ?_⟩
  · intro i hi
    rw [blk_alloc_lt _ _ _ (by simp; omega), blk_setCell_other _ _ _ _ (by simp; omega)]; exact h.locks i hi
  · rw [hsz]
    exact ((h.news.set k _).alloc _).congr (fun i _ => ptrs_step _ _ _)
  · intro i hi
    by_cases e : i = k
    · subst e
      have := blk_alloc_new (wr.setCell ⟨w.heap.size + 2 + n, i, none⟩ (.pointer (some ⟨wr.heap.size, 0, none⟩))) (lockObj (M1 i) (X1 i))
      rw [nblk_setCell, hsz] at this
      rw [hsz]
      exact this
    · rw [blk_alloc_lt _ _ _ (by simp; omega), blk_setCell_other _ _ _ _ (by simp; omega)]; exact h.nlocks i (by omega)

/-- the pointers in the holders behind k pushes -/
def all (B n k : Nat) : List Value := (List.range n).map (fun i => .pointer (some ⟨B + 2 + i, 0, none⟩)) ++ (List.range k).map (fun j => .pointer (some ⟨B + 2 + n + 1 + j, 0, none⟩))

theorem all_length (B n k : Nat) : (all B n k).length = n + k := by simp [all]
theorem all_succ (B n k : Nat) : all B n (k + 1) = all B n k ++ [.pointer (some ⟨B + 2 + n + 1 + k, 0, none⟩)] := by simp [all, List.range_succ, List.append_assoc]
theorem all_old (B n k i : Nat) (h : i < n) : (all B n k)[i]? = some (.pointer (some ⟨B + 2 + i, 0, none⟩)) := by
  rw [all, List.getElem?_append_left (by simpa using h)]; simp [h]
theorem all_new (B n k j : Nat) (h : j < k) : (all B n k)[n + j]? = some (.pointer (some ⟨B + 2 + n + 1 + j, 0, none⟩)) := by
  rw [all, List.getElem?_append_right (by simp)]; simp [h]

/-- behind k pushes -/
structure P4 (w wr : World) (n m k g cap : Nat) (M0 M1 X1 : Nat → Int) : Prop where
  bel : Below w.heap.size w wr
  lo : w.heap.size + 2 + n + 1 + m < wr.heap.size
  olds : wr.rowIs w.heap.size 27 n (ptrs (w.heap.size + 2) n)
  locks : ∀ i, i < n → wr.heap[w.heap.size + 2 + i]? = some (lockObj (M0 i) i)
  news : wr.rowIs (w.heap.size + 2 + n) 27 m (ptrs (w.heap.size + 2 + n + 1) m)
  done : ∀ j, j < k → wr.heap[w.heap.size + 2 + n + 1 + j]? = some (lockObj (M1 j) ((n + j : Nat) : Int))
  todo : ∀ j, k ≤ j → j < m → wr.heap[w.heap.size + 2 + n + 1 + j]? = some (lockObj (M1 j) (X1 j))
  box : wr.heap[w.heap.size + 2 + n + 1 + m]? = some (.cells #[.slice (some ⟨g, 0, none⟩) (n + k) cap] 29 (0, 0))
  own : wr.ownsRow (w.heap.size + 1) 27 1 (.slice (some ⟨g, 0, none⟩) (n + k) cap) (n + k) (all w.heap.size n k)
  whr : g = w.heap.size + 1 ∨ w.heap.size + 2 + n + 1 + m < g

theorem own_of_row {w : World} {b n : Nat} {f : Nat → Value} (base : Nat) (hb : base ≤ b) (h : w.rowIs b 27 n f) (hn : n ≤ 1000000) (xs : List Value) (hl : xs.length = n) (hx : ∀ i, i < n → xs[i]? = some (f i)) :
    w.ownsRow base 27 1 (.slice (some ⟨b, 0, none⟩) n n) n xs := by
  obtain ⟨c, hc, hs, hi⟩ := h
  refine ⟨by omega, .inr ⟨b, n, c, rfl, hb, hc, Nat.le_refl _, by unfold maxLen; omega, by omega, ?_⟩⟩
  rw [Nat.mul_one]
  apply List.ext_getElem?
  intro i
  by_cases hlt : i < n
  · rw [List.getElem?_take_of_lt hlt, hx i hlt, Array.getElem?_toList, hi i hlt]
  · rw [List.getElem?_eq_none (by simp; omega), List.getElem?_eq_none (by omega)]

theorem P4.start {w wr : World} {n m : Nat} {M0 M1 X1 : Nat → Int} (h : P3 w wr n m m M0 M1 X1) (hn : n ≤ 1000000) :
    P4 w (wr.alloc (.cells #[.slice (some ⟨w.heap.size + 1, 0, none⟩) n n] 29)) n m 0 (w.heap.size + 1) n M0 M1 X1 := by
  have hsz := h.size
  refine ⟨h.bel.alloc (by omega) _, by simp; omega, h.olds.alloc _, ?_, h.news.alloc _, fun i hi => absurd hi (Nat.not_lt_zero i), ?_, ?_, ?_, .inl rfl⟩
  · intro i hi
    rw [blk_alloc_lt _ _ _ (by omega)]; exact h.locks i hi
  · intro j _ hj
    rw [blk_alloc_lt _ _ _ (by omega)]; exact h.nlocks j hj
  · have := blk_alloc_new wr (.cells #[.slice (some ⟨w.heap.size + 1, 0, none⟩) n n] 29)
    rw [hsz] at this
    exact this
  · exact own_of_row _ (Nat.le_refl _) (h.held.alloc _) hn _ (by simp [all]) (fun i hi => by rw [all_old _ _ _ _ hi, ptrs, if_pos hi])

theorem P4.step {w wr wn : World} {n m k g cap g' cap' : Nat} {M0 M1 X1 : Nat → Int} (h : P4 w wr n m k g cap M0 M1 X1) (hk : k < m)
    (hp : Pushed wr wn (w.heap.size + 2 + n + 1 + m) (w.heap.size + 2 + n + 1 + k) g (n + k) (w.heap.size + 1) (M1 k) (all w.heap.size n k) g' cap') :
    P4 w wn n m (k + 1) g' cap' M0 M1 X1 := by
  have hlo := h.lo
  have hwh := h.whr
  have hsz := hp.size
  refine ⟨h.bel.trans ⟨hp.os, hp.tape, hp.output, hp.size, fun b hb => hp.rest b (by omega) (by omega) (by omega) (by omega)⟩, by omega, h.olds.of_block (hp.rest _ (by omega) (by omega) (by omega) (by omega)), ?_,
    h.news.of_block (hp.rest _ (by omega) (by omega) (by omega) (by omega)), ?_, ?_, hp.box, ?_, ?_⟩
  · intro i hi
    rw [hp.rest _ (by omega) (by omega) (by omega) (by omega)]; exact h.locks i hi
  · intro j hj
    by_cases e : j = k
    · subst e; exact hp.lock
    · rw [hp.rest _ (by omega) (by omega) (by omega) (by omega)]; exact h.done j (by omega)
  · intro j hj hjm
    rw [hp.rest _ (by omega) (by omega) (by omega) (by omega)]; exact h.todo j (by omega) hjm
  · rw [all_succ]; exact hp.own
  · rcases hp.where_ with e | e
    · rw [e]; exact hwh
    · right; omega

theorem own_cell {w : World} {base g n cap : Nat} {xs : List Value} (h : w.ownsRow base 27 1 (.slice (some ⟨g, 0, none⟩) n cap) n xs) {i : Nat} {v : Value} (hi : i < n) (hv : xs[i]? = some v) : w.cell? ⟨g, i, none⟩ = some v := by
  rcases h.2 with ⟨h0, _⟩ | ⟨g', cap', cur, e, _, hb, _, _, hs, ht⟩
  · cases h0
  · cases e
    rw [← ht, Nat.mul_one, List.getElem?_take_of_lt hi, Array.getElem?_toList] at hv
    simp [World.cell?, hb, hv]

end Go.Proofs.Qxb6616487a.Hold
