import Derived.Test.Qxb6616487aRows
import Derived.WalkKit
import Derived.WalkSpells
import Derived.Deep.OwnRows
import Derived.Deep.AppendLies
namespace Go.Proofs.Qxb6616487a.Hold
open Go.RowKit Go.Deep

theorem info27 : (Try.prog.info? 27).map (fun i => (i.zero, i.size, i.bytes)) = some (some (.pointer none), 1, 8) := by kernel_rfl

/-- a lock in memory: one block of four cells -/
def lockObj (m x : Int) : Obj := .cells #[.pointer none, .pointer none, .int .u8 m, .int .i64 x] 69 (0, 0)

set_option maxHeartbeats 400000 in
theorem newLock (m x : Int) (w : World) :
    Calls Try.prog 9 #[.int .u8 m, .int .i64 x] w fun e w' => e = .returned (.pointer (some ⟨w.heap.size, 0, none⟩)) ∧ w' = w.alloc (lockObj m x) := by
  go_enter Try.func9, Try.ntmps9
  go_wp2
  go_ret
  exact ⟨rfl, rfl⟩

set_option maxHeartbeats 400000 in
theorem lockIndex (b : Nat) (m x : Int) (w : World) (h : w.heap[b]? = some (lockObj m x)) :
    Calls Try.prog 12 #[.pointer (some ⟨b, 0, none⟩)] w fun e w' => e = .returned (.int .i64 x) ∧ w' = w := by
  have hc : w.cell? ⟨b, 3, none⟩ = some (.int .i64 x) := by simp [World.cell?, h, lockObj]
  go_enter Try.func12, Try.ntmps12
  go_wp2
  go_ret
  exact ⟨rfl, rfl⟩

set_option maxHeartbeats 400000 in
theorem lockMode (b : Nat) (m x : Int) (w : World) (h : w.heap[b]? = some (lockObj m x)) :
    Calls Try.prog 13 #[.pointer (some ⟨b, 0, none⟩)] w fun e w' => e = .returned (.int .u8 m) ∧ w' = w := by
  have hc : w.cell? ⟨b, 2, none⟩ = some (.int .u8 m) := by simp [World.cell?, h, lockObj]
  go_enter Try.func13, Try.ntmps13
  go_wp2
  go_ret
  exact ⟨rfl, rfl⟩

theorem lock_setIndex {w : World} {b : Nat} {m x y : Int} (h : w.heap[b]? = some (lockObj m x)) : (w.setCell ⟨b, 3, none⟩ (.int .i64 y)).heap[b]? = some (lockObj m y) := by
  have hlt := lt_of_block h
  have h' : w.heap[b] = lockObj m x := by simpa [Array.getElem?_eq_getElem hlt] using h
  show (w.heap.modify b _)[b]? = _
  rw [Array.getElem?_eq_getElem (by simpa using hlt), Array.getElem_modify_self, h']
  rfl

/-- what a push leaves -/
structure Pushed (w w' : World) (hb lb g n base : Nat) (m : Int) (xs : List Value) (g' cap' : Nat) : Prop where
  box : w'.heap[hb]? = some (.cells #[.slice (some ⟨g', 0, none⟩) (n + 1) cap'] 29 (0, 0))
  lock : w'.heap[lb]? = some (lockObj m n)
  own : w'.ownsRow base 27 1 (.slice (some ⟨g', 0, none⟩) (n + 1) cap') (n + 1) (xs ++ [.pointer (some ⟨lb, 0, none⟩)])
  where_ : g' = g ∨ w.heap.size ≤ g'
  lt : g' < w'.heap.size
  rest : ∀ b, b < w.heap.size → b ≠ hb → b ≠ lb → b ≠ g → w'.heap[b]? = w.heap[b]?
  size : w.heap.size ≤ w'.heap.size
  os : w'.os = w.os
  tape : w'.tape = w.tape
  output : w'.output = w.output

theorem pushed_mk {w w1 : World} {hb lb g n cap base : Nat} {m x : Int} {xs : List Value} {g' cap' : Nat} (h : w.heap[hb]? = some (.cells #[.slice (some ⟨g, 0, none⟩) n cap] 29 (0, 0))) (hl : w.heap[lb]? = some (lockObj m x))
    (hbg : hb ≠ g) (hlg : lb ≠ g) (hbl : hb ≠ lb)
    (hg : ((w.setCell ⟨lb, 3, none⟩ (.int .i64 n)).alloc (.cells #[.pointer (some ⟨lb, 0, none⟩)] 27)).grownBy w1 (some g)) (hat : some g = some g' ∨ g' = w.heap.size + 1) (hlt : g' < w1.heap.size)
    (hown : w1.ownsRow base 27 1 (.slice (some ⟨g', 0, none⟩) (n + 1) cap') (n + 1) (xs ++ [.pointer (some ⟨lb, 0, none⟩)])) :
    w1.cell? ⟨hb, 0, none⟩ = some (.slice (some ⟨g, 0, none⟩) n cap) ∧ w1.frozen? ⟨hb, 0, none⟩ = false ∧
    Pushed w (w1.setCell ⟨hb, 0, none⟩ (.slice (some ⟨g', 0, none⟩) (n + 1) cap')) hb lb g n base m xs g' cap' := by
  have lh := lt_of_block h
  have ll := lt_of_block hl
  have e1 : w1.heap[hb]? = some (.cells #[.slice (some ⟨g, 0, none⟩) n cap] 29 (0, 0)) := by
    rw [hg.block hb (by simp; omega) (by simpa using hbg), blk_alloc_lt _ _ _ (by simpa using lh), blk_setCell_other _ _ _ _ hbl]; exact h
  have e2 : w1.heap[lb]? = some (lockObj m n) := by
    rw [hg.block lb (by simp; omega) (by simpa using hlg), blk_alloc_lt _ _ _ (by simpa using ll)]; exact lock_setIndex hl
  have hsz : w.heap.size + 1 ≤ w1.heap.size := by have := hg.size; simpa using this
  have hne : g' ≠ hb := by
    rcases hat with h | h
    · intro e; apply hbg; simp at h; omega
    · omega
  refine ⟨cell_of_one e1, free_of_one e1, one_setCell e1, ?_, ownsRow_setCell_other hown (by simpa [Value.ownBlock] using hne) _, ?_, by simpa using hlt, ?_, by simp; omega, ?_, ?_, ?_⟩
  · rw [blk_setCell_other _ _ _ _ (Ne.symm hbl)]; exact e2
  · rcases hat with h | h
    · left; simpa using h.symm
    · right; omega
  · intro b hb1 hb2 hb3 hb4
    rw [blk_setCell_other _ _ _ _ hb2, hg.block b (by simp; omega) (by simpa using hb4), blk_alloc_lt _ _ _ (by simpa using hb1), blk_setCell_other _ _ _ _ hb3]
  · exact hg.os
  · exact hg.tape
  · exact hg.output

set_option maxHeartbeats 400000 in
set_option maxRecDepth 100000 in
theorem push (hb lb g n cap base : Nat) (m x : Int) (xs : List Value) (w : World)
    (h : w.heap[hb]? = some (.cells #[.slice (some ⟨g, 0, none⟩) n cap] 29 (0, 0))) (hl : w.heap[lb]? = some (lockObj m x))
    (hown : w.ownsRow base 27 1 (.slice (some ⟨g, 0, none⟩) n cap) n xs) (hn : n ≤ 1000000) (hbg : hb ≠ g) (hlg : lb ≠ g) (hbl : hb ≠ lb) (hbase : base ≤ w.heap.size) :
    Calls Try.prog 11 #[.pointer (some ⟨hb, 0, none⟩), .pointer (some ⟨lb, 0, none⟩)] w fun e w' => e = .returned (.tuple #[]) ∧ ∃ g' cap', Pushed w w' hb lb g n base m xs g' cap' := by
  obtain ⟨i0, hi, hz0, hz1, hz2⟩ := info_parts info27
  have hc0 : w.cell? ⟨hb, 0, none⟩ = some (.slice (some ⟨g, 0, none⟩) n cap) := by simp [World.cell?, h]
  have hc1 : w.cell? ⟨lb, 3, none⟩ = some (.int .i64 x) := by simp [World.cell?, hl, lockObj]
  have hf1 : w.frozen? ⟨lb, 3, none⟩ = false := by simp [World.frozen?, hl, lockObj]
  have hta : ∀ (a : Option Addr) (w : World), (Instr.typeAssert (.iface 27 (.pointer a)) 20 27 false).run Try.prog w = .ok (.pointer a) w := fun _ _ => by kernel_rfl
  have hown' : ((w.setCell ⟨lb, 3, none⟩ (.int .i64 n)).alloc (.cells #[.pointer (some ⟨lb, 0, none⟩)] 27)).ownsRow base 27 1 (.slice (some ⟨g, 0, none⟩) n cap) n xs :=
    (ownsRow_setCell_other hown (by simpa [Value.ownBlock] using Ne.symm hlg) _).alloc _
  go_enter Try.func11, Try.ntmps11
  go_wp2_with (first
    | (at_builtin; refine wpList_append_lies _ rfl (.tmp 17) (.tmp 19) 29 rfl base 27 i0 (.pointer none) 1 8 Try.underlying29 hi hz0 hz1 hz2 rfl (by decide) _ n xs rfl hown' ⟨w.heap.size, 0, none⟩ 1 1 [.pointer (some ⟨lb, 0, none⟩)] rfl rfl ?c1 ?c2 (by decide) ?c3 ?c4 ?c5 (w.heap.size + 1) ?c6 ?_)
    | go_in)
  case c1 => exact World.news_of_block (cs := #[.pointer (some ⟨lb, 0, none⟩)]) (t := 27) (fr := (0, 0)) (by have := blk_alloc_new (w.setCell ⟨lb, 3, none⟩ (.int .i64 n)) (.cells #[.pointer (some ⟨lb, 0, none⟩)] 27); rwa [nblk_setCell] at this)
  case c2 => intro u hu; simp at hu; subst hu; rfl
  case c3 => unfold maxLen; omega
  case c4 => omega
  case c5 => simp; omega
  case c6 => simp
  intro g' cap' w1 hown1 hg hat hlt
  obtain ⟨k1, k2, k3⟩ := pushed_mk h hl hbg hlg hbl hg hat hlt hown1
  clear hown1 hg hat hlt hown' hown
  go_wp2
  go_end0
  go_wp2
  go_end0
  exact ⟨rfl, g', cap', k3⟩
end Go.Proofs.Qxb6616487a.Hold
