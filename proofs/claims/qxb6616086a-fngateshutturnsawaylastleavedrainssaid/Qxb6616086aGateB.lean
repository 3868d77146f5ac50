import Derived.Test.Qxb6616086aGateA
namespace Go.Proofs.Qxb6616086a.Gate
open Go.RowKit Go.Deep
set_option linter.unusedVariables false

def upd (f : Nat → Int) (i : Nat) (x : Int) : Nat → Int := fun j => if j = i then x else f j

/-- the gate in memory: her block gb, the channel's cb -/
structure Gt (w : World) (gb cb : Nat) (f : Nat → Int) (sh dn m : Int) (cl : Bool) : Prop where
  cnt : ∀ i, i < 16 → w.cell? ⟨gb, i * 57, none⟩ = some (.int .i64 (f i))
  shut : w.cell? ⟨gb, 912, none⟩ = some (.int .u32 sh)
  dr : w.cell? ⟨gb, 913, none⟩ = some (.chan (some cb))
  done : w.cell? ⟨gb, 914, none⟩ = some (.int .u32 dn)
  mu : w.cell? ⟨gb, 915, none⟩ = some (.int .i32 m)
  fz : ∀ o, w.frozen? ⟨gb, o, none⟩ = false
  ch : w.heap[cb]? = some (.chan 0 #[] cl 0 0 false)

/-- only the gate's block and her channel's have turned -/
structure Turn (gb cb : Nat) (w w' : World) : Prop where
  os : w'.os = w.os
  tape : w'.tape = w.tape
  output : w'.output = w.output
  size : w.heap.size ≤ w'.heap.size
  block : ∀ k, k < w.heap.size → k ≠ gb → k ≠ cb → w'.heap[k]? = w.heap[k]?

theorem Turn.refl (gb cb : Nat) (w : World) : Turn gb cb w w := ⟨rfl, rfl, rfl, Nat.le_refl _, fun _ _ _ _ => rfl⟩
theorem Turn.trans {gb cb : Nat} {a b c : World} (h : Turn gb cb a b) (k : Turn gb cb b c) : Turn gb cb a c :=
  ⟨k.os.trans h.os, k.tape.trans h.tape, k.output.trans h.output, Nat.le_trans h.size k.size, fun i hi h1 h2 => (k.block i (Nat.lt_of_lt_of_le hi h.size) h1 h2).trans (h.block i hi h1 h2)⟩
theorem Turn.ofBelow {gb cb : Nat} {a b : World} (h : Below a.heap.size a b) : Turn gb cb a b := ⟨h.os, h.tape, h.output, h.size, fun k hk _ _ => h.block k hk⟩
theorem Turn.below {gb cb B : Nat} {a b : World} (h : Turn gb cb a b) (h1 : B ≤ gb) (h2 : B ≤ cb) (h3 : B ≤ a.heap.size) : Below B a b :=
  ⟨h.os, h.tape, h.output, h.size, fun k hk => h.block k (by omega) (by omega) (by omega)⟩
theorem Turn.setCell {gb cb : Nat} (w : World) (o : Nat) (v : Value) : Turn gb cb w (w.setCell ⟨gb, o, none⟩ v) :=
  ⟨rfl, rfl, rfl, by simp, fun k _ h _ => Below.heap_setCell w _ v k h⟩
theorem Turn.alloc {gb cb : Nat} (w : World) (o : Obj) : Turn gb cb w (w.alloc o) := Turn.ofBelow ((Below.refl _ _).alloc (Nat.le_refl _) _)
theorem Turn.drew {gb cb : Nat} (w : World) : Turn gb cb w w.drew := Turn.ofBelow (Below.refl _ _).drew

section
variable {w : World} {gb cb : Nat} {f : Nat → Int} {sh dn m : Int} {cl : Bool}
theorem Gt.lt (h : Gt w gb cb f sh dn m cl) : gb < w.heap.size := World.block_lt_of_cell? w _ h.shut
theorem Gt.clt (h : Gt w gb cb f sh dn m cl) : cb < w.heap.size := (Array.getElem?_eq_some_iff.1 h.ch).1
theorem Gt.ne (h : Gt w gb cb f sh dn m cl) : cb ≠ gb := by
  intro e
  have h1 := h.shut
  have h2 := h.ch
  rw [e] at h2
  simp [World.cell?, h2] at h1

theorem Gt.block {w' : World} (h : Gt w gb cb f sh dn m cl) (h1 : w'.heap[gb]? = w.heap[gb]?) (h2 : w'.heap[cb]? = w.heap[cb]?) : Gt w' gb cb f sh dn m cl where
  cnt i hi := (World.cell?_of_block (w := w) h1).trans (h.cnt i hi)
  shut := (World.cell?_of_block (w := w) h1).trans h.shut
  dr := (World.cell?_of_block (w := w) h1).trans h.dr
  done := (World.cell?_of_block (w := w) h1).trans h.done
  mu := (World.cell?_of_block (w := w) h1).trans h.mu
  fz o := (World.frozen?_of_block (w := w) h1).trans (h.fz o)
  ch := h2.trans h.ch
theorem Gt.below {w' : World} {B : Nat} (h : Gt w gb cb f sh dn m cl) (hb : Below B w w') (h1 : gb < B) (h2 : cb < B) : Gt w' gb cb f sh dn m cl :=
  h.block (hb.block _ h1) (hb.block _ h2)
theorem Gt.alloc (h : Gt w gb cb f sh dn m cl) (o : Obj) : Gt (w.alloc o) gb cb f sh dn m cl := h.block (Below.heap_alloc _ _ _ h.lt) (Below.heap_alloc _ _ _ h.clt)
theorem Gt.drew (h : Gt w gb cb f sh dn m cl) : Gt w.drew gb cb f sh dn m cl := h.block rfl rfl
theorem Gt.other (h : Gt w gb cb f sh dn m cl) {a : Addr} (v : Value) (h1 : gb ≠ a.block) (h2 : cb ≠ a.block) : Gt (w.setCell a v) gb cb f sh dn m cl :=
  h.block (Below.heap_setCell _ _ _ _ h1) (Below.heap_setCell _ _ _ _ h2)

theorem ad_ne {b o o' : Nat} (h : o ≠ o') : (⟨b, o, none⟩ : Addr) ≠ ⟨b, o', none⟩ := fun e => h (congrArg Addr.off e)

theorem Gt.setCnt (h : Gt w gb cb f sh dn m cl) {i : Nat} (hi : i < 16) (x : Int) : Gt (w.setCell ⟨gb, i * 57, none⟩ (.int .i64 x)) gb cb (upd f i x) sh dn m cl where
  cnt j hj := by
    by_cases e : j = i
    · subst e
      rw [World.cell?_setCell_same w _ _ (h.cnt j hj)]
      simp [upd]
    · rw [World.cell?_setCell_other _ _ _ _ (ad_ne (by omega)), h.cnt j hj]
      simp [upd, e]
  shut := (World.cell?_setCell_other _ _ _ _ (ad_ne (by omega))).trans h.shut
  dr := (World.cell?_setCell_other _ _ _ _ (ad_ne (by omega))).trans h.dr
  done := (World.cell?_setCell_other _ _ _ _ (ad_ne (by omega))).trans h.done
  mu := (World.cell?_setCell_other _ _ _ _ (ad_ne (by omega))).trans h.mu
  fz o := by rw [World.frozen?_setCell]; exact h.fz o
  ch := (Below.heap_setCell _ _ _ _ h.ne).trans h.ch
theorem Gt.setShut (h : Gt w gb cb f sh dn m cl) (x : Int) : Gt (w.setCell ⟨gb, 912, none⟩ (.int .u32 x)) gb cb f x dn m cl where
  cnt j hj := (World.cell?_setCell_other _ _ _ _ (ad_ne (by omega))).trans (h.cnt j hj)
  shut := World.cell?_setCell_same w _ _ h.shut
  dr := (World.cell?_setCell_other _ _ _ _ (ad_ne (by omega))).trans h.dr
  done := (World.cell?_setCell_other _ _ _ _ (ad_ne (by omega))).trans h.done
  mu := (World.cell?_setCell_other _ _ _ _ (ad_ne (by omega))).trans h.mu
  fz o := by rw [World.frozen?_setCell]; exact h.fz o
  ch := (Below.heap_setCell _ _ _ _ h.ne).trans h.ch
theorem Gt.setDone (h : Gt w gb cb f sh dn m cl) (x : Int) : Gt (w.setCell ⟨gb, 914, none⟩ (.int .u32 x)) gb cb f sh x m cl where
  cnt j hj := (World.cell?_setCell_other _ _ _ _ (ad_ne (by omega))).trans (h.cnt j hj)
  shut := (World.cell?_setCell_other _ _ _ _ (ad_ne (by omega))).trans h.shut
  dr := (World.cell?_setCell_other _ _ _ _ (ad_ne (by omega))).trans h.dr
  done := World.cell?_setCell_same w _ _ h.done
  mu := (World.cell?_setCell_other _ _ _ _ (ad_ne (by omega))).trans h.mu
  fz o := by rw [World.frozen?_setCell]; exact h.fz o
  ch := (Below.heap_setCell _ _ _ _ h.ne).trans h.ch
theorem Gt.setMu (h : Gt w gb cb f sh dn m cl) (x : Int) : Gt (w.setCell ⟨gb, 915, none⟩ (.int .i32 x)) gb cb f sh dn x cl where
  cnt j hj := (World.cell?_setCell_other _ _ _ _ (ad_ne (by omega))).trans (h.cnt j hj)
  shut := (World.cell?_setCell_other _ _ _ _ (ad_ne (by omega))).trans h.shut
  dr := (World.cell?_setCell_other _ _ _ _ (ad_ne (by omega))).trans h.dr
  done := (World.cell?_setCell_other _ _ _ _ (ad_ne (by omega))).trans h.done
  mu := World.cell?_setCell_same w _ _ h.mu
  fz o := by rw [World.frozen?_setCell]; exact h.fz o
  ch := (Below.heap_setCell _ _ _ _ h.ne).trans h.ch
theorem Gt.close (h : Gt w gb cb f sh dn m cl) : Gt (w.setChan cb 0 #[] true 0 0 false) gb cb f sh dn m true := by
  have hb : (w.setChan cb 0 #[] true 0 0 false).heap[gb]? = w.heap[gb]? := by
    simp only [World.setChan]
    rw [Array.getElem?_setIfInBounds_ne h.ne]
  exact {
    cnt := fun i hi => (World.cell?_of_block (w := w) hb).trans (h.cnt i hi)
    shut := (World.cell?_of_block (w := w) hb).trans h.shut
    dr := (World.cell?_of_block (w := w) hb).trans h.dr
    done := (World.cell?_of_block (w := w) hb).trans h.done
    mu := (World.cell?_of_block (w := w) hb).trans h.mu
    fz := fun o => (World.frozen?_of_block (w := w) hb).trans (h.fz o)
    ch := Go.Conc.heap_setChan w cb 0 #[] true 0 0 false h.clt }
theorem Turn.close (w : World) : Turn gb cb w (w.setChan cb 0 #[] true 0 0 false) :=
  ⟨rfl, rfl, rfl, by simp [World.setChan], fun k _ _ h => by simp only [World.setChan]; rw [Array.getElem?_setIfInBounds_ne (Ne.symm h)]⟩
end

set_option maxHeartbeats 400000 in
theorem add (gb i : Nat) (hi : i < 16) (x y : Int) (w : World) (hc : w.cell? ⟨gb, i * 57, none⟩ = some (.int .i64 x)) (hz : w.frozen? ⟨gb, i * 57, none⟩ = false) :
    Calls Try.prog 19 #[.pointer (some ⟨gb, 0, none⟩), .int .i64 i, .int .i64 y] w fun e w' => e = .returned (.tuple #[]) ∧ w' = w.setCell ⟨gb, i * 57, none⟩ (.int .i64 (wrap64 (x + y))) := by
  have i0 : (0 : Int) ≤ (i : Int) := by omega
  have i1 : (i : Int) < 16 := by omega
  go_enter Try.func19, Try.ntmps19
  go_wp2_with (go_at_call 23; refine (add64 _ _ _ _ hc hz).mono ?_; rintro e w' ⟨rfl, rfl⟩)
  go_end0
  exact ⟨rfl, rfl⟩

/-- the sum of the first n, wrapped -/
def wsum (f : Nat → Int) : Nat → Int
  | 0 => 0
  | n + 1 => wrap64 (wsum f n + f n)

set_option maxHeartbeats 1000000 in
set_option maxRecDepth 100000 in
theorem load (gb : Nat) (f : Nat → Int) (w : World) (hc : ∀ i, i < 16 → w.cell? ⟨gb, i * 57, none⟩ = some (.int .i64 (f i))) :
    Calls Try.prog 25 #[.pointer (some ⟨gb, 0, none⟩)] w fun e w' => e = .returned (.int .i64 (wsum f 16)) ∧ w' = w := by
  go_enter Try.func25, Try.ntmps25
  go_wp2_with fail
  go_loop [3, 5] (fun s i => ∃ k : Nat, k ≤ 16 ∧ i = .int .i64 k ∧ s = .int .i64 (wsum f k)) (fun s i => 16 - (intOf i).toNat)
  case atStart => exact ⟨0, by omega, rfl, rfl⟩
  case round =>
    obtain ⟨k, hk, rfl, rfl⟩ := hrel
    by_cases hlt : k < 16
    · have i0 : (0 : Int) ≤ (k : Int) := by omega
      have i1 : (k : Int) < 16 := by omega
      have c0 := hc k hlt
      go_wp2_with (go_at_call 14; refine (load64 _ _ _ c0).mono ?_; rintro e w' ⟨rfl, hw'⟩; subst hw')
      go_round
      case rel => exact ⟨k + 1, by omega, by go_num, rfl⟩
      case measure => simp [intOf]; omega
    · have hke : k = 16 := by omega
      subst hke
      go_wp2_with fail
      go_ret
      exact ⟨rfl, rfl⟩
end Go.Proofs.Qxb6616086a.Gate
