import Derived.Test.Qxb6616086aGateB
namespace Go.Proofs.Qxb6616086a.Gate
open Go.RowKit Go.Deep
set_option linter.unusedVariables false

set_option maxHeartbeats 400000 in
theorem closer (pl : Addr) (gb cb : Nat) (w : World) (hp : w.cell? pl = some (.pointer (some ⟨gb, 0, none⟩))) (hd : w.cell? ⟨gb, 913, none⟩ = some (.chan (some cb)))
    (hch : w.heap[cb]? = some (.chan 0 #[] false 0 0 false)) :
    Calls Try.prog 27 #[.pointer (some pl)] w fun e w' => e = .returned (.tuple #[]) ∧ w' = w.setChan cb 0 #[] true 0 0 false := by
  have hcl := fun ats ty => run_close_open (P := Try.prog) (w := w) ats ty hch
  go_enter Try.func27, Try.ntmps27
  go_wp2
  go_end0
  exact ⟨rfl, rfl⟩

set_option maxHeartbeats 800000 in
set_option maxRecDepth 100000 in
theorem slow (pl : Addr) (gb cb : Nat) (f : Nat → Int) (sh : Int) (w : World) (hp : w.cell? pl = some (.pointer (some ⟨gb, 0, none⟩))) (hpb : gb ≠ pl.block) (hpc : cb ≠ pl.block)
    (G : Gt w gb cb f sh 0 0 false) :
    Calls Try.prog 29 #[.pointer (some ⟨gb, 914, none⟩), .func (.func 27) #[] #[.pointer (some pl)]] w fun e w' => e = .returned (.tuple #[]) ∧ Gt w' gb cb f sh 1 0 true ∧ Turn gb cb w w' := by
  have hnot : ∀ (x : Bool) (w : World), (Op.unary .not (.bool x)).run Try.prog w = .ok (.bool (!x)) w := fun _ _ => rfl
  have G1 := G.setMu 1
  have hp1 : (w.setCell ⟨gb, 915, none⟩ (.int .i32 1)).cell? pl = some (.pointer (some ⟨gb, 0, none⟩)) := (World.cell?_setCell_other _ _ pl _ (fun h => hpb (by rw [← h]))).trans hp
  have G2 := G1.close
  have G3 := (G2.setDone 1).drew
  have G4 := G3.setMu 0
  have C1 := hide (lock ⟨gb, 915, none⟩ w G.mu (G.fz _))
  have C2 := hide (loadB ⟨gb, 914, none⟩ 0 _ G1.done)
  have C3 := hide (closer pl gb cb _ hp1 G1.dr G1.ch)
  have D1 := hide (fun m => storeB_d ⟨gb, 914, none⟩ _ m _ G2.done (G2.fz _))
  have D2 := hide (fun m => unlock_d ⟨gb, 915, none⟩ m _ G3.mu (G3.fz _))
  have hG := hide G4
  clear G G1 G2 G3 G4
  go_enter_defers Try.func29, Try.ntmps29
  go_wp2_with (first | (go_at_call 30; refine (unhide C1).mono ?_; rintro e w' ⟨rfl, rfl⟩) | (go_at_call 20; refine (unhide C2).mono ?_; rintro e w' ⟨rfl, rfl⟩) | (go_at_call 27; refine (unhide C3).mono ?_; rintro e w' ⟨rfl, rfl⟩))
  refine leaves_cons (f := 12) (args := #[.pointer (some ⟨gb, 914, none⟩), .bool true]) (by simp) (by simp [go_sem]) ?_
  refine (unhide D1 .returning).mono ?_
  rintro e u' w'' ⟨rfl, rfl, rfl⟩
  refine leaves_cons (f := 31) (args := #[.pointer (some ⟨gb, 915, none⟩)]) (by simp [settle]) (by simp [go_sem]) ?_
  refine (unhide D2 _).mono ?_
  rintro e u' w'' ⟨rfl, rfl, rfl⟩
  refine ⟨_, results_none rfl _ _ _, rfl, unhide hG, ?_⟩
  exact ((((Turn.setCell w _ _).trans (Turn.close _)).trans (Turn.setCell _ _ _)).trans (Turn.drew _)).trans (Turn.setCell _ _ _)

set_option maxHeartbeats 800000 in
theorem once (pl : Addr) (gb cb : Nat) (f : Nat → Int) (sh : Int) (w : World) (hp : w.cell? pl = some (.pointer (some ⟨gb, 0, none⟩))) (hpb : gb ≠ pl.block) (hpc : cb ≠ pl.block)
    (G : Gt w gb cb f sh 0 0 false) :
    Calls Try.prog 26 #[.pointer (some ⟨gb, 914, none⟩), .func (.func 27) #[] #[.pointer (some pl)]] w fun e w' => e = .returned (.tuple #[]) ∧ Gt w' gb cb f sh 1 0 true ∧ Turn gb cb w w' := by
  have hnot : ∀ (x : Bool) (w : World), (Op.unary .not (.bool x)).run Try.prog w = .ok (.bool (!x)) w := fun _ _ => rfl
  have C1 := hide (slow pl gb cb f sh w hp hpb hpc G)
  have C2 := hide (loadB ⟨gb, 914, none⟩ 0 _ G.done)
  clear G
  go_enter Try.func26, Try.ntmps26
  go_wp2_with (first | (go_at_call 20; refine (unhide C2).mono ?_; rintro e w' ⟨rfl, hw⟩; subst hw) | (go_at_call 29; refine (unhide C1).mono ?_; rintro e w' ⟨rfl, hw, ht⟩))
  go_end0
  exact ⟨rfl, hw, ht⟩

set_option maxHeartbeats 800000 in
/-- 'drainedIfIdle' where calls are under way: nothing turns -/
theorem idleNo (gb cb : Nat) (f : Nat → Int) (sh dn m : Int) (cl : Bool) (w : World) (G : Gt w gb cb f sh dn m cl) (hs : wsum f 16 ≠ 0) :
    Calls Try.prog 22 #[.pointer (some ⟨gb, 0, none⟩)] w fun e w' => e = .returned (.tuple #[]) ∧ Gt w' gb cb f sh dn m cl ∧ Turn gb cb w w' := by
  have G1 := G.alloc (.cells #[.pointer (some ⟨gb, 0, none⟩)] 24 (0, 0))
  have C1 := hide (load gb f _ G1.cnt)
  have h0 : (wsum f 16 == 0) = false := by simpa using hs
  have hG := hide G1
  clear G G1
  go_enter Try.func22, Try.ntmps22
  go_wp2_with (go_at_call 25; refine (unhide C1).mono ?_; rintro e w' ⟨rfl, rfl⟩)
  go_end0
  exact ⟨rfl, unhide hG, Turn.alloc _ _⟩

set_option maxHeartbeats 800000 in
/-- 'drainedIfIdle' where none is: the channel is closed -/
theorem idleYes (gb cb : Nat) (f : Nat → Int) (sh : Int) (w : World) (G : Gt w gb cb f sh 0 0 false) (hs : wsum f 16 = 0) :
    Calls Try.prog 22 #[.pointer (some ⟨gb, 0, none⟩)] w fun e w' => e = .returned (.tuple #[]) ∧ Gt w' gb cb f sh 1 0 true ∧ Turn gb cb w w' := by
  have hmf : ∀ (fn : Fn) (first cap : Array Value) (w : World), (Instr.makeFunc fn first cap).run Try.prog w = .ok (.func fn first cap) w := fun _ _ _ _ => rfl
  have G1 := G.alloc (.cells #[.pointer (some ⟨gb, 0, none⟩)] 24 (0, 0))
  have C1 := hide (load gb f _ G1.cnt)
  have p0 : (w.alloc (.cells #[.pointer (some ⟨gb, 0, none⟩)] 24)).cell? ⟨w.heap.size, 0, none⟩ = some (.pointer (some ⟨gb, 0, none⟩)) := by simp
  have C2 := hide (once ⟨w.heap.size, 0, none⟩ gb cb f sh _ p0 (by have := G.lt; simp; omega) (by have := G.clt; simp; omega) G1)
  have h0 : (wsum f 16 == 0) = true := by simpa using hs
  clear G G1
  go_enter Try.func22, Try.ntmps22
  go_wp2_with (first | (go_at_call 25; refine (unhide C1).mono ?_; rintro e w' ⟨rfl, rfl⟩) | (go_at_call 26; refine (unhide C2).mono ?_; rintro e w' ⟨rfl, hw, ht⟩))
  go_end0
  exact ⟨rfl, hw, (Turn.alloc _ _).trans ht⟩

/-- what 'drainedIfIdle' makes of a gate that is shut and not yet drained -/
def Ebb (w' : World) (gb cb : Nat) (f : Nat → Int) : Prop := if wsum f 16 = 0 then Gt w' gb cb f 1 1 0 true else Gt w' gb cb f 1 0 0 false

theorem idle (gb cb : Nat) (f : Nat → Int) (w : World) (G : Gt w gb cb f 1 0 0 false) :
    Calls Try.prog 22 #[.pointer (some ⟨gb, 0, none⟩)] w fun e w' => e = .returned (.tuple #[]) ∧ Ebb w' gb cb f ∧ Turn gb cb w w' := by
  by_cases hs : wsum f 16 = 0
  · refine (idleYes gb cb f 1 w G hs).mono ?_
    rintro e w' ⟨rfl, h, t⟩
    exact ⟨rfl, by unfold Ebb; rw [if_pos hs]; exact h, t⟩
  · refine (idleNo gb cb f 1 0 0 false w G hs).mono ?_
    rintro e w' ⟨rfl, h, t⟩
    exact ⟨rfl, by unfold Ebb; rw [if_neg hs]; exact h, t⟩

set_option maxHeartbeats 800000 in
theorem leave (gb cb : Nat) (f : Nat → Int) (i : Nat) (hi : i < 16) (w : World) (G : Gt w gb cb f 1 0 0 false) :
    Calls Try.prog 15 #[.pointer (some ⟨gb, 0, none⟩), .int .i64 i] w fun e w' => e = .returned (.tuple #[]) ∧ Ebb w' gb cb (upd f i (wrap64 (f i + -1))) ∧ Turn gb cb w w' := by
  have G1 := G.setCnt hi (wrap64 (f i + -1))
  have C1 := hide (add gb i hi (f i) (-1) w (G.cnt i hi) (G.fz _))
  have C2 := hide (loadB ⟨gb, 912, none⟩ 1 _ G1.shut)
  have C3 := hide (idle gb cb _ _ G1)
  clear G G1
  go_enter Try.func15, Try.ntmps15
  go_wp2_with (first | (go_at_call 19; refine (unhide C1).mono ?_; rintro e w' ⟨rfl, rfl⟩) | (go_at_call 20; refine (unhide C2).mono ?_; rintro e w' ⟨rfl, rfl⟩) | (go_at_call 22; refine (unhide C3).mono ?_; rintro e w' ⟨rfl, hw, ht⟩))
  go_end0
  exact ⟨rfl, hw, (Turn.setCell _ _ _).trans ht⟩

set_option maxHeartbeats 800000 in
theorem enterOpen (gb cb : Nat) (f : Nat → Int) (dn m : Int) (cl : Bool) (i : Nat) (hi : i < 16) (w : World) (G : Gt w gb cb f 0 dn m cl) :
    Calls Try.prog 6 #[.pointer (some ⟨gb, 0, none⟩), .int .i64 i] w fun e w' => e = .returned (.bool true) ∧ Gt w' gb cb (upd f i (wrap64 (f i + 1))) 0 dn m cl ∧ Turn gb cb w w' := by
  have G1 := G.setCnt hi (wrap64 (f i + 1))
  have C1 := hide (add gb i hi (f i) 1 w (G.cnt i hi) (G.fz _))
  have C2 := hide (loadB ⟨gb, 912, none⟩ 0 _ G1.shut)
  have hG := hide G1
  clear G G1
  go_enter Try.func6, Try.ntmps6
  go_wp2_with (first | (go_at_call 13; go_in) | (go_at_call 19; refine (unhide C1).mono ?_; rintro e w' ⟨rfl, rfl⟩) | (go_at_call 20; refine (unhide C2).mono ?_; rintro e w' ⟨rfl, rfl⟩))
  go_ret
  exact ⟨rfl, unhide hG, Turn.setCell _ _ _⟩

set_option maxHeartbeats 800000 in
theorem enterShut (gb cb : Nat) (f : Nat → Int) (i : Nat) (hi : i < 16) (w : World) (G : Gt w gb cb f 1 0 0 false) :
    Calls Try.prog 6 #[.pointer (some ⟨gb, 0, none⟩), .int .i64 i] w fun e w' => e = .returned (.bool false) ∧ Ebb w' gb cb (upd (upd f i (wrap64 (f i + 1))) i (wrap64 (wrap64 (f i + 1) + -1))) ∧ Turn gb cb w w' := by
  have G1 := G.setCnt hi (wrap64 (f i + 1))
  have C1 := hide (add gb i hi (f i) 1 w (G.cnt i hi) (G.fz _))
  have C2 := hide (loadB ⟨gb, 912, none⟩ 1 _ G1.shut)
  have C3 := leave gb cb _ i hi _ G1
  rw [show upd f i (wrap64 (f i + 1)) i = wrap64 (f i + 1) by simp [upd]] at C3
  have C4 := hide C3
  clear G G1 C3
  go_enter Try.func6, Try.ntmps6
  go_wp2_with (first | (go_at_call 13; go_in) | (go_at_call 19; refine (unhide C1).mono ?_; rintro e w' ⟨rfl, rfl⟩) | (go_at_call 20; refine (unhide C2).mono ?_; rintro e w' ⟨rfl, rfl⟩) | (go_at_call 15; refine (unhide C4).mono ?_; rintro e w' ⟨rfl, hw, ht⟩))
  go_ret
  exact ⟨rfl, hw, (Turn.setCell _ _ _).trans ht⟩

set_option maxHeartbeats 800000 in
theorem zzleave (gb cb : Nat) (f : Nat → Int) (i : Nat) (hi : i < 16) (w : World) (G : Gt w gb cb f 1 0 0 false) :
    Calls Try.prog 10 #[.pointer (some ⟨gb, 0, none⟩), .int .i64 i] w fun e w' => e = .returned (.tuple #[]) ∧ Ebb w' gb cb (upd f i (wrap64 (f i + -1))) ∧ Turn gb cb w w' := by
  have C3 := hide (leave gb cb _ i hi _ G)
  clear G
  go_enter Try.func10, Try.ntmps10
  go_wp2_with (go_at_call 15; refine (unhide C3).mono ?_; rintro e w' ⟨rfl, hw, ht⟩)
  go_end0
  exact ⟨rfl, hw, ht⟩

set_option maxHeartbeats 800000 in
theorem zzshut (gb cb : Nat) (f : Nat → Int) (sh dn m : Int) (cl : Bool) (w : World) (G : Gt w gb cb f sh dn m cl) :
    Calls Try.prog 7 #[.pointer (some ⟨gb, 0, none⟩)] w fun e w' => e = .returned (.tuple #[]) ∧ Gt w' gb cb f 1 dn m cl ∧ Turn gb cb w w' := by
  have G1 := (G.setShut 1).drew
  have C3 := hide (storeB ⟨gb, 912, none⟩ true _ w G.shut (G.fz _))
  have hG := hide G1
  clear G G1
  go_enter Try.func7, Try.ntmps7
  go_wp2_with (go_at_call 12; refine (unhide C3).mono ?_; rintro e w' ⟨rfl, rfl⟩)
  go_end0
  exact ⟨rfl, unhide hG, (Turn.setCell _ _ _).trans (Turn.drew _)⟩
end Go.Proofs.Qxb6616086a.Gate
