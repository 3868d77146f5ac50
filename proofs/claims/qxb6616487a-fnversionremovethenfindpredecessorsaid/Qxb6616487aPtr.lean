import Derived.LaidEqlPtr
namespace Go.Proofs.Qxb6616487a
section
variable {P : Program} (w : World)

theorem run_neq_ptr_same {tp te : TypeId} {j : TypeInfo} (a : Addr) (hp : P.underlying tp = some (.pointer te)) (hte : P.info? te = some j) :
    (binOp .neq tp (.pointer (some a)) (.pointer (some a))).run P w = .ok (.bool false) w := by
  have h : ∀ d : Nat, (Op.equalIn (d + 1) tp (.pointer (some a)) (.pointer (some a))).run P w = .ok true w := fun d => by
    simp [Op.equalIn, run_underlying hp, sizeOf, typeInfo, hte, run_sameAddr_same]
  simp only [binOp]
  simp [Op.equal, Op.maxDepth, h 9999]

/-- two addresses of one block: as the offsets are -/
theorem run_eql_ptr_block {tp te : TypeId} {j : TypeInfo} (b o o' : Nat) (hp : P.underlying tp = some (.pointer te)) (hte : P.info? te = some j) (hsz : j.size ≠ 0) :
    (binOp .eql tp (.pointer (some ⟨b, o, none⟩)) (.pointer (some ⟨b, o', none⟩))).run P w = .ok (.bool (o == o')) w := by
  have h : ∀ d : Nat, (Op.equalIn (d + 1) tp (.pointer (some ⟨b, o, none⟩)) (.pointer (some ⟨b, o', none⟩))).run P w = .ok (o == o') w := fun d => by
    have e : ((⟨b, o, none⟩ : Addr) == ⟨b, o', none⟩) = (o == o') := by
      rw [Bool.eq_iff_iff]; simp
    simp [Op.equalIn, run_underlying hp, sizeOf, typeInfo, hte, hsz, sameAddr, e]
  simp only [binOp]
  simp [Op.equal, Op.maxDepth, h 9999]
end
end Go.Proofs.Qxb6616487a
