/-
  TWO POINTERS COMPARED, IN WHATEVER MEMORY: some answer; no block turns; at most one draw. (Two blocks of bytes that a string may share are answered by the tape: so the answer is not said.)
-/
import Derived.LaidEqlPtr
import Derived.Deep.Draws
namespace Go.Proofs.Qxb6606129a

section
variable {P : Program}

theorem cells_at {w : World} {a : Addr} {v : Value} (h : w.cell? a = some v) : ∃ c t fr, w.heap[a.block]? = some (.cells c t fr) := by
  unfold World.cell? at h
  split at h
  · rename_i c t fr hb; exact ⟨c, t, fr, hb⟩
  · simp at h

theorem run_sameAddr_any (w : World) {y z : Addr} {u v : Value} (hy : w.cell? y = some u) (hz : w.cell? z = some v) (hf : w.frozen? y = false) : ∃ r m, (sameAddr y z).run P w = .ok r (w.drewN m) := by
  obtain ⟨cy, ty, fy, hhy⟩ := cells_at hy
  obtain ⟨cz, tz, fz, hhz⟩ := cells_at hz
  by_cases hbl : y.block = z.block
  · exact ⟨y == z, 0, by simp [sameAddr, hbl]; rfl⟩
  · have hs1 : w.shape? y.block = some (ty, cy.size) := by unfold World.shape?; rw [hhy]
    have hs2 : w.shape? z.block = some (tz, cz.size) := by unfold World.shape?; rw [hhz]
    have hv1 : (noView y).run P w = .ok () w := by simp [noView, viewAt, hs1]
    have hv2 : (noView z).run P w = .ok () w := by simp [noView, viewAt, hs2]
    obtain ⟨b1, hb1⟩ : ∃ b, (stringish y).run P w = .ok b w := by
      unfold stringish
      by_cases h : w.frozen? y = true
      · exact ⟨true, by simp [h]⟩
      · exact ⟨_, by simp [h, hs1]; rfl⟩
    obtain ⟨b2, hb2⟩ : ∃ b, (stringish z).run P w = .ok b w := by
      unfold stringish
      by_cases h : w.frozen? z = true
      · exact ⟨true, by simp [h]⟩
      · exact ⟨_, by simp [h, hs2]; rfl⟩
    obtain ⟨b, hb⟩ : ∃ b, (mayBeOne y z).run P w = .ok b w := by
      unfold mayBeOne
      simp only [Sem.run_bind, hb1, hb2, Result.andThen_ok]
      cases b1 <;> cases b2 <;> simp [hs1, hs2]
    cases b
    · exact ⟨false, 0, by simp [sameAddr, hbl, hf, hv1, hv2, hb]; rfl⟩
    · exact ⟨_, 1, by simp [sameAddr, hbl, hf, hv1, hv2, hb, Question.forced]; exact ⟨rfl, rfl⟩⟩

theorem run_eql_any (w : World) {tp te : TypeId} {j : TypeInfo} {y z : Addr} {u v : Value} (hp : P.underlying tp = some (.pointer te)) (hte : P.info? te = some j) (hsz : j.size ≠ 0)
    (hy : w.cell? y = some u) (hz : w.cell? z = some v) (hf : w.frozen? y = false) : ∃ r m, (binOp .eql tp (.pointer (some y)) (.pointer (some z))).run P w = .ok (.bool r) (w.drewN m) ∧
      (binOp .neq tp (.pointer (some y)) (.pointer (some z))).run P w = .ok (.bool (!r)) (w.drewN m) := by
  obtain ⟨r, m, h⟩ := run_sameAddr_any (P := P) w hy hz hf
  have h2 : ∀ d : Nat, (Op.equalIn (d + 1) tp (.pointer (some y)) (.pointer (some z))).run P w = .ok r (w.drewN m) := fun d => by
    simp [Op.equalIn, run_underlying hp, sizeOf, typeInfo, hte, hsz, h]
  refine ⟨r, m, ?_, ?_⟩
  · simp only [binOp]
    simp [Op.equal, Op.maxDepth, h2 9999]
  · simp only [binOp]
    simp [Op.equal, Op.maxDepth, h2 9999]

theorem run_neq_nil_some (w : World) {tp te : TypeId} (z : Addr) (hp : P.underlying tp = some (.pointer te)) :
    (binOp .neq tp (.pointer none) (.pointer (some z))).run P w = .ok (.bool true) w := by
  have h2 : ∀ d : Nat, (Op.equalIn (d + 1) tp (.pointer none) (.pointer (some z))).run P w = .ok false w := fun d => by
    simp [Op.equalIn, run_underlying hp]
  simp only [binOp]
  simp [Op.equal, Op.maxDepth, h2 9999]

theorem run_eql_nil_some (w : World) {tp te : TypeId} (z : Addr) (hp : P.underlying tp = some (.pointer te)) :
    (binOp .eql tp (.pointer none) (.pointer (some z))).run P w = .ok (.bool false) w := by
  have h2 : ∀ d : Nat, (Op.equalIn (d + 1) tp (.pointer none) (.pointer (some z))).run P w = .ok false w := fun d => by
    simp [Op.equalIn, run_underlying hp]
  simp only [binOp]
  simp [Op.equal, Op.maxDepth, h2 9999]
end
end Go.Proofs.Qxb6606129a
