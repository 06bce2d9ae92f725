/-
  Two pointers to cells that are not frozen, compared.
-/
import Derived.Test.Qxb6603897aDoorOf
import Derived.LaidEqlPtr
namespace Go.Proofs.Qxb6603897aDoor
open Go.RowKit

theorem cells_of {w : World} {a : Addr} {v : Value} (h : w.cell? a = some v) : ∃ c t f, w.heap[a.block]? = some (.cells c t f) := by
  unfold World.cell? at h
  split at h
  · rename_i c t f hb
    exact ⟨c, t, f, hb⟩
  · cases h

/-- It answers; the world is as it was, or a question was asked of the tape. -/
def Okay (w : World) (r : Result Bool) : Prop := ∃ c w', r = .ok c w' ∧ (w' = w ∨ w' = w.drew)
theorem sameAddr_any (a b : Addr) (w : World) (va vb : Value) (ha : w.cell? a = some va) (hb : w.cell? b = some vb) (hf : w.frozen? b = false) :
    Okay w ((sameAddr a b).run Tryd.prog w) := by
  by_cases hbl : a.block = b.block
  · exact ⟨a == b, w, by simp [sameAddr, hbl], .inl rfl⟩
  · obtain ⟨ca, ta, fa, hga⟩ := cells_of ha
    obtain ⟨cb, tb, fb, hgb⟩ := cells_of hb
    have hs1 : w.shape? a.block = some (ta, ca.size) := by simp [World.shape?, hga]
    have hs2 : w.shape? b.block = some (tb, cb.size) := by simp [World.shape?, hgb]
    simp [sameAddr, hbl, hf, noView, viewAt, hs1, hs2, mayBeOne, stringish]
    repeat' split
    all_goals first
      | exact ⟨_, _, rfl, .inl rfl⟩
      | exact ⟨_, _, rfl, .inr rfl⟩

theorem eql_ptr (a b : Addr) (w : World) (va vb : Value) (ha : w.cell? a = some va) (hb : w.cell? b = some vb) (hf : w.frozen? b = false) :
    ∃ c w', (binOp .eql 25 (.pointer (some a)) (.pointer (some b))).run Tryd.prog w = .ok (.bool c) w' ∧ (w' = w ∨ w' = w.drew) := by
  obtain ⟨c, w', hr, hw⟩ := sameAddr_any a b w va vb ha hb hf
  obtain ⟨j, hj, hz⟩ : ∃ j, Tryd.prog.info? 22 = some j ∧ j.size = 1 := by
    have h : (Tryd.prog.info? 22).map (·.size) = some 1 := by kernel_rfl
    cases e : Tryd.prog.info? 22 with
    | none => rw [e] at h; cases h
    | some j => rw [e] at h; exact ⟨j, rfl, Option.some.inj h⟩
  have h : ∀ d : Nat, (Op.equalIn (d + 1) 25 (.pointer (some a)) (.pointer (some b))).run Tryd.prog w = .ok c w' := fun d => by
    simp [Op.equalIn, run_underlying Tryd.underlying25, sizeOf, typeInfo, hj, hz, hr]
  refine ⟨c, w', ?_, hw⟩
  simp only [binOp]
  simp [Op.equal, Op.maxDepth, h 9999]
end Go.Proofs.Qxb6603897aDoor
