/-
  Plain: no blank in the text, and it is not empty; its bytes are bytes.
-/
import Derived.Test.Qxb6603897aDoorUnit3
namespace Go.Proofs.Qxb6603897aDoor
open Go.RowKit

/-- What may stand in the text. -/
def okB (x : Int) : Prop := 33 ≤ x ∧ x ≤ 127
theorem dI_ok (n t : Nat) : okB (dI n t) := by unfold okB dI; omega
theorem digs_ok (d : Nat) : ∀ x ∈ digs d, okB x := by
  intro x hx
  obtain ⟨t, _, rfl⟩ := List.mem_map.1 hx
  exact dI_ok d t
theorem rep_ok (k : Nat) : ∀ x ∈ List.replicate k (48 : Int), okB x := by
  intro x hx
  rw [(List.mem_replicate.1 hx).2]
  exact ⟨by omega, by omega⟩
theorem sgn_ok (neg : Bool) : ∀ x ∈ sgnT neg, okB x := by
  intro x hx
  unfold sgnT at hx
  split at hx
  · rw [List.mem_singleton.1 hx]; exact ⟨by omega, by omega⟩
  · cases hx
theorem text_ok (b : Nat) : ∀ x ∈ textOf b, okB x := by
  unfold textOf
  split
  · unfold specT okB
    split
    · split <;> decide
    · decide
  · split
    · intro x hx
      rcases List.mem_append.1 hx with h | h
      · exact sgn_ok _ x h
      · rw [List.mem_singleton.1 h]; exact ⟨by omega, by omega⟩
    · unfold finT
      intro x hx
      rcases List.mem_append.1 hx with h | h
      · rcases List.mem_append.1 h with h | h
        · exact sgn_ok _ x h
        · unfold intT at h
          split at h
          · rcases List.mem_append.1 h with h | h
            · exact digs_ok _ x (List.mem_of_mem_take h)
            · exact rep_ok _ x h
          · rw [List.mem_singleton.1 h]; exact ⟨by omega, by omega⟩
      · unfold fracT at h
        split at h
        · rcases List.mem_cons.1 h with h | h
          · rw [h]; exact ⟨by omega, by omega⟩
          · rcases List.mem_append.1 h with h | h
            · exact rep_ok _ x h
            · exact digs_ok _ x (List.mem_of_mem_drop h)
        · cases h
theorem text_len (b : Nat) : 1 ≤ (textOf b).length := by
  unfold textOf
  split
  · unfold specT
    split
    · split <;> decide
    · decide
  · split
    · simp
    · unfold finT
      rw [List.length_append, List.length_append]
      have : 1 ≤ (intT (digs (shortD (m1Of b) (e1Of b)).1) ((Lib.nDigits (shortD (m1Of b) (e1Of b)).1 : Int) + (shortD (m1Of b) (e1Of b)).2)).length := by
        generalize digs (shortD (m1Of b) (e1Of b)).1 = D
        generalize (Lib.nDigits (shortD (m1Of b) (e1Of b)).1 : Int) + (shortD (m1Of b) (e1Of b)).2 = dp
        unfold intT
        split
        · rw [List.length_append, List.length_take, List.length_replicate]; omega
        · simp
      omega
end Go.Proofs.Qxb6603897aDoor
