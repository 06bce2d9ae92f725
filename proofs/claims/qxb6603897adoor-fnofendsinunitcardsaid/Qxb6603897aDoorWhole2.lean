/-
  Plain: the text of a whole number.
-/
import Derived.Test.Qxb6603897aDoorNumber
import Derived.Test.Qxb6603897aDoorWhole
namespace Go.Proofs.Qxb6603897aDoor
open Go.RowKit

theorem digs_mul10 (n : Nat) (hn : 1 ≤ n) : digs (n * 10) = digs n := by
  unfold digs
  rw [strip_all10 n hn]
  refine List.map_congr_left fun t ht => ?_
  have := List.mem_range.1 ht
  exact dI_mul10 n t hn (Nat.lt_of_lt_of_le this (strip_le n _))
theorem digs_pow (n : Nat) (hn : 1 ≤ n) : ∀ c, digs (n * 10 ^ c) = digs n ∧ Lib.nDigits (n * 10 ^ c) = Lib.nDigits n + c
  | 0 => by rw [Nat.pow_zero, Nat.mul_one]; exact ⟨rfl, rfl⟩
  | c + 1 => by
    obtain ⟨h1, h2⟩ := digs_pow n hn c
    have h3 : 1 ≤ n * 10 ^ c := Nat.mul_pos hn (Nat.pow_pos (by omega))
    rw [Nat.pow_succ, ← Nat.mul_assoc]
    exact ⟨(digs_mul10 _ h3).trans h1, by rw [nDigits_mul10 _ h3, h2]; rfl⟩
theorem finT_same (neg : Bool) (d : Nat) (q : Int) (n : Nat) (hn : 1 ≤ n) (h : same d q n) : finT neg d q = finT neg n 0 := by
  unfold finT
  rcases h with ⟨c, rfl, rfl⟩ | ⟨rfl, rfl⟩
  · obtain ⟨h1, h2⟩ := digs_pow n hn c
    rw [h1, h2, show ((Lib.nDigits n + c : Nat) : Int) + -(c : Int) = (Lib.nDigits n : Int) + 0 from by omega]
  · have hd : 1 ≤ d := by omega
    rw [digs_mul10 d hd, nDigits_mul10 d hd, show ((Lib.nDigits d + 1 : Nat) : Int) + 0 = (Lib.nDigits d : Int) + 1 from by omega]
/-- All the digits. -/
def allD (n : Nat) : List Int := (List.range (Lib.nDigits n)).map (dI n)
theorem pad_strip (n : Nat) : ∀ k, (List.range (strip n k)).map (dI n) ++ List.replicate (k - strip n k) 48 = (List.range k).map (dI n)
  | 0 => rfl
  | k + 1 => by
    have ih := pad_strip n k
    have hl := strip_le n k
    by_cases h : (dI n k == 48) = true
    · have e : strip n (k + 1) = strip n k := by rw [strip, if_pos h]
      rw [e, show k + 1 - strip n k = (k - strip n k) + 1 from by omega, List.replicate_succ', ← List.append_assoc, ih, List.range_succ, List.map_append, List.map_singleton, beq_iff_eq.1 h]
    · have e : strip n (k + 1) = k + 1 := by rw [strip, if_neg h]
      rw [e, Nat.sub_self, List.replicate_zero, List.append_nil]
theorem finT_whole (neg : Bool) (n : Nat) : finT neg n 0 = sgnT neg ++ allD n := by
  unfold finT intT fracT
  have hp := Lib.nDigits_pos n
  have hs := strip_le n (Lib.nDigits n)
  rw [if_pos (by omega), digs_len, if_neg (by omega), List.append_nil, show ((Lib.nDigits n : Int) + 0).toNat = Lib.nDigits n from by omega, List.take_of_length_le (by rw [digs_len]; exact hs)]
  unfold digs
  rw [pad_strip]
  rfl
end Go.Proofs.Qxb6603897aDoor
