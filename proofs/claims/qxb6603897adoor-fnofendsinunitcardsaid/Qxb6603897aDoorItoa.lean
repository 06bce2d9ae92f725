/-
  The walk of qb1Itoa.
-/
import Derived.Test.Qxb6603897aDoorSmall2
namespace Go.Proofs.Qxb6603897aDoor
open Go.RowKit

theorem div_pos_at : ∀ (k n : Nat), 1 ≤ n → (0 < n / 10 ^ k ↔ k < Lib.nDigits n)
  | 0, n, h => by
    have := Lib.nDigits_pos n
    simp
    omega
  | k + 1, n, h => by
    rw [show n / 10 ^ (k + 1) = n / 10 / 10 ^ k by rw [Nat.pow_succ, Nat.mul_comm, Nat.div_div_eq_div_mul]]
    by_cases hn : n < 10
    · rw [Lib.nDigits_small hn, Nat.div_eq_of_lt hn]
      simp
    · rw [Lib.nDigits_big hn, div_pos_at k (n / 10) (by omega)]
      omega

/-- What lies in the row of 24 bytes behind k rounds. -/
def bufV (n k j : Nat) : Int := if 24 ≤ j + k then ((48 + n / 10 ^ (23 - j) % 10 : Nat) : Int) else 0
structure Buf (n k : Nat) (w wr : World) : Prop where
  below : Below w.heap.size w wr
  cell : ∀ j, j < 24 → wr.cell? ⟨w.heap.size, j, none⟩ = some (.int .u8 (bufV n k j))
  frozen : ∀ j, j < 24 → wr.frozen? ⟨w.heap.size, j, none⟩ = false
theorem Buf.step {n k m : Nat} {w wr : World} (h : Buf n k w wr) (hm : m + 1 + k = 24) {c : Int} (hc : c = ((48 + n / 10 ^ k % 10 : Nat) : Int)) :
    Buf n (k + 1) w (wr.setCell ⟨w.heap.size, m, none⟩ (.int .u8 c)) where
  below := h.below.setCell (Nat.le_refl _) _
  cell := fun j hj => by
    by_cases e : j = m
    · subst e
      rw [World.cell?_setCell_same _ _ _ (h.cell j hj), hc, bufV, if_pos (by omega), show 23 - j = k by omega]
    · rw [World.cell?_setCell_other _ _ _ _ (fun e' => e (by injection e' with _ e2; exact e2.symm)), h.cell j hj]
      unfold bufV
      by_cases h2 : 24 ≤ j + k
      · rw [if_pos h2, if_pos (by omega)]
      · rw [if_neg h2, if_neg (by omega)]
  frozen := fun j hj => by rw [World.frozen?_setCell]; exact h.frozen j hj
theorem bufV_text (n m : Nat) (hm : m + Lib.nDigits n = 24) (i : Nat) (hi : i < Lib.nDigits n) : bufV n (Lib.nDigits n) (m + i) = (allD n).getD i 0 := by
  rw [bufV, if_pos (by omega), List.getD_eq_getElem?_getD, allD, List.getElem?_map, List.getElem?_range hi]
  simp only [Option.map_some, Option.getD_some, dI]
  rw [show 23 - (m + i) = Lib.nDigits n - 1 - i by omega]
theorem conv_text {n m : Nat} {w wr : World} (h : Buf n (Lib.nDigits n) w wr) (hm : m + Lib.nDigits n = 24) :
    (convert 37 9 (.slice (some ⟨w.heap.size, m, none⟩) (Lib.nDigits n) (Lib.nDigits n))).run Tryd.prog wr = .ok (.string (strOfNums (allD n))) wr := by
  refine run_convert_bytes_arg wr 37 5 Tryd.underlying37 Tryd.underlying5 _ m _ _ (allD n) (by simp [allD]) (fun i hi => ?_) 9 Tryd.underlying9
  rw [h.cell _ (by omega), bufV_text n m hm i hi]
theorem conv_textneg {n m : Nat} {w wr : World} (h : Buf n (Lib.nDigits n) w wr) (hm : m + 1 + Lib.nDigits n = 24) :
    (convert 37 9 (.slice (some ⟨w.heap.size, m, none⟩) (Lib.nDigits n + 1) (Lib.nDigits n + 1))).run Tryd.prog (wr.setCell ⟨w.heap.size, m, none⟩ (.int .u8 45)) = .ok (.string (strOfNums (45 :: allD n))) (wr.setCell ⟨w.heap.size, m, none⟩ (.int .u8 45)) := by
  refine run_convert_bytes_arg _ 37 5 Tryd.underlying37 Tryd.underlying5 _ m _ _ (45 :: allD n) (by simp [allD]) (fun i hi => ?_) 9 Tryd.underlying9
  cases i with
  | zero =>
    rw [Nat.add_zero, World.cell?_setCell_same _ _ _ (h.cell m (by omega))]
    rfl
  | succ i =>
    rw [World.cell?_setCell_other _ _ _ _ (fun e' => by injection e' with _ e2; omega), h.cell _ (by omega), show m + (i + 1) = (m + 1) + i by omega, bufV_text n (m + 1) hm i (by omega)]
    rfl

theorem slice_tail (B m d : Nat) (w : World) (hm : m + d = 24) (hd : 1 ≤ d) :
    (Instr.sliceAt 36 (.pointer (some ⟨B, 0, none⟩)) (some (.int .i64 (m : Int))) none none).run Tryd.prog w = .ok (.slice (some ⟨B, m, none⟩) d d) w := by
  have h0 : (m : Int) ≤ 24 := by omega
  have h1 : ¬ (24 = m) := by omega
  have h2 : 24 - m = d := by omega
  by_cases hz : m = 0
  · subst hz
    go_simp
  · rw [run_sliceAt_array_l w 36 ⟨B, 0, none⟩ (by kernel_rfl) .i64 m (by omega) (by rw [show Tryd.prog.arrayLen 36 = 24 by kernel_rfl]; omega)]
    go_simp
theorem buf0 (n : Nat) (w : World) : Buf n 0 w (w.alloc (.cells (List.replicate 24 (.int .u8 0)).toArray 36)) where
  below := (Below.refl _ _).alloc (Nat.le_refl _) _
  cell := fun j hj => by
    rw [bufV, if_neg (by omega)]
    simp only [World.cell?, heap_alloc_new]
    rw [List.getElem?_toArray, List.getElem?_replicate, if_pos hj]
    rfl
  frozen := fun j hj => by
    simp only [World.frozen?, heap_alloc_new]
    simp
theorem itoa_zero (w : World) :
    Calls Tryd.prog 5 #[.int .i64 0] w fun r w' => r = .returned (.string ⟨#[48]⟩) ∧ Below w.heap.size w w' := by
  go_enter Tryd.func5, Tryd.ntmps5
  go_wp2
  go_ret
  exact ⟨rfl, Below.refl _ _⟩

set_option maxRecDepth 20000 in
set_option maxHeartbeats 1000000 in
theorem itoa_pos (n : Nat) (w : World) (h1 : 1 ≤ n) (h3 : n < 9223372036854775808) :
    Calls Tryd.prog 5 #[.int .i64 n] w fun r w' => r = .returned (.string (strOfNums (allD n))) ∧ Below w.heap.size w w' := by
  have hn0 : ((n : Int) == 0) = false := by simp; omega
  have hn1 : ¬ ((n : Int) < 0) := by omega
  have hd := Lib.nDigits_le20 n (by omega)
  go_enter Tryd.func5, Tryd.ntmps5
  go_wp2_with fail
  go_loopw [4, 6] (fun u i wr => ∃ k m : Nat, k ≤ Lib.nDigits n ∧ m + k = 24 ∧ u = .int .u64 ((n / 10 ^ k : Nat) : Int) ∧ i = .int .i64 (m : Int) ∧ Hid (Buf n k w wr)) (fun _ i _ => (intOf i).toNat)
  case atStart =>
    exact ⟨0, 24, by omega, rfl, by simp, rfl, buf0 n w⟩
  case round =>
    obtain ⟨k, m, hk, hm, rfl, rfl, HB⟩ := hrel
    by_cases hlt : k < Lib.nDigits n
    · obtain ⟨m, rfl⟩ : ∃ m', m = m' + 1 := ⟨m - 1, by omega⟩
      have hpos := (div_pos_at k n h1).2 hlt
      have hc := HB.out.cell m (by omega)
      have hf := HB.out.frozen m (by omega)
      have hql : n / 10 ^ k < 9223372036854775808 := Nat.lt_of_le_of_lt (Nat.div_le_self _ _) h3
      have hs := hid (fun c => HB.out.step (c := c) hm)
      have hqq : n / 10 ^ (k + 1) = n / 10 ^ k / 10 := by rw [Nat.pow_succ, Nat.div_div_eq_div_mul]
      have hqH := hid hqq
      clear hqq
      generalize n / 10 ^ k = q at *
      go_wp2_with fail
      refine ⟨⟨k + 1, m, by omega, by omega, by rw [hqH.out]; simp, rfl, hs.out _ (by simp)⟩, by simp [intOf]⟩
    · obtain rfl : k = Lib.nDigits n := by omega
      have hz : n / 10 ^ Lib.nDigits n = 0 := Nat.div_eq_of_lt (Lib.lt_pow_nDigits n)
      have hcv := conv_text HB.out hm
      rw [hz]
      have hsl := slice_tail w.heap.size m (Lib.nDigits n) wr hm (Lib.nDigits_pos n)
      generalize Lib.nDigits n = d at *
      go_wp2_with fail
      go_ret
      exact ⟨rfl, HB.out.below⟩

set_option maxRecDepth 20000 in
set_option maxHeartbeats 1000000 in
theorem itoa_neg (n : Nat) (w : World) (h1 : 1 ≤ n) (h3 : n < 9223372036854775808) :
    Calls Tryd.prog 5 #[.int .i64 (-(n : Int))] w fun r w' => r = .returned (.string (strOfNums (45 :: allD n))) ∧ Below w.heap.size w w' := by
  have hn0 : (-(n : Int) == 0) = false := by simp; omega
  have hn1 : -(n : Int) < 0 := by omega
  have hd := Lib.nDigits_le20 n (by omega)
  go_enter Tryd.func5, Tryd.ntmps5
  go_wp2_with fail
  go_loopw [4, 6] (fun u i wr => ∃ k m : Nat, k ≤ Lib.nDigits n ∧ m + k = 24 ∧ u = .int .u64 ((n / 10 ^ k : Nat) : Int) ∧ i = .int .i64 (m : Int) ∧ Hid (Buf n k w wr)) (fun _ i _ => (intOf i).toNat)
  case atStart =>
    exact ⟨0, 24, by omega, rfl, by simp, rfl, buf0 n w⟩
  case round =>
    obtain ⟨k, m, hk, hm, rfl, rfl, HB⟩ := hrel
    by_cases hlt : k < Lib.nDigits n
    · obtain ⟨m, rfl⟩ : ∃ m', m = m' + 1 := ⟨m - 1, by omega⟩
      have hpos := (div_pos_at k n h1).2 hlt
      have hc := HB.out.cell m (by omega)
      have hf := HB.out.frozen m (by omega)
      have hql : n / 10 ^ k < 9223372036854775808 := Nat.lt_of_le_of_lt (Nat.div_le_self _ _) h3
      have hs := hid (fun c => HB.out.step (c := c) hm)
      have hqq : n / 10 ^ (k + 1) = n / 10 ^ k / 10 := by rw [Nat.pow_succ, Nat.div_div_eq_div_mul]
      have hqH := hid hqq
      clear hqq
      generalize n / 10 ^ k = q at *
      go_wp2_with fail
      refine ⟨⟨k + 1, m, by omega, by omega, by rw [hqH.out]; simp, rfl, hs.out _ (by simp)⟩, by simp [intOf]⟩
    · obtain rfl : k = Lib.nDigits n := by omega
      have hz : n / 10 ^ Lib.nDigits n = 0 := Nat.div_eq_of_lt (Lib.lt_pow_nDigits n)
      obtain ⟨m, rfl⟩ : ∃ m', m = m' + 1 := ⟨m - 1, by omega⟩
      have hc := HB.out.cell m (by omega)
      have hf := HB.out.frozen m (by omega)
      have hcv := conv_textneg HB.out hm
      rw [hz]
      have hsl := slice_tail w.heap.size m (Lib.nDigits n + 1) (wr.setCell ⟨w.heap.size, m, none⟩ (.int .u8 45)) (by omega) (by omega)
      generalize Lib.nDigits n = d at *
      go_wp2_with fail
      go_ret
      exact ⟨rfl, HB.out.below.setCell (Nat.le_refl _) _⟩
end Go.Proofs.Qxb6603897aDoor
