/-
  The walk of ftoa64 at zero, at the infinities, at a NaN.
-/
import Derived.Test.Qxb6603897aDoorFtoa
import Derived.Lib.AppendStr
namespace Go.Proofs.Qxb6603897aDoor
open Go.RowKit

theorem outs_zero {B : Nat} {v : Value} {w0 w : World} (hown : w.ownsRow B 5 1 v 0 []) (hB : Below B w0 w) (hBs : B ≤ w.heap.size) (h1 : 4 ≤ B) : Outs B 0 [] w0 w v [] :=
  ⟨hown, fun h => by have := own_block hown 0 h; omega, hB, hBs, by omega, fun j hj => absurd hj (by simp)⟩
theorem outs_any {B : Nat} {v : Value} {w0 w : World} {xs : List Int} (hown : w.ownsRow B 5 1 v xs.length (xs.map (Value.int .u8))) (hB : Below B w0 w) (hBs : B ≤ w.heap.size) (h1 : 4 ≤ B) : Outs B 0 [] w0 w v xs :=
  ⟨hown, fun h => by have := own_block hown 0 h; omega, hB, hBs, by omega, fun j hj => absurd hj (by simp)⟩
theorem outs_drewN {B sb : Nat} {D : List Int} {w wr : World} {v : Value} {xs : List Int} (h : Outs B sb D w wr v xs) (n : Nat) : Outs B sb D w (wr.drewN n) v xs := ⟨h.own, h.apart, below_drewN h.below n, h.base, h.lt, h.dig⟩
theorem outs_str {B : Nat} {v v' : Value} {w0 w w1 : World} {xs : List Int} {s : ByteArray} (H : Outs B 0 [] w0 w v []) (h1 : 4 ≤ B) (hxs : Lib.strCells s = xs.map (Value.int .u8)) (hn : s.size = xs.length)
    (hown : w1.ownsRow B 5 1 v' (0 + s.size) ([] ++ Lib.strCells s)) (hg : w.grownBy w1 v.ownBlock) : Outs B 0 [] w0 w1 v' xs := by
  rw [hxs, hn, Nat.zero_add, List.nil_append] at hown
  refine outs_any hown (H.below.grown hg H.base (own_block H.own)) (Nat.le_trans H.base hg.size) h1

set_option maxRecDepth 20000 in
set_option maxHeartbeats 1000000 in
theorem efg_zero (B : Nat) (neg : Bool) (v : Value) (w0 w : World) (H : Outs B 0 [] w0 w v []) :
    Calls Tryd.prog 32 #[v, .bool neg, .slice none 0 0, .int .i64 0, .int .i64 0, .int .i64 (-1), .int .u8 102, .bool true] w fun r w' =>
      ∃ v', r = .returned v' ∧ Hid (Outs B 0 [] w0 w' v' (sgnT neg ++ [48])) := by
  obtain ⟨i0, hi, hz0, hz1, hz2⟩ := info_parts Tryd.info5
  have HO := hid H
  clear H
  go_enter Tryd.func32, Tryd.ntmps32
  go_upto_if 178 with fail
  go_cut [0] (fun v wc => Hid (Outs B 0 [] w0 wc v (sgnT neg)))
  case first =>
    cases neg
    · go_wp2_with fail
      go_meet
      case rel => exact HO
    · go_wp2_with (at_builtin; refine wpList_append_own_at _ rfl _ _ 37 rfl B 5 i0 (.int .u8 0) 1 1 Tryd.underlying37 hi hz0 hz1 hz2 rfl (by decide) _ _ _ rfl (HO.out.own.alloc _) ⟨w.heap.size, 0, none⟩ 1 1 [.int .u8 45] rfl rfl (cell_one_new _ _ _) (by simp [Value.oneCell']) (by unfold maxLen; simp) (by simp) (by have := HO.out.base; simp; omega) ?_; intro v' w1 hown' hgrow _ hv')
      go_meet
      case rel => exact HO.out.step hown' hgrow hv'
  case rest =>
    have H1 := hcut
    clear hcut HO
    have l1 := sgn_len neg
    go_wp2_with (at_builtin; refine wpList_append_own_at _ rfl _ _ 37 rfl B 5 i0 (.int .u8 0) 1 1 Tryd.underlying37 hi hz0 hz1 hz2 rfl (by decide) _ _ _ rfl (H1.out.own.alloc _) ⟨wc.heap.size, 0, none⟩ 1 1 [.int .u8 48] rfl rfl (cell_one_new _ _ _) (by simp [Value.oneCell']) (by unfold maxLen; omega) (by omega) (by have := H1.out.base; simp; omega) ?_; intro v' w1 hown' hgrow _ hv')
    go_ret
    exact ⟨v', rfl, H1.out.step hown' hgrow hv'⟩

set_option maxRecDepth 20000 in
set_option maxHeartbeats 1000000 in
theorem ftoa_zero (b B : Nat) (v : Value) (w0 w : World) (hb : b < 18446744073709551616) (hx : exOf b = 0) (hm : mantOf b = 0)
    (hown : w.ownsRow B 5 1 v 0 []) (hB : Below B w0 w) (hBs : B ≤ w.heap.size) (h4 : 4 ≤ B) :
    Calls Tryd.prog 25 #[v, .float .f64 b, .int .u8 102, .int .i64 (-1)] w fun r w' => ∃ v' sb D, r = .returned v' ∧ Hid (Outs B sb D w0 w' v' (sgnT (negOf b) ++ [48])) := by
  have HO := hid (outs_zero hown hB hBs h4)
  clear hown hB
  have EX := hid (show bits .and .i64 ((b : Int) / 4503599627370496) 2047 = ((exOf b : Nat) : Int) by rw [i64_and2047]; unfold exOf; omega)
  have EM := hid (show bits .and .u64 (b : Int) 4503599627370495 = ((mantOf b : Nat) : Int) from and_mask64 b hb)
  go_enter Tryd.func25, Tryd.ntmps25
  go_wp2_with fail
  rw [run_callFunc_extern Tryd.func29 (by kernel_rfl) (by kernel_rfl) (by kernel_rfl) (e := Extern.MathFloatBits.float64bits) (by kernel_rfl)]
  rw [run_bits64]
  simp only [Result.andThen]
  rw [Oper.upon_value]
  go_wp2_with fail
  go_quiet (fail)
  rw [EX.out]
  obtain ⟨neg, hneg⟩ : ∃ neg, negOf b = neg := ⟨_, rfl⟩
  rw [show ((b : Int) / 9223372036854775808 != 0) = neg from hneg]
  have HN := hid hneg
  obtain ⟨w1, hw1⟩ : ∃ w1, w.drewN nq = w1 := ⟨_, rfl⟩
  rw [hw1]
  have HO1 : Hid (Outs B 0 [] w0 w1 v []) := by rw [← hw1]; exact outs_drewN HO.out nq
  clear hw1 hneg EX HO
  have HG := hid (efg_zero B neg v w0 w1 HO1.out)
  have EMZ := hid (show bits .and .u64 (b : Int) 4503599627370495 = 0 by rw [EM.out, hm]; rfl)
  clear EM hm
  rw [hx]
  clear hx
  go_upto_if 78 with fail
  rw [EMZ.out]
  go_wp2_with fail
  refine HG.out.mono ?_
  rintro r w2 ⟨v', rfl, HR⟩
  go_wp2_with fail
  go_ret
  first | refine ⟨v', 0, [], rfl, ?_⟩ | refine ⟨v', rfl, 0, [], ?_⟩
  rw [HN.out]
  exact HR

def specT (b : Nat) : List Int := if mantOf b = 0 then (if negOf b then [45, 73, 110, 102] else [43, 73, 110, 102]) else [78, 97, 78]
set_option maxRecDepth 20000 in
set_option maxHeartbeats 1000000 in
theorem ftoa_spec (b B : Nat) (v : Value) (w0 w : World) (hb : b < 18446744073709551616) (hx : exOf b = 2047)
    (hown : w.ownsRow B 5 1 v 0 []) (hB : Below B w0 w) (hBs : B ≤ w.heap.size) (h4 : 4 ≤ B) :
    Calls Tryd.prog 25 #[v, .float .f64 b, .int .u8 102, .int .i64 (-1)] w fun r w' => ∃ v' sb D, r = .returned v' ∧ Hid (Outs B sb D w0 w' v' (specT b)) := by
  have HO := hid (outs_zero hown hB hBs h4)
  clear hown hB
  obtain ⟨i0, hi, hz0, hz1, hz2⟩ := info_parts Tryd.info5
  have EX := hid (show bits .and .i64 ((b : Int) / 4503599627370496) 2047 = ((exOf b : Nat) : Int) by rw [i64_and2047]; unfold exOf; omega)
  have EM := hid (show bits .and .u64 (b : Int) 4503599627370495 = ((mantOf b : Nat) : Int) from and_mask64 b hb)
  go_enter Tryd.func25, Tryd.ntmps25
  go_wp2_with fail
  rw [run_callFunc_extern Tryd.func29 (by kernel_rfl) (by kernel_rfl) (by kernel_rfl) (e := Extern.MathFloatBits.float64bits) (by kernel_rfl)]
  rw [run_bits64]
  simp only [Result.andThen]
  rw [Oper.upon_value]
  go_wp2_with fail
  go_quiet (fail)
  rw [EX.out]
  obtain ⟨neg, hneg⟩ : ∃ neg, negOf b = neg := ⟨_, rfl⟩
  rw [show ((b : Int) / 9223372036854775808 != 0) = neg from hneg]
  have HN := hid hneg
  obtain ⟨w1, hw1⟩ : ∃ w1, w.drewN nq = w1 := ⟨_, rfl⟩
  rw [hw1]
  have HO1 : Hid (Outs B 0 [] w0 w1 v []) := by rw [← hw1]; exact outs_drewN HO.out nq
  clear hw1 hneg EX HO
  rw [hx]
  clear hx
  have ES := hid (show specT b = if mantOf b = 0 then (if negOf b then [45, 73, 110, 102] else [43, 73, 110, 102]) else [78, 97, 78] from rfl)
  rw [HN.out] at ES
  generalize mantOf b = mant at *
  go_upto_if 69 with fail
  rw [EM.out]
  by_cases h0 : mant = 0
  · have ne : ((mant : Int) != 0) = false := by simp [h0]
    rw [if_pos h0] at ES
    clear h0
    cases neg
    · go_wp2_with (at_builtin; refine Lib.wpList_append_own_string _ rfl _ _ 37 9 rfl B 5 i0 Tryd.underlying37 Tryd.underlying9 hi hz0 hz1 hz2 _ _ _ rfl HO1.out.own _ rfl (by unfold maxLen; decide) (by decide) HO1.out.base ?_; intro v' w2 hown' hgrow _)
      go_ret
      first | refine ⟨v', 0, [], rfl, ?_⟩ | refine ⟨v', rfl, 0, [], ?_⟩
      rw [ES.out]
      exact outs_str HO1.out h4 (xs := [43, 73, 110, 102]) rfl rfl hown' hgrow
    · go_wp2_with (at_builtin; refine Lib.wpList_append_own_string _ rfl _ _ 37 9 rfl B 5 i0 Tryd.underlying37 Tryd.underlying9 hi hz0 hz1 hz2 _ _ _ rfl HO1.out.own _ rfl (by unfold maxLen; decide) (by decide) HO1.out.base ?_; intro v' w2 hown' hgrow _)
      go_ret
      first | refine ⟨v', 0, [], rfl, ?_⟩ | refine ⟨v', rfl, 0, [], ?_⟩
      rw [ES.out]
      exact outs_str HO1.out h4 (xs := [45, 73, 110, 102]) rfl rfl hown' hgrow
  · have ne : ((mant : Int) != 0) = true := by simp [h0]
    rw [if_neg h0] at ES
    clear h0
    go_wp2_with (at_builtin; refine Lib.wpList_append_own_string _ rfl _ _ 37 9 rfl B 5 i0 Tryd.underlying37 Tryd.underlying9 hi hz0 hz1 hz2 _ _ _ rfl HO1.out.own _ rfl (by unfold maxLen; decide) (by decide) HO1.out.base ?_; intro v' w2 hown' hgrow _)
    go_ret
    first | refine ⟨v', 0, [], rfl, ?_⟩ | refine ⟨v', rfl, 0, [], ?_⟩
    rw [ES.out]
    exact outs_str HO1.out h4 (xs := [78, 97, 78]) rfl rfl hown' hgrow
end Go.Proofs.Qxb6603897aDoor
