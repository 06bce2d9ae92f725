/-
  The walk of law 2.
-/
import Derived.Test.Qxb6603897aDoorFloat2
namespace Go.Proofs.Qxb6603897aDoor
open Go.RowKit Ieee

theorem not_eq_bool {o : Option Ordering} (h : o ≠ some .eq) : (o != some .eq) = true := by
  cases o with
  | none => rfl
  | some x => cases x <;> first | rfl | exact absurd rfl h
theorem not_lt_bool {o : Option Ordering} (h : o ≠ some .lt) : (o == some .lt) = false := by
  cases o with
  | none => rfl
  | some x => cases x <;> first | rfl | exact absurd rfl h
theorem not_gt_bool {o : Option Ordering} (h : o ≠ some .gt) : (o == some .gt) = false := by
  cases o with
  | none => rfl
  | some x => cases x <;> first | rfl | exact absurd rfl h

set_option maxRecDepth 20000 in
set_option maxHeartbeats 1000000 in
theorem law2_nan (b : Nat) (w : World) (h : od b b = none) : Calls Tryd.prog 3 #[.float .f64 b] w fun r w' => r = .returned (.bool true) ∧ Below w.heap.size w w' := by
  have h' : FloatKind.f64.format.order b b = none := h
  go_enter Tryd.func3, Tryd.ntmps3
  go_wp2
  go_ret
  exact ⟨rfl, (Below.refl _ _).alloc (Nat.le_refl _) _⟩
set_option maxRecDepth 20000 in
set_option maxHeartbeats 1000000 in
theorem law2_lt (b : Nat) (w : World) (h : od b b = some .eq) (h2 : od b 14069245235905429504 = some .lt) : Calls Tryd.prog 3 #[.float .f64 b] w fun r w' => r = .returned (.bool true) ∧ Below w.heap.size w w' := by
  have h' : FloatKind.f64.format.order b b = some .eq := h
  have h2' : FloatKind.f64.format.order b 14069245235905429504 = some .lt := h2
  clear h h2
  go_enter Tryd.func3, Tryd.ntmps3
  go_wp2
  go_ret
  exact ⟨rfl, (Below.refl _ _).alloc (Nat.le_refl _) _⟩
set_option maxRecDepth 20000 in
set_option maxHeartbeats 1000000 in
theorem law2_gt (b : Nat) (w : World) (h : od b b = some .eq) (h2 : od b 14069245235905429504 ≠ some .lt) (h3 : od b 4845873199050653696 = some .gt) : Calls Tryd.prog 3 #[.float .f64 b] w fun r w' => r = .returned (.bool true) ∧ Below w.heap.size w w' := by
  have h' : FloatKind.f64.format.order b b = some .eq := h
  have h2' : (FloatKind.f64.format.order b 14069245235905429504 == some .lt) = false := not_lt_bool h2
  have h3' : FloatKind.f64.format.order b 4845873199050653696 = some .gt := h3
  clear h h2 h3
  go_enter Tryd.func3, Tryd.ntmps3
  go_wp2
  go_ret
  exact ⟨rfl, (Below.refl _ _).alloc (Nat.le_refl _) _⟩
set_option maxRecDepth 20000 in
set_option maxHeartbeats 1000000 in
theorem law2_part (b : Nat) (w : World) (h : od b b = some .eq) (h2 : od b 14069245235905429504 ≠ some .lt) (h3 : od b 4845873199050653696 ≠ some .gt) (n : Int) (hn : floatToIntVal .f64 b .i64 = some n) (h4 : od (floatOfInt .f64 n) b ≠ some .eq) : Calls Tryd.prog 3 #[.float .f64 b] w fun r w' => r = .returned (.bool true) ∧ Below w.heap.size w w' := by
  have h' : FloatKind.f64.format.order b b = some .eq := h
  have h2' : (FloatKind.f64.format.order b 14069245235905429504 == some .lt) = false := not_lt_bool h2
  have h3' : (FloatKind.f64.format.order b 4845873199050653696 == some .gt) = false := not_gt_bool h3
  have h4' : (FloatKind.f64.format.order (floatOfInt .f64 n) b != some .eq) = true := not_eq_bool h4
  have hcv := run_convert_float_int (P := Tryd.prog) (w.alloc (.cells #[.float .f64 b] 22)) 22 2 .f64 .i64 b n (by kernel_rfl) (by kernel_rfl) hn
  clear h h2 h3 h4
  go_enter Tryd.func3, Tryd.ntmps3
  go_wp2
  go_ret
  exact ⟨rfl, (Below.refl _ _).alloc (Nat.le_refl _) _⟩
theorem xbox {w wx : World} {v : Value} {t : TypeId} (h : Below (w.heap.size + 1) (w.alloc (.cells #[v] t)) wx) :
    wx.cell? ⟨w.heap.size, 0, none⟩ = some v ∧ Hid (Below (w.heap.size + 1) (w.alloc (.cells #[v] t)) wx) := by
  refine ⟨?_, h⟩
  rw [h.cell (by simp)]
  simp
/-- The two spans of one end. -/
theorem lo_call (b : Nat) (w wx : World) (hb : b < 18446744073709551616) (hT : Tabs w) (H : Below (w.heap.size + 1) (w.alloc (.cells #[.float .f64 b] 22)) wx) :
    Calls Tryd.prog 6 #[.agg #[.pointer (some ⟨w.heap.size, 0, none⟩), .pointer none, .bool false, .bool false]] wx fun r w' => r = .returned (.string (loS false b)) ∧ Below wx.heap.size wx w' := by
  refine zzspan_of _ _ _ _ wx _ (fun wy hy => ?_)
  have H2 := below_step H (by simp) hy
  refine span_lo ⟨w.heap.size, 0, none⟩ b false false wy hb (xbox H2).1 ?_ (hT.below (box_far H2) (by have := hT.h3; omega))
  have := H2.size
  simp at this
  exact this
theorem hi_call (b : Nat) (w wx : World) (hb : b < 18446744073709551616) (hT : Tabs w) (H : Below (w.heap.size + 1) (w.alloc (.cells #[.float .f64 b] 22)) wx) :
    Calls Tryd.prog 6 #[.agg #[.pointer none, .pointer (some ⟨w.heap.size, 0, none⟩), .bool false, .bool false]] wx fun r w' => r = .returned (.string (hiS false b)) ∧ Below wx.heap.size wx w' := by
  refine zzspan_of _ _ _ _ wx _ (fun wy hy => ?_)
  have H2 := below_step H (by simp) hy
  refine span_hi ⟨w.heap.size, 0, none⟩ b false false wy hb (xbox H2).1 ?_ (hT.below (box_far H2) (by have := hT.h3; omega))
  have := H2.size
  simp at this
  exact this
theorem loS_eq (b : Nat) : loS false b = { data := #[97, 116, 32, 108, 101, 97, 115, 116, 32] } ++ T b := rfl
theorem hiS_eq (b : Nat) : hiS false b = { data := #[97, 116, 32, 109, 111, 115, 116, 32] } ++ T b := rfl

theorem itoa_whole (b n : Nat) (hW : Whole b n) (w : World) : Calls Tryd.prog 5 #[.int .i64 (if negOf b then -(n : Int) else (n : Int))] w fun r w' => r = .returned (.string (T b)) ∧ Below w.heap.size w w' := by
  have hl := hW.le
  unfold T
  rw [hW.text]
  cases negOf b
  · exact itoa_pos n w hW.pos (by omega)
  · exact itoa_neg n w hW.pos (by omega)

set_option maxRecDepth 20000 in
set_option maxHeartbeats 1000000 in
theorem law2_whole (b n : Nat) (w : World) (hb : b < 18446744073709551616) (hT : Tabs w) (h2 : od b 14069245235905429504 ≠ some .lt) (h3 : od b 4845873199050653696 ≠ some .gt) (hW : Whole b n) : Calls Tryd.prog 3 #[.float .f64 b] w fun r w' => r = .returned (.bool true) ∧ Below w.heap.size w w' := by
  have h' : FloatKind.f64.format.order b b = some .eq := hW.self
  have h2' : (FloatKind.f64.format.order b 14069245235905429504 == some .lt) = false := not_lt_bool h2
  have h3' : (FloatKind.f64.format.order b 4845873199050653696 == some .gt) = false := not_gt_bool h3
  have h4' : FloatKind.f64.format.order (floatOfInt .f64 (if negOf b then -(n : Int) else (n : Int))) b = some .eq := hW.back
  have h5' : (FloatKind.f64.format.order b 0 == some .eq) = false := hW.nz
  have hcv := run_convert_float_int (P := Tryd.prog) (w.alloc (.cells #[.float .f64 b] 22)) 22 2 .f64 .i64 b _ (by kernel_rfl) (by kernel_rfl) hW.toI
  have HI := hid fun wx => itoa_whole b n hW wx
  have HT := hid hT
  generalize (if negOf b then -(n : Int) else (n : Int)) = z at *
  have hsz := T_sz b
  have hs1 : ¬ 9223372036854775807 < 9 + (T b).size := by omega
  have hs2 : ¬ 9223372036854775807 < 8 + (T b).size := by omega
  clear h2 h3 hW hT
  go_enter Tryd.func3, Tryd.ntmps3
  go_wp2_with (go_at_call 5; refine (HI.out _).mono ?_; rintro r w1 ⟨rfl, hb1⟩; obtain ⟨c1, H1⟩ := xbox (below_step (Below.refl (w.heap.size + 1) (w.alloc (.cells #[.float .f64 b] 22))) (by simp) hb1))
  go_at_call 7
  refine (bounds_any _ _ _ _ _).mono ?_
  rintro r w2 ⟨rfl, hb2⟩
  obtain ⟨c2, H2⟩ := xbox (below_step H1.out (by simp) hb2)
  go_wp2_with fail
  go_at_call 6
  refine (lo_call b w _ hb HT.out H2.out).mono ?_
  rintro r w3 ⟨rfl, hb3⟩
  obtain ⟨c3, H3⟩ := xbox (below_step H2.out (by simp) hb3)
  go_wp2_with fail
  go_at_call 7
  refine (bounds_any _ _ _ _ _).mono ?_
  rintro r w4 ⟨rfl, hb4⟩
  obtain ⟨c4, H4⟩ := xbox (below_step H3.out (by simp) hb4)
  go_wp2_with fail
  go_at_call 6
  refine (hi_call b w _ hb HT.out H4.out).mono ?_
  rintro r w5 ⟨rfl, hb5⟩
  obtain ⟨c5, H5⟩ := xbox (below_step H4.out (by simp) hb5)
  rw [loS_eq, hiS_eq]
  go_wp2
  go_ret
  exact ⟨rfl, box_far H5.out⟩

set_option maxRecDepth 20000 in
set_option maxHeartbeats 1000000 in
theorem law2_zero (w : World) (hT : Tabs w) : Calls Tryd.prog 3 #[.float .f64 0] w fun r w' => r = .returned (.bool true) ∧ Below w.heap.size w w' := by
  have h' : FloatKind.f64.format.order 0 0 = some .eq := by decide +kernel
  have h2' : FloatKind.f64.format.order 0 14069245235905429504 = some .gt := by decide +kernel
  have h3' : FloatKind.f64.format.order 0 4845873199050653696 = some .lt := by decide +kernel
  have h4' : FloatKind.f64.format.order (floatOfInt .f64 0) 0 = some .eq := by decide +kernel
  have h5' : FloatKind.f64.format.order 0 0 = some .eq := by decide +kernel
  have h6' : FloatKind.f64.format.order 9218868437227405312 0 = some .gt := by decide +kernel
  have hcv := run_convert_float_int (P := Tryd.prog) (w.alloc (.cells #[.float .f64 0] 22)) 22 2 .f64 .i64 0 0 (by kernel_rfl) (by kernel_rfl) (by decide +kernel)
  have hq := fun wx => run_float_arith (P := Tryd.prog) wx .quo 22 .f64 4607182418800017408 0 9218868437227405312 (by decide +kernel)
  have hTb : T 0 = { data := #[48] } := by decide +kernel
  have HT := hid hT
  clear hT
  go_enter Tryd.func3, Tryd.ntmps3
  go_wp2_with (go_at_call 5; refine (itoa_zero _).mono ?_; rintro r w1 ⟨rfl, hb1⟩; obtain ⟨c1, H1⟩ := xbox (below_step (Below.refl (w.heap.size + 1) (w.alloc (.cells #[.float .f64 0] 22))) (by simp) hb1))
  go_at_call 7
  refine (bounds_any _ _ _ _ _).mono ?_
  rintro r w2 ⟨rfl, hb2⟩
  obtain ⟨c2, H2⟩ := xbox (below_step H1.out (by simp) hb2)
  go_wp2_with fail
  go_at_call 6
  refine (lo_call 0 w _ (by decide) HT.out H2.out).mono ?_
  rintro r w3 ⟨rfl, hb3⟩
  obtain ⟨c3, H3⟩ := xbox (below_step H2.out (by simp) hb3)
  go_wp2_with fail
  go_at_call 7
  refine (bounds_any _ _ _ _ _).mono ?_
  rintro r w4 ⟨rfl, hb4⟩
  obtain ⟨c4, H4⟩ := xbox (below_step H3.out (by simp) hb4)
  go_wp2_with fail
  go_at_call 6
  refine (hi_call 0 w _ (by decide) HT.out H4.out).mono ?_
  rintro r w5 ⟨rfl, hb5⟩
  obtain ⟨c5, H5⟩ := xbox (below_step H4.out (by simp) hb5)
  rw [loS_eq, hiS_eq, hTb]
  go_wp2
  go_ret
  exact ⟨rfl, box_far H5.out⟩

set_option maxRecDepth 20000 in
set_option maxHeartbeats 1000000 in
theorem law2_mzero (w : World) (hT : Tabs w) : Calls Tryd.prog 3 #[.float .f64 9223372036854775808] w fun r w' => r = .returned (.bool true) ∧ Below w.heap.size w w' := by
  have h' : FloatKind.f64.format.order 9223372036854775808 9223372036854775808 = some .eq := by decide +kernel
  have h2' : FloatKind.f64.format.order 9223372036854775808 14069245235905429504 = some .gt := by decide +kernel
  have h3' : FloatKind.f64.format.order 9223372036854775808 4845873199050653696 = some .lt := by decide +kernel
  have h4' : FloatKind.f64.format.order (floatOfInt .f64 0) 9223372036854775808 = some .eq := by decide +kernel
  have h5' : FloatKind.f64.format.order 9223372036854775808 0 = some .eq := by decide +kernel
  have h6' : FloatKind.f64.format.order 18442240474082181120 0 = some .lt := by decide +kernel
  have hcv := run_convert_float_int (P := Tryd.prog) (w.alloc (.cells #[.float .f64 9223372036854775808] 22)) 22 2 .f64 .i64 9223372036854775808 0 (by kernel_rfl) (by kernel_rfl) (by decide +kernel)
  have hq := fun wx => run_float_arith (P := Tryd.prog) wx .quo 22 .f64 4607182418800017408 9223372036854775808 18442240474082181120 (by decide +kernel)
  have hTb : T 9223372036854775808 = { data := #[45, 48] } := by decide +kernel
  have HT := hid hT
  clear hT
  go_enter Tryd.func3, Tryd.ntmps3
  go_wp2_with (go_at_call 5; refine (itoa_zero _).mono ?_; rintro r w1 ⟨rfl, hb1⟩; obtain ⟨c1, H1⟩ := xbox (below_step (Below.refl (w.heap.size + 1) (w.alloc (.cells #[.float .f64 9223372036854775808] 22))) (by simp) hb1))
  go_at_call 7
  refine (bounds_any _ _ _ _ _).mono ?_
  rintro r w2 ⟨rfl, hb2⟩
  obtain ⟨c2, H2⟩ := xbox (below_step H1.out (by simp) hb2)
  go_wp2_with fail
  go_at_call 6
  refine (lo_call 9223372036854775808 w _ (by decide) HT.out H2.out).mono ?_
  rintro r w3 ⟨rfl, hb3⟩
  obtain ⟨c3, H3⟩ := xbox (below_step H2.out (by simp) hb3)
  go_wp2_with fail
  go_at_call 7
  refine (bounds_any _ _ _ _ _).mono ?_
  rintro r w4 ⟨rfl, hb4⟩
  obtain ⟨c4, H4⟩ := xbox (below_step H3.out (by simp) hb4)
  go_wp2_with fail
  go_at_call 6
  refine (hi_call 9223372036854775808 w _ (by decide) HT.out H4.out).mono ?_
  rintro r w5 ⟨rfl, hb5⟩
  obtain ⟨c5, H5⟩ := xbox (below_step H4.out (by simp) hb5)
  rw [loS_eq, hiS_eq, hTb]
  go_wp2
  go_ret
  exact ⟨rfl, box_far H5.out⟩

theorem law2_any (b : Nat) (w : World) (hb : b < 18446744073709551616) (hT : Tabs w) : Calls Tryd.prog 3 #[.float .f64 b] w fun r w' => r = .returned (.bool true) ∧ Below w.heap.size w w' := by
  rcases ways b hb with h | ⟨h1, h2⟩ | ⟨h1, h2, h3⟩ | ⟨h1, h2, h3, (rfl | rfl) | ⟨n, h4, h5⟩ | ⟨n, h4⟩⟩
  · exact law2_nan b w h
  · exact law2_lt b w h1 h2
  · exact law2_gt b w h1 h2 h3
  · exact law2_zero w hT
  · exact law2_mzero w hT
  · exact law2_part b w h1 h2 h3 n h4 h5
  · exact law2_whole b n w hb hT h2 h3 h4
end Go.Proofs.Qxb6603897aDoor
