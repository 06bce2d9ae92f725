/-
  The walks of FormatFloat (the library's two) and of number: the text of a word.
-/
import Derived.Test.Qxb6603897aDoorFtoa2
import Derived.Laws.BytesArg
import Derived.Laws.MakeOwn
namespace Go.Proofs.Qxb6603897aDoor
open Go.RowKit

/-- The text of a float64 by its bits. -/
def textOf (b : Nat) : List Int :=
  if exOf b = 2047 then specT b
  else if m0Of b = 0 then sgnT (negOf b) ++ [48]
  else finT (negOf b) (shortD (m1Of b) (e1Of b)).1 (shortD (m1Of b) (e1Of b)).2

theorem ftoa_any (b B : Nat) (v : Value) (w0 w : World) (hb : b < 18446744073709551616) (hT : Tabs w)
    (hown : w.ownsRow B 5 1 v 0 []) (hlt : ∀ k, v.ownBlock = some k → k < w.heap.size) (hB : Below B w0 w) (hBs : B ≤ w.heap.size) (h4 : 4 ≤ B) :
    Calls Tryd.prog 25 #[v, .float .f64 b, .int .u8 102, .int .i64 (-1)] w fun r w' => ∃ v' sb D, r = .returned v' ∧ Hid (Outs B sb D w0 w' v' (textOf b)) := by
  unfold textOf
  by_cases hx : exOf b = 2047
  · rw [if_pos hx]
    exact ftoa_spec b B v w0 w hb hx hown hB hBs h4
  · rw [if_neg hx]
    by_cases hm : m0Of b = 0
    · rw [if_pos hm]
      have h0 : exOf b = 0 := by
        unfold m0Of at hm
        split at hm
        · assumption
        · omega
      have h1 : mantOf b = 0 := by
        unfold m0Of at hm
        rw [if_pos h0] at hm
        exact hm
      exact ftoa_zero b B v w0 w hb h0 h1 hown hB hBs h4
    · rw [if_neg hm]
      exact ftoa_fin b B v w0 w hb hx hm hT hown hlt hB hBs

theorem own_conv {B sb : Nat} {D xs : List Int} {w w' : World} {v : Value} (h : Outs B sb D w w' v xs) : ∃ a n c, v = .slice a n c ∧ (convert 37 9 (.slice a n c)).run Tryd.prog w' = .ok (.string (strOfNums xs)) w' := by
  rcases h.own.2 with ⟨rfl, h0⟩ | ⟨g, cap, cur, rfl, h1, h2, h3, h4, h5, h6⟩
  · refine ⟨none, 0, 0, rfl, ?_⟩
    rw [run_convert_bytes_nil w' 37 5 Tryd.underlying37 Tryd.underlying5 0 0 9 Tryd.underlying9]
    rw [List.eq_nil_of_length_eq_zero h0]
    rfl
  · refine ⟨some ⟨g, 0, none⟩, xs.length, cap, rfl, ?_⟩
    refine run_convert_bytes_arg w' 37 5 Tryd.underlying37 Tryd.underlying5 g 0 xs.length cap xs rfl (fun i hi => ?_) 9 Tryd.underlying9
    have := h.own.cellAt i (by omega)
    rw [Nat.zero_add, this]
    simp [List.getD_eq_getElem?_getD, hi]

set_option maxRecDepth 20000 in
set_option maxHeartbeats 400000 in
theorem format_any (b : Nat) (w : World) (hb : b < 18446744073709551616) (hT : Tabs w) :
    Calls Tryd.prog 21 #[.float .f64 b, .int .u8 102, .int .i64 (-1), .int .i64 64] w fun r w' => r = .returned (.string (strOfNums (textOf b))) ∧ Below w.heap.size w w' := by
  have h3 := hT.h3
  have HT := hid hT
  clear hT
  go_enter Tryd.func21, Tryd.ntmps21
  go_wp2_with fail
  obtain ⟨i0, hi, hz0, hz1, hz2⟩ := info_parts Tryd.info5
  obtain ⟨w1, hr, hown, hgrow⟩ := run_make_own (P := Tryd.prog) w w.heap.size 37 5 i0 (.int .u8 0) 1 Tryd.underlying37 hi hz0 hz1 .i64 .i64 24 (by rw [hz2]; decide) (by unfold maxLen; decide) (Nat.le_refl _)
  rw [show (max 3 24 : Int) = ((24 : Nat) : Int) from rfl, hr]
  simp only [Result.andThen]
  rw [Oper.upon_value]
  have hb1 : Below w.heap.size w w1 := (Below.refl _ _).grown hgrow (Nat.le_refl _) (fun k hk => by cases hk)
  have HC := hid (ftoa_any b w.heap.size (.slice (some ⟨w.heap.size, 0, none⟩) 0 24) w w1 hb (HT.out.below hb1 (by omega)) hown (fun k hk => (hown.lt k hk).2) hb1 hb1.size (by omega))
  clear hr hown hgrow hb1
  go_wp2_with fail
  refine HC.out.mono ?_
  rintro r w2 ⟨v', sb, D, rfl, HO⟩
  obtain ⟨a, n, c, rfl, hconv⟩ := own_conv HO.out
  have HV := hid hconv
  clear hconv
  go_wp2_with fail
  rw [HV.out]
  simp only [Result.andThen]
  rw [Oper.upon_value]
  go_wp2_with fail
  go_ret
  exact ⟨rfl, HO.out.below⟩

set_option maxHeartbeats 400000 in
theorem number_any (b : Nat) (w : World) (hb : b < 18446744073709551616) (hT : Tabs w) :
    Calls Tryd.prog 15 #[.float .f64 b] w fun r w' => r = .returned (.string (strOfNums (textOf b))) ∧ Below w.heap.size w w' := by
  have HF := hid (format_any b w hb hT)
  have HG := hid (show Calls Tryd.prog 17 #[.float .f64 b, .int .u8 102, .int .i64 (-1), .int .i64 64] w fun r w' => r = .returned (.string (strOfNums (textOf b))) ∧ Below w.heap.size w w' by
    clear hT
    go_enter Tryd.func17, Tryd.ntmps17
    go_wp2_with fail
    refine HF.out.mono ?_
    rintro r w2 ⟨rfl, hb2⟩
    go_wp2_with fail
    go_ret
    exact ⟨rfl, hb2⟩)
  clear hT HF
  go_enter Tryd.func15, Tryd.ntmps15
  go_wp2_with fail
  refine HG.out.mono ?_
  rintro r w2 ⟨rfl, hb2⟩
  go_wp2_with fail
  go_ret
  exact ⟨rfl, hb2⟩
end Go.Proofs.Qxb6603897aDoor
