/-
  Statement 2: the row; the tied card.
-/
import Derived.Test.Qxb6603897aDoorLaw2
import Derived.Test.Qxb6603897aDoorTabs
import Derived.Test.Qxb6603897aDoorCards
import Derived.Test.Qxb6603897aDoorTie
import Derived.ProofKit
import Derived.Lay
import Derived.SevenTiedAt
namespace Go.Proofs.Qxb6603897aDoor
open Go.ChangeShapes Go.WideShapes Go.ChangeAt Go.RowKit

theorem own : ownKnob Tryd.prog.godebug = none := by kernel_rfl
set_option maxRecDepth 100000 in
theorem lifted (os : Os) (started : os.Started) (H : Type) (enc : TypeId × Value → H) :
    ReturnsInHanded {} Tryd.checked os 3 .any (fun w args => (Rows.fnSpanWholeNumbersInDigitsSpec.pre enc Tryd.prog Tryd.f3 [] false w args ∧ laidMetH Tryd.prog Rows.fnSpanWholeNumbersInDigitsRow.laid w) ∧ sizedMet enc Tryd.prog Tryd.f3 (OpenSpec.ofChange Rows.fnSpanWholeNumbersInDigitsSpec) false w args)
      (Rows.fnSpanWholeNumbersInDigitsSpec.post enc Tryd.prog Tryd.f3 false true false false) := by
  refine returnsInHanded_of_change_and (C := Tryd.checked) (X := fun w _ => laidMetH Tryd.prog Rows.fnSpanWholeNumbersInDigitsRow.laid w) (fun _ _ _ hh h => h.of_heap hh) own started (by kernel_rfl) Tryd.func3
    (ChangeSpec.witness_shaped (enc := enc) (C := Tryd.checked) (os := os) (X := fun w _ => laidMetH Tryd.prog Rows.fnSpanWholeNumbersInDigitsRow.laid w) false (World.laidAll Tryd.prog os Rows.fnSpanWholeNumbersInDigitsRow.laid) #[.float .f64 0] 8 (World.laidAll_os _ _ _)
      (World.shaped_of_ZipB (by kernel_rfl) (by kernel_rfl)) (by kernel_rfl) (by kernel_rfl) (by kernel_rfl)
      (by rw [MakeChecks.laidMetH_plain _ _ _ (by kernel_rfl)]; exact laidMet_laidAll _ (by kernel_rfl) (by kernel_rfl))) ?_
  intro W base args ds gs before hval0 hW _ _ hL _
  have hval : ∀ (j : Nat) t v, Tryd.f3.params[j]? = some t → args[j]? = some v → Value.okWide Tryd.prog W .any base t v := hval0
  have hW' := hW
  obtain ⟨p, q, hA0, hV, rfl, _, _⟩ := hW
  have hA : DataW.TrodAll enc Tryd.prog W 0 (fun _ => true) true Tryd.f3.params.toList args.toList ds p := hA0
  rw [Tryd.params3] at hA hval
  obtain ⟨v0, d0, rfl, rfl, h0⟩ := trodAll_one hA
  obtain ⟨rfl, rfl⟩ := trodVars_none hV
  obtain ⟨b, rfl, rfl, rfl, wb⟩ := open_float Tryd.underlying22 (hval 0 22 v0 rfl rfl) h0
  simp only [List.append_nil] at hW'
  have hb : b < 18446744073709551616 := by simpa [Lit.wf] using wb
  rw [MakeChecks.laidMetH_plain _ _ _ (by kernel_rfl)] at hL
  have hT : Tabs W := tabs_of (Lib.laidMet.reads hL (by simp [Rows.fnSpanWholeNumbersInDigitsRow])) (Lib.laidMet.reads hL (by simp [Rows.fnSpanWholeNumbersInDigitsRow]))
  refine (law2_any b W hb hT).mono fun e W' ⟨he, hB⟩ => ?_
  subst he
  exact ⟨_, rfl, _, _, _, [], [], [], hW', trodAll_mk1 (shut_bool Tryd.underlying4 _), trodAll_mk1 (shut_float Tryd.underlying22 wb), rfl, hB.frame _, fun h => by cases h⟩

theorem holds : Rows.FnSpanWholeNumbersInDigitsSaid :=
  OpenClaim.holds_of_wide 3 Tryd.f3 rfl rfl rfl rfl rfl rfl rfl ⟨rfl, rfl, rfl, rfl, rfl⟩ rfl rfl rfl rfl rfl (by kernel_rfl) Tryd.func3 (by kernel_rfl)
    (of_decide_eq_true (by kernel_rfl)) (by unfold Func.isWrapper; first | (rw [if_pos (by decide +kernel)]; kernel_rfl) | (rw [if_neg (by decide +kernel)]; exact ⟨rfl, rfl⟩))
    (fun os started H enc _ => lifted os started H enc)

theorem card_holds : Rows.FnSpanWholeNumbersInDigitsCardSaid :=
  Claim7.holds_tied_plain_at .later [] [.data, .data, .data, .data, .pinned, .pinned] true _ false holds (fun _ h => by cases h) (by kernel_rfl) (fun _ h => by cases h) fnSpanWholeNumbersInDigits_row_tie rfl ⟨rfl, rfl⟩ (by kernel_rfl) rfl
    (fun f fn hf hfn => by
      obtain rfl : f = 3 := Option.some.inj ((show Tryd.prog.funcNamed Tryd.f3.name = some 3 by kernel_rfl).symm.trans hf) |>.symm
      obtain rfl : fn = Tryd.f3 := (Option.some.inj (Tryd.func3.symm.trans hfn)).symm
      exact ⟨by kernel_rfl, fun j t ht => by
        rw [Tryd.params3] at ht
        have hm : t ∈ [22] := by simpa using Array.mem_of_getElem? ht
        have hall : ([22].all fun u => !Tryd.prog.wantsStandIn u) = true := by kernel_rfl
        exact (show Tryd.prog.wantsStandIn t = false by simpa using List.all_eq_true.1 hall t hm)⟩)
    (by kernel_rfl)
end Go.Proofs.Qxb6603897aDoor
