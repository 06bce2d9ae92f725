/-
  The law's walk out of the contracts; the row; the tied card.
-/
import Derived.Test.Qxb6604198aDoorHost
import Derived.Test.Qxb6604198aDoorCards
import Derived.Test.Qxb6604198aDoorTie
import Derived.ProofKit
import Derived.Lay
import Derived.SevenTiedAt
namespace Go.Proofs.Qxb6604198aDoor
open Go.ChangeShapes Go.WideShapes Go.ChangeAt Go.RowKit
open Go.ChangeMaps (open_string shut_string)

set_option maxHeartbeats 400000 in
theorem host_early (s : ByteArray) (w : World) (hs : s.size ≤ maxLen) (h : s.size = 0 ∨ 253 < s.size) :
    Calls Tryd.prog 5 #[.string s] w fun e w' => e = .returned (.bool (resH s)) ∧ Below w.heap.size w w' := by
  unfold maxLen at hs
  by_cases h0 : s.size = 0
  · have X := hid (res_empty s (by omega))
    have hz : ((s.size : Int) == 0) = true := beq_iff_eq.2 (by omega)
    clear h h0
    go_enter Tryd.func5, Tryd.ntmps5
    go_wp2_with fail
    exact bodyPost_ret (v := .bool false) (by simp [results, Tryd.results5, go_sem]) rfl ⟨ret_bool X.out.symm, (Below.refl _ _).alloc (Nat.le_refl _) _⟩
  · have h253 : 253 < s.size := by omega
    have X := hid (res_long s h253)
    have hz : ((s.size : Int) == 0) = false := beq_eq_false_iff_ne.2 (by omega)
    clear h h0
    go_enter Tryd.func5, Tryd.ntmps5
    go_wp2_with fail
    exact bodyPost_ret (v := .bool false) (by simp [results, Tryd.results5, go_sem]) rfl ⟨ret_bool X.out.symm, (Below.refl _ _).alloc (Nat.le_refl _) _⟩

theorem host_any (s : ByteArray) (w : World) (hs : s.size ≤ maxLen) :
    Calls Tryd.prog 5 #[.string s] w fun e w' => e = .returned (.bool (resH s)) ∧ Below w.heap.size w w' := by
  by_cases h : s.size = 0 ∨ 253 < s.size
  · exact host_early s w hs h
  · exact (callsIn_wide (n := 6)).1 (host_in 6 (Nat.le_refl _) s w (by omega) (by omega))

set_option maxHeartbeats 400000 in
theorem law_any (s : ByteArray) (w : World) (hs : s.size ≤ maxLen) :
    Calls Tryd.prog 3 #[.string s] w fun e w' => e = .returned (.bool true) ∧ Below w.heap.size w w' := by
  have H5 := hid (host_any s w hs)
  have H6 := hid fun w1 => scan_any s w1 hs
  have HB0 := fun w1 => bytes_any s w1 hs
  unfold maxLen at hs
  by_cases hbig : s.size ≤ 1048576
  case neg =>
    rw [decide_eq_false hbig] at HB0
    have HB := hid HB0
    clear HB0
    go_enter Tryd.func3, Tryd.ntmps3
    go_wp2_with (go_at_call 4; refine (HB.out _).mono ?_; rintro e w' ⟨rfl, rfl⟩)
    go_ret
    exact ⟨rfl, Below.refl _ _⟩
  rw [decide_eq_true hbig] at HB0
  have HB := hid HB0
  clear HB0
  go_enter Tryd.func3, Tryd.ntmps3
  go_wp2_with (first
    | (go_at_call 4; refine (HB.out _).mono ?_; rintro e w' ⟨rfl, rfl⟩)
    | (go_at_call 5; refine H5.out.mono ?_; rintro e w1 ⟨rfl, hb⟩)
    | (go_at_call 6; refine (H6.out _).mono ?_; rintro e w' ⟨rfl, rfl⟩))
  go_ret
  exact ⟨ret_bool (by simp), by assumption⟩

theorem own : ownKnob Tryd.prog.godebug = none := by kernel_rfl
set_option maxRecDepth 100000 in
theorem lifted (os : Os) (started : os.Started) (H : Type) (enc : TypeId × Value → H) :
    ReturnsInHanded {} Tryd.checked os 3 .any (fun w args => (Rows.fnIsHostNameAgreesWithScannerSpec.pre enc Tryd.prog Tryd.f3 [] false w args ∧ laidMetH Tryd.prog Rows.fnIsHostNameAgreesWithScannerRow.laid w) ∧ sizedMet enc Tryd.prog Tryd.f3 (OpenSpec.ofChange Rows.fnIsHostNameAgreesWithScannerSpec) false w args)
      (Rows.fnIsHostNameAgreesWithScannerSpec.post enc Tryd.prog Tryd.f3 false true false false) := by
  refine returnsInHanded_of_change_and (C := Tryd.checked) (X := fun w _ => laidMetH Tryd.prog Rows.fnIsHostNameAgreesWithScannerRow.laid w) (fun _ _ _ hh h => h.of_heap hh) own started (by kernel_rfl) Tryd.func3
    (ChangeSpec.witness_shaped (enc := enc) (C := Tryd.checked) (os := os) (X := fun w _ => laidMetH Tryd.prog Rows.fnIsHostNameAgreesWithScannerRow.laid w) false (World.laidAll Tryd.prog os Rows.fnIsHostNameAgreesWithScannerRow.laid) #[.string ByteArray.empty] 8 (World.laidAll_os _ _ _)
      (World.shaped_of_ZipB (by kernel_rfl) (by kernel_rfl)) (by kernel_rfl) (by kernel_rfl) (by kernel_rfl)
      (by rw [MakeChecks.laidMetH_plain _ _ _ (by kernel_rfl)]; exact laidMet_laidAll _ (by kernel_rfl) (by kernel_rfl))) ?_
  intro W base args ds gs before hval0 hW _ _ _ _
  have hval : ∀ (j : Nat) t v, Tryd.f3.params[j]? = some t → args[j]? = some v → Value.okWide Tryd.prog W .any base t v := hval0
  have hW' := hW
  obtain ⟨p, q, hA0, hV, rfl, _, _⟩ := hW
  have hA : DataW.TrodAll enc Tryd.prog W 0 (fun _ => true) true Tryd.f3.params.toList args.toList ds p := hA0
  rw [Tryd.params3] at hA hval
  obtain ⟨v0, d0, rfl, rfl, h0⟩ := trodAll_one hA
  obtain ⟨rfl, rfl⟩ := trodVars_none hV
  obtain ⟨s, rfl, rfl, rfl, ws⟩ := open_string Tryd.underlying9 (hval 0 9 v0 rfl rfl) h0
  simp only [List.append_nil] at hW'
  refine (law_any s W ws).mono fun e W' ⟨he, hb⟩ => ?_
  subst he
  exact ⟨_, rfl, _, _, _, [], [], [], hW', trodAll_mk1 (shut_bool Tryd.underlying4 _), trodAll_mk1 (shut_string Tryd.underlying9 ws), rfl, hb.frame _, fun h => by cases h⟩

theorem holds : Rows.FnIsHostNameAgreesWithScannerSaid :=
  OpenClaim.holds_of_wide 3 Tryd.f3 rfl rfl rfl rfl rfl rfl rfl ⟨rfl, rfl, rfl, rfl, rfl⟩ rfl rfl rfl rfl rfl (by kernel_rfl) Tryd.func3 (by kernel_rfl)
    (of_decide_eq_true (by kernel_rfl)) (by unfold Func.isWrapper; first | (rw [if_pos (by decide +kernel)]; kernel_rfl) | (rw [if_neg (by decide +kernel)]; exact ⟨rfl, rfl⟩))
    (fun os started H enc _ => lifted os started H enc)

theorem card_holds : Rows.FnIsHostNameAgreesWithScannerCardSaid :=
  Claim7.holds_tied_plain_at .later [] [.data, .pinned] true _ false holds (fun _ h => by cases h) (by kernel_rfl) (fun _ h => by cases h) fnIsHostNameAgreesWithScanner_row_tie rfl ⟨rfl, rfl⟩ (by kernel_rfl) rfl
    (fun f fn hf hfn => by
      obtain rfl : f = 3 := Option.some.inj ((show Tryd.prog.funcNamed Tryd.f3.name = some 3 by kernel_rfl).symm.trans hf) |>.symm
      obtain rfl : fn = Tryd.f3 := (Option.some.inj (Tryd.func3.symm.trans hfn)).symm
      exact ⟨by kernel_rfl, fun j t ht => by
        rw [Tryd.params3] at ht
        have hm : t ∈ [9] := by simpa using Array.mem_of_getElem? ht
        have hall : ([9].all fun u => !Tryd.prog.wantsStandIn u) = true := by kernel_rfl
        exact (show Tryd.prog.wantsStandIn t = false by simpa using List.all_eq_true.1 hall t hm)⟩)
    (by kernel_rfl)
end Go.Proofs.Qxb6604198aDoor
