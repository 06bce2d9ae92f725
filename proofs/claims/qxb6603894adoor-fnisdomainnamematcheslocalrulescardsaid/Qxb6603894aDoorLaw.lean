/-
  The law's walk out of the contracts; the row; the tied card.
-/
import Derived.Test.Qxb6603894aDoorModel
import Derived.Test.Qxb6603894aDoorDom
import Derived.Test.Qxb6603894aDoorCards
import Derived.Test.Qxb6603894aDoorTie
import Derived.ProofKit
import Derived.HandedShaped
import Derived.Lay
import Derived.SevenTiedAt
namespace Go.Proofs.Qxb6603894aDoor
open Go.ChangeShapes Go.WideShapes Go.ChangeAt Go.RowKit
open Go.ChangeMaps (open_string shut_string)

theorem same (s : ByteArray) : resD s = resB s := by
  unfold resD resB
  rw [agree _ (bs s) (Nat.le_refl _)]

set_option maxHeartbeats 400000 in
theorem zz_any (s : ByteArray) (w : World) (hsh : w.ShapedOpen Tryd.prog) (hs : s.size ≤ maxLen) :
    Calls Tryd.prog 5 #[.string s] w fun e w' => e = .returned (.bool (resB s)) ∧ Below w.heap.size w w' := by
  have H : Hid (Calls Tryd.prog 7 #[.string s] w fun e w' => e = .returned (.bool (resB s)) ∧ Below w.heap.size w w') := by
    have := dom_any s w hsh hs
    rw [same] at this
    exact this
  clear hsh
  go_enter Tryd.func5, Tryd.ntmps5
  go_wp2_with (go_at_call 7; refine H.out.mono ?_; rintro e w' ⟨rfl, hb⟩)
  go_ret
  exact ⟨rfl, hb⟩

set_option maxHeartbeats 400000 in
theorem law_any (s : ByteArray) (w : World) (hsh : w.ShapedOpen Tryd.prog) (hs : s.size ≤ maxLen) :
    Calls Tryd.prog 3 #[.string s] w fun e w' => e = .returned (.bool true) ∧ Below w.heap.size w w' := by
  have H5 := zz_any s w hsh hs
  have H6 := fun w1 => model_any s w1 hs
  have HB := fun w1 => bytes_any s w1 hs
  clear hsh
  unfold maxLen at hs
  by_cases hbig : s.size ≤ 1048576
  case neg =>
    have d : decide (s.size ≤ 1048576) = false := decide_eq_false hbig
    rw [d] at HB
    have H : Hid (∀ w1, Calls Tryd.prog 4 #[.string s] w1 fun e w' => e = .returned (.bool false) ∧ w' = w1) := HB
    clear HB H5 H6 d
    go_enter Tryd.func3, Tryd.ntmps3
    go_wp2_with (go_at_call 4; refine (H.out _).mono ?_; rintro e w' ⟨rfl, rfl⟩)
    go_ret
    exact ⟨rfl, Below.refl _ _⟩
  have d : decide (s.size ≤ 1048576) = true := decide_eq_true hbig
  rw [d] at HB
  have H : Hid (∀ w1, Calls Tryd.prog 4 #[.string s] w1 fun e w' => e = .returned (.bool true) ∧ w' = w1) := HB
  have H5' : Hid (Calls Tryd.prog 5 #[.string s] w fun e w' => e = .returned (.bool (resB s)) ∧ Below w.heap.size w w') := H5
  have H6' : Hid (∀ w1, Calls Tryd.prog 6 #[.string s] w1 fun e w' => e = .returned (.bool (resB s)) ∧ w' = w1) := H6
  clear HB H5 H6 d
  by_cases h16 : s.size ≤ 65536
  case neg =>
    go_enter Tryd.func3, Tryd.ntmps3
    go_wp2_with (go_at_call 4; refine (H.out _).mono ?_; rintro e w' ⟨rfl, rfl⟩)
    go_ret
    exact ⟨rfl, Below.refl _ _⟩
  go_enter Tryd.func3, Tryd.ntmps3
  go_wp2_with (first
    | (go_at_call 4; refine (H.out _).mono ?_; rintro e w' ⟨rfl, rfl⟩)
    | (go_at_call 5; refine H5'.out.mono ?_; rintro e w1 ⟨rfl, hb⟩)
    | (go_at_call 6; refine (H6'.out _).mono ?_; rintro e w' ⟨rfl, rfl⟩))
  go_ret
  exact ⟨ret_bool (by simp), by assumption⟩

section
variable {H : Type} {enc : TypeId × Value → H}
/-- The plain wrap with a condition on memory AND the world's shape handed on. -/
theorem handed_and_shaped {a : Assume} {C : Checked} {os : Os} {f : FuncId} {fn : Func} {s : ChangeSpec} {conds : List PathCond} {apart fresh handsOn again : Bool} {X : World → Array Value → Prop}
    (hX : ∀ (w w' : World) (args : Array Value), w.heap = w'.heap → X w args → X w' args)
    (own : ownKnob C.prog.godebug = none) (started : os.Started) (noInit : C.prog.inits.idxOf? f = none) (hfn : C.prog.funcs[f]? = some fn)
    (witness : ∃ (w : World) (tape : Tape) (i : Input), w.os = os ∧ (w.forCall tape i).Shaped C.prog ∧ i.vars = [] ∧ Input.okWide C.prog (w.forCall tape i) .any w.heap.size f i ∧
      ((s.pre enc C.prog fn conds apart (w.forCall tape i).memory i.args ∧ X (w.forCall tape i).memory i.args) ∧ sizedMet enc C.prog fn (OpenSpec.ofChange s) apart (w.forCall tape i).memory i.args) ∧ a.holds C.prog (lone (Frame.enter C.prog f i.args .normal) [] (w.forCall tape i)))
    (contract : ∀ (W : World) (base : Nat) (args : Array Value) (ds gs : List (DataW H)) (before : List MemPlace),
      (∀ (j : Nat) t v, fn.params[j]? = some t → args[j]? = some v → Value.okWide C.prog W .any base t v) →
      DataW.Whole enc C.prog fn.params.toList s.vars apart W args.toList ds gs before →
      X W args → W.ShapedOpen C.prog →
      Calls C.prog f args W fun e W' => ∃ v, e = .returned v ∧ s.post enc C.prog fn apart fresh handsOn again W args v W') :
    ReturnsInHanded a C os f .any (fun w args => (s.pre enc C.prog fn conds apart w args ∧ X w args) ∧ sizedMet enc C.prog fn (OpenSpec.ofChange s) apart w args) (s.post enc C.prog fn apart fresh handsOn again) := by
  refine returnsInHanded_of_calls own started noInit witness ?_
  intro w tape i _ hsh _ hok hpre _
  obtain ⟨_, _, _, fn', hfn', _, _, _, _, hval⟩ := hok
  have e : fn' = fn := Option.some.inj (hfn'.symm.trans hfn)
  subst e
  obtain ⟨⟨⟨ds, gs, before, hw, _⟩, hx⟩, _⟩ := hpre
  have hw' := DataW.Whole.of_heap (w' := w.forCall tape i) (by rfl) hw
  refine (contract (w.forCall tape i) w.heap.size i.args ds gs before hval hw' (hX _ _ _ (by rfl) hx) hsh).mono fun e W' ⟨v, he, hp⟩ => ?_
  subst he
  exact ChangeSpec.post_blind hp
end

theorem own : ownKnob Tryd.prog.godebug = none := by kernel_rfl
set_option maxRecDepth 100000 in
theorem lifted (os : Os) (started : os.Started) (H : Type) (enc : TypeId × Value → H) :
    ReturnsInHanded {} Tryd.checked os 3 .any (fun w args => (Rows.fnIsDomainNameMatchesLocalRulesSpec.pre enc Tryd.prog Tryd.f3 [] false w args ∧ laidMetH Tryd.prog Rows.fnIsDomainNameMatchesLocalRulesRow.laid w) ∧ sizedMet enc Tryd.prog Tryd.f3 (OpenSpec.ofChange Rows.fnIsDomainNameMatchesLocalRulesSpec) false w args)
      (Rows.fnIsDomainNameMatchesLocalRulesSpec.post enc Tryd.prog Tryd.f3 false true false false) := by
  refine handed_and_shaped (C := Tryd.checked) (X := fun w _ => laidMetH Tryd.prog Rows.fnIsDomainNameMatchesLocalRulesRow.laid w) (fun _ _ _ hh h => h.of_heap hh) own started (by kernel_rfl) Tryd.func3
    (ChangeSpec.witness_shaped (enc := enc) (C := Tryd.checked) (os := os) (X := fun w _ => laidMetH Tryd.prog Rows.fnIsDomainNameMatchesLocalRulesRow.laid w) false (World.laidAll Tryd.prog os Rows.fnIsDomainNameMatchesLocalRulesRow.laid) #[.string ByteArray.empty] 8 (World.laidAll_os _ _ _)
      (World.shaped_of_ZipB (by kernel_rfl) (by kernel_rfl)) (by kernel_rfl) (by kernel_rfl) (by kernel_rfl)
      (by rw [MakeChecks.laidMetH_plain _ _ _ (by kernel_rfl)]; exact laidMet_laidAll _ (by kernel_rfl) (by kernel_rfl))) ?_
  intro W base args ds gs before hval0 hW _ hsh
  have hval : ∀ (j : Nat) t v, Tryd.f3.params[j]? = some t → args[j]? = some v → Value.okWide Tryd.prog W .any base t v := hval0
  have hW' := hW
  obtain ⟨p, q, hA0, hV, rfl, _, _⟩ := hW
  have hA : DataW.TrodAll enc Tryd.prog W 0 (fun _ => true) true Tryd.f3.params.toList args.toList ds p := hA0
  rw [Tryd.params3] at hA hval
  obtain ⟨v0, d0, rfl, rfl, h0⟩ := trodAll_one hA
  obtain ⟨rfl, rfl⟩ := trodVars_none hV
  obtain ⟨s, rfl, rfl, rfl, ws⟩ := open_string Tryd.underlying9 (hval 0 9 v0 rfl rfl) h0
  simp only [List.append_nil] at hW'
  refine (law_any s W hsh ws).mono fun e W' ⟨he, hb⟩ => ?_
  subst he
  exact ⟨_, rfl, _, _, _, [], [], [], hW', trodAll_mk1 (shut_bool Tryd.underlying4 _), trodAll_mk1 (shut_string Tryd.underlying9 ws), rfl, hb.frame _, fun h => by cases h⟩

theorem holds : Rows.FnIsDomainNameMatchesLocalRulesSaid :=
  OpenClaim.holds_of_wide 3 Tryd.f3 rfl rfl rfl rfl rfl rfl rfl ⟨rfl, rfl, rfl, rfl, rfl⟩ rfl rfl rfl rfl rfl (by kernel_rfl) Tryd.func3 (by kernel_rfl)
    (of_decide_eq_true (by kernel_rfl)) (by unfold Func.isWrapper; first | (rw [if_pos (by decide +kernel)]; kernel_rfl) | (rw [if_neg (by decide +kernel)]; exact ⟨rfl, rfl⟩))
    (fun os started H enc _ => lifted os started H enc)

theorem card_holds : Rows.FnIsDomainNameMatchesLocalRulesCardSaid :=
  Claim7.holds_tied_plain_at .later [] [.data, .pinned] true _ false holds (fun _ h => by cases h) (by kernel_rfl) (fun _ h => by cases h) fnIsDomainNameMatchesLocalRules_row_tie rfl ⟨rfl, rfl⟩ (by kernel_rfl) rfl
    (fun f fn hf hfn => by
      obtain rfl : f = 3 := Option.some.inj ((show Tryd.prog.funcNamed Tryd.f3.name = some 3 by kernel_rfl).symm.trans hf) |>.symm
      obtain rfl : fn = Tryd.f3 := (Option.some.inj (Tryd.func3.symm.trans hfn)).symm
      exact ⟨by kernel_rfl, fun j t ht => by
        rw [Tryd.params3] at ht
        have hm : t ∈ [9] := by simpa using Array.mem_of_getElem? ht
        have hall : ([9].all fun u => !Tryd.prog.wantsStandIn u) = true := by kernel_rfl
        exact (show Tryd.prog.wantsStandIn t = false by simpa using List.all_eq_true.1 hall t hm)⟩)
    (by kernel_rfl)
end Go.Proofs.Qxb6603894aDoor
