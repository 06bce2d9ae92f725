/-
  Statement 3: the row; the tied card.
-/
import Derived.Test.Qxb6603897aDoorLaw3b
import Derived.Test.Qxb6603897aDoorTabs
import Derived.Test.Qxb6603897aDoorCards
import Derived.Test.Qxb6603897aDoorTie
import Derived.ProofKit
import Derived.OpenShut
import Derived.Lay
import Derived.SevenTiedAt
namespace Go.Proofs.Qxb6603897aDoor
open Go.ChangeShapes Go.WideShapes Go.ChangeAt Go.RowKit
open Go.ChangeMaps (open_string shut_string)

section
variable {H : Type} {enc : TypeId × Value → H} {P : Program}
theorem trod_float {w : World} {base : Nat} {spare : Nat → Bool} {held : Bool} {fuel : Nat} {e : TypeId} {cs : List Value} {x : DataW H × List MemPlace} (he : P.underlying e = some (.float .f64))
    (h : DataW.trod enc P w base spare held fuel e cs = some x) : ∃ n, cs = [.float .f64 n] ∧ x = (.lit (.float .f64 n), []) ∧ (Lit.float .f64 n).wf = true := by
  cases fuel with
  | zero => simp [DataW.trod] at h
  | succ n =>
    unfold DataW.trod at h
    rw [he] at h
    split at h <;> simp_all

/-- A pointer to a float64, or nil, as an argument. -/
theorem ptr_arg {W : World} {base : Nat} {t e : TypeId} {v : Value} {d : DataW H} {ps : List MemPlace} (ht : P.underlying t = some (.pointer e)) (he : P.underlying e = some (.float .f64)) (hce : P.cellsOf e = 1)
    (hval : Value.okWide P W .any base t v) (hd : DataW.Trod enc P W 0 (fun _ => true) true t v d ps) :
    ∃ p m, v = .pointer p ∧ Pt W p m ∧ (∀ W', Below W.heap.size W W' → DataW.Trod enc P W' 0 (fun b => decide (b < W.heap.size)) true t v d ps) ∧
      (∀ a, p = some a → ∃ b off, a = ⟨b, off, none⟩ ∧ MemPlace.cell b off ∈ ps) := by
  rcases open_ptr ht (by omega) hval hd with ⟨rfl, rfl, rfl⟩ | ⟨b, off, cs, y, fuel, rfl, rfl, rfl, _, hcell, hy⟩
  · exact ⟨none, none, rfl, trivial, fun W' _ => shut_ptr_nil ht, fun a ha => by cases ha⟩
  · obtain ⟨n, rfl, rfl, hw⟩ := trod_float he hy
    have hc : W.cell? ⟨b, off, none⟩ = some (.float .f64 n) := hcell 0 (by omega)
    have hlt := World.block_lt_of_cell? W _ hc
    have hn : n < 18446744073709551616 := by simpa [Lit.wf] using hw
    refine ⟨some ⟨b, off, none⟩, some n, rfl, ⟨hc, hlt, hn⟩, fun W' hb => ?_, fun a ha => ?_⟩
    · refine shut_ptr (fuel := 1) (y := (.lit (.float .f64 n), [])) (cs := [.float .f64 n]) ht (Nat.zero_le _) (by rw [hce]; rfl) (fun i hi => ?_) ?_
      · rw [hce] at hi
        obtain rfl : i = 0 := by omega
        exact (hb.cell hlt).trans hc
      · simp [DataW.trod, he, hw]
    · cases ha
      refine ⟨b, off, rfl, ?_⟩
      rw [hce, row_one]
      simp
end
theorem cells22 : Tryd.prog.cellsOf 22 = 1 := by kernel_rfl

theorem own : ownKnob Tryd.prog.godebug = none := by kernel_rfl
set_option maxRecDepth 100000 in
theorem lifted (os : Os) (started : os.Started) (H : Type) (enc : TypeId × Value → H) :
    ReturnsInHanded {} Tryd.checked os 4 .any (fun w args => (Rows.fnOfEndsInUnitSpec.pre enc Tryd.prog Tryd.f4 [] false w args ∧ laidMetH Tryd.prog Rows.fnOfEndsInUnitRow.laid w) ∧ sizedMet enc Tryd.prog Tryd.f4 (OpenSpec.ofChange Rows.fnOfEndsInUnitSpec) false w args)
      (Rows.fnOfEndsInUnitSpec.post enc Tryd.prog Tryd.f4 false true false false) := by
  refine returnsInHanded_of_change_and (C := Tryd.checked) (X := fun w _ => laidMetH Tryd.prog Rows.fnOfEndsInUnitRow.laid w) (fun _ _ _ hh h => h.of_heap hh) own started (by kernel_rfl) Tryd.func4
    (ChangeSpec.witness_shaped (enc := enc) (C := Tryd.checked) (os := os) (X := fun w _ => laidMetH Tryd.prog Rows.fnOfEndsInUnitRow.laid w) false (World.laidAll Tryd.prog os Rows.fnOfEndsInUnitRow.laid) #[.pointer none, .pointer none, .bool false, .bool false, .string ByteArray.empty] 8 (World.laidAll_os _ _ _)
      (World.shaped_of_ZipB (by kernel_rfl) (by kernel_rfl)) (by kernel_rfl) (by kernel_rfl) (by kernel_rfl)
      (by rw [MakeChecks.laidMetH_plain _ _ _ (by kernel_rfl)]; exact laidMet_laidAll _ (by kernel_rfl) (by kernel_rfl))) ?_
  intro W base args ds gs before hval0 hW _ _ hL _
  have hval : ∀ (j : Nat) t v, Tryd.f4.params[j]? = some t → args[j]? = some v → Value.okWide Tryd.prog W .any base t v := hval0
  have hW' := hW
  obtain ⟨p, q, hA0, hV, rfl, hnf, _⟩ := hW
  have hA : DataW.TrodAll enc Tryd.prog W 0 (fun _ => true) true Tryd.f4.params.toList args.toList ds p := hA0
  rw [Tryd.params4] at hA hval
  obtain ⟨v0, vs0, d0, ds0, p0, q0, hargs, rfl, rfl, h0, r0⟩ := trodAll_cons hA
  obtain ⟨v1, vs1, d1, ds1, p1, q1, rfl, rfl, rfl, h1, r1⟩ := trodAll_cons r0
  obtain ⟨v2, vs2, d2, ds2, p2, q2, rfl, rfl, rfl, h2, r2⟩ := trodAll_cons r1
  obtain ⟨v3, vs3, d3, ds3, p3, q3, rfl, rfl, rfl, h3, r3⟩ := trodAll_cons r2
  obtain ⟨v4, vs4, d4, ds4, p4, q4, rfl, rfl, rfl, h4, r4⟩ := trodAll_cons r3
  obtain ⟨rfl, rfl, rfl⟩ := trodAll_nil r4
  obtain rfl : args = #[v0, v1, v2, v3, v4] := by cases args; simp_all
  obtain ⟨rfl, rfl⟩ := trodVars_none hV
  obtain ⟨a0, m0, rfl, t0, s0, f0⟩ := ptr_arg Tryd.underlying25 Tryd.underlying22 cells22 (hval 0 25 v0 rfl rfl) h0
  obtain ⟨a1, m1, rfl, t1, s1, _⟩ := ptr_arg Tryd.underlying25 Tryd.underlying22 cells22 (hval 1 25 v1 rfl rfl) h1
  obtain ⟨x1, rfl, rfl, rfl⟩ := open_bool Tryd.underlying4 (hval 2 4 v2 rfl rfl) h2
  obtain ⟨x2, rfl, rfl, rfl⟩ := open_bool Tryd.underlying4 (hval 3 4 v3 rfl rfl) h3
  obtain ⟨u, rfl, rfl, rfl, wu⟩ := open_string Tryd.underlying9 (hval 4 9 v4 rfl rfl) h4
  rw [MakeChecks.laidMetH_plain _ _ _ (by kernel_rfl)] at hL
  have hT : Tabs W := tabs_of (Lib.laidMet.reads hL (by simp [Rows.fnOfEndsInUnitRow])) (Lib.laidMet.reads hL (by simp [Rows.fnOfEndsInUnitRow]))
  have hfz : ∀ a, a0 = some a → W.frozen? a = false := fun a ha => by
    obtain ⟨b, off, rfl, hmem⟩ := f0 a ha
    exact hnf b off (by simp [hmem])
  refine (law3_any a0 a1 m0 m1 x1 x2 u W t0 t1 hfz wu hT).mono fun e W' ⟨he, hB⟩ => ?_
  subst he
  exact ⟨_, rfl, _, _, _, [], _, [], hW', trodAll_mk1 (shut_bool Tryd.underlying4 _),
    trodAll_cons_mk (s0 W' hB) (trodAll_cons_mk (s1 W' hB) (trodAll_cons_mk (shut_bool Tryd.underlying4 _) (trodAll_cons_mk (shut_bool Tryd.underlying4 _) (trodAll_mk1 (shut_string Tryd.underlying9 wu))))), rfl, hB.frame _, fun h => by cases h⟩

theorem holds : Rows.FnOfEndsInUnitSaid :=
  OpenClaim.holds_of_wide 4 Tryd.f4 rfl rfl rfl rfl rfl rfl rfl ⟨rfl, rfl, rfl, rfl, rfl⟩ rfl rfl rfl rfl rfl (by kernel_rfl) Tryd.func4 (by kernel_rfl)
    (of_decide_eq_true (by kernel_rfl)) (by unfold Func.isWrapper; first | (rw [if_pos (by decide +kernel)]; kernel_rfl) | (rw [if_neg (by decide +kernel)]; exact ⟨rfl, rfl⟩))
    (fun os started H enc _ => lifted os started H enc)

theorem card_holds : Rows.FnOfEndsInUnitCardSaid :=
  Claim7.holds_tied_plain_at .later [] [.data, .data, .data, .data, .pinned, .pinned] true _ false holds (fun _ h => by cases h) (by kernel_rfl) (fun _ h => by cases h) fnOfEndsInUnit_row_tie rfl ⟨rfl, rfl⟩ (by kernel_rfl) rfl
    (fun f fn hf hfn => by
      obtain rfl : f = 4 := Option.some.inj ((show Tryd.prog.funcNamed Tryd.f4.name = some 4 by kernel_rfl).symm.trans hf) |>.symm
      obtain rfl : fn = Tryd.f4 := (Option.some.inj (Tryd.func4.symm.trans hfn)).symm
      exact ⟨by kernel_rfl, fun j t ht => by
        rw [Tryd.params4] at ht
        have hm : t ∈ [25, 25, 4, 4, 9] := by simpa using Array.mem_of_getElem? ht
        have hall : ([25, 25, 4, 4, 9].all fun u => !Tryd.prog.wantsStandIn u) = true := by kernel_rfl
        exact (show Tryd.prog.wantsStandIn t = false by simpa using List.all_eq_true.1 hall t hm)⟩)
    (by kernel_rfl)
end Go.Proofs.Qxb6603897aDoor
