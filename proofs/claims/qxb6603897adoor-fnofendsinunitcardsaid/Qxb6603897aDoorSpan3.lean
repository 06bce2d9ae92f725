/-
  The walk of span where both ends are there and one of them is exclusive.
-/
import Derived.Test.Qxb6603897aDoorSpan2
namespace Go.Proofs.Qxb6603897aDoor
open Go.RowKit
set_option linter.unusedSimpArgs false in
set_option maxRecDepth 20000 in
set_option maxHeartbeats 1000000 in
theorem span_tf (a1 a2 : Addr) (b1 b2 : Nat) (w : World) (hb1' : b1 < 18446744073709551616) (hb2' : b2 < 18446744073709551616) (hc1 : w.cell? a1 = some (.float .f64 b1)) (ha1 : a1.block < w.heap.size) (hc2 : w.cell? a2 = some (.float .f64 b2)) (ha2 : a2.block < w.heap.size) (hT : Tabs w) :
    Calls Tryd.prog 12 #[.agg #[.pointer (some a1), .pointer (some a2), .bool true, .bool false]] w fun r w' => r = .returned (.string (loS true b1 ++ andB ++ hiS false b2)) ∧ Below w.heap.size w w' := by
  have h3 := hT.h3
  have HT := hid hT
  clear hT
  have HR := hid fun (w : World) => ranged_at (some a1) (some a2) true false false (by simp) w
  obtain ⟨i0, hi, hz0, hz1, hz2⟩ := info_parts Tryd.info9
  go_enter Tryd.func12, Tryd.ntmps12
  go_upto_region 1 with fail
  go_cut [16] (fun c wx => c = .bool false ∧ Hid (Below (w.heap.size + 1) (w.alloc (.cells #[.pointer (some a1), .pointer (some a2), .bool true, .bool false] 27)) wx))
  case first =>
    refine wp_region_held_drew (S := fun wx => wx.cell? ⟨w.heap.size, 0, none⟩ = some (.pointer (some a1)) ∧ wx.cell? ⟨w.heap.size, 1, none⟩ = some (.pointer (some a2)) ∧ wx.cell? ⟨w.heap.size, 2, none⟩ = some (.bool true) ∧ wx.cell? ⟨w.heap.size, 3, none⟩ = some (.bool false) ∧ Hid (Below (w.heap.size + 1) (w.alloc (.cells #[.pointer (some a1), .pointer (some a2), .bool true, .bool false] 27)) wx)) (by kernel_rfl) (box_cells (Below.refl _ _).drew) (fun hHeld => ?_)
    refine wpAnyH_take (i := 0) (oi := { dst := some 4, op := Op.load 27 (Operand.tmp 1), type := 27, pos := "limits.go:84", after := #[], guard := none }) (v := ?_) rfl (by kernel_rfl) (by kernel_rfl) (by kernel_rfl) (fun _ _ _ h => h) (Or.inl ⟨by rfl, ?_⟩) (by assumption) ?_
    rotate_left
    · intro w hSw
      (try dsimp only at hSw)
      go_simp
      with_reducible rfl
    try simp only [Act.put, List.setIfInBounds_toArray, List.set_cons_zero, List.set_cons_succ]
    refine wpAnyH_ready (rs := [1]) (by kernel_rfl) (by simp) ?_
    refine AllReadyH.cons (o := { dst := some 5, op := Op.call { callee := Callee.value (Operand.func 14), args := #[Operand.tmp 4], argTypes := #[27] }, type := 4, pos := "limits.go:84", after := #[{ on := 0, ground := Ground.data }], guard := none }) rfl (fun K hK => ?_) AllReadyH.nil
    go_simp
    go_at_call 14
    refine (HR.out _).mono ?_
    rintro r w' ⟨rfl, hb'⟩
    go_wp2_with fail
    refine hK.out _ _ (box_cells (below_step hHeld.2.2.2.2.out (by simp) hb')) (fun hHeld => ?_)
    clear hK K
    try simp only [Act.put, List.setIfInBounds_toArray, List.set_cons_zero, List.set_cons_succ]
    refine wpAnyH_take (i := 2) (oi := { dst := some 6, op := Op.move (Operand.tmp 5), type := 4, pos := "limits.go:84", after := #[{ on := 1, ground := Ground.data }, { on := 1, ground := Ground.chain }], guard := none }) (v := ?_) rfl (by kernel_rfl) (by kernel_rfl) (by kernel_rfl) (fun _ _ _ h => h) (Or.inl ⟨by rfl, ?_⟩) (by assumption) ?_
    rotate_left
    · intro w hSw
      (try dsimp only at hSw)
      go_simp
      with_reducible rfl
    try simp only [Act.put, List.setIfInBounds_toArray, List.set_cons_zero, List.set_cons_succ]
    refine wpAnyH_take (i := 3) (oi := { dst := some 7, op := Op.fieldAddr 27 (Operand.tmp 1) 0, type := 0, pos := "limits.go:84", after := #[{ on := 2, ground := Ground.guard }], guard := some (2, true) }) (v := undef) rfl (by kernel_rfl) (by kernel_rfl) (by kernel_rfl) (fun _ _ _ h => h) (Or.inr ⟨by rfl, rfl⟩) (by assumption) ?_
    try simp only [Act.put, List.setIfInBounds_toArray, List.set_cons_zero, List.set_cons_succ]
    refine wpAnyH_take (i := 4) (oi := { dst := some 8, op := Op.load 25 (Operand.tmp 7), type := 25, pos := "limits.go:84", after := #[{ on := 3, ground := Ground.data }, { on := 2, ground := Ground.guard }], guard := some (2, true) }) (v := undef) rfl (by kernel_rfl) (by kernel_rfl) (by kernel_rfl) (fun _ _ _ h => h) (Or.inr ⟨by rfl, rfl⟩) (by assumption) ?_
    try simp only [Act.put, List.setIfInBounds_toArray, List.set_cons_zero, List.set_cons_succ]
    refine wpAnyH_take (i := 5) (oi := { dst := some 9, op := Op.nilCheck (Operand.tmp 8), type := 0, pos := "limits.go:84", after := #[{ on := 4, ground := Ground.data }, { on := 2, ground := Ground.guard }], guard := some (2, true) }) (v := undef) rfl (by kernel_rfl) (by kernel_rfl) (by kernel_rfl) (fun _ _ _ h => h) (Or.inr ⟨by rfl, rfl⟩) (by assumption) ?_
    try simp only [Act.put, List.setIfInBounds_toArray, List.set_cons_zero, List.set_cons_succ]
    refine wpAnyH_take (i := 6) (oi := { dst := some 10, op := Op.load 22 (Operand.tmp 9), type := 22, pos := "limits.go:84", after := #[{ on := 5, ground := Ground.data }, { on := 2, ground := Ground.guard }], guard := some (2, true) }) (v := undef) rfl (by kernel_rfl) (by kernel_rfl) (by kernel_rfl) (fun _ _ _ h => h) (Or.inr ⟨by rfl, rfl⟩) (by assumption) ?_
    try simp only [Act.put, List.setIfInBounds_toArray, List.set_cons_zero, List.set_cons_succ]
    refine wpAnyH_take (i := 7) (oi := { dst := some 11, op := Op.fieldAddr 27 (Operand.tmp 1) 1, type := 0, pos := "limits.go:84", after := #[{ on := 2, ground := Ground.guard }], guard := some (2, true) }) (v := undef) rfl (by kernel_rfl) (by kernel_rfl) (by kernel_rfl) (fun _ _ _ h => h) (Or.inr ⟨by rfl, rfl⟩) (by assumption) ?_
    try simp only [Act.put, List.setIfInBounds_toArray, List.set_cons_zero, List.set_cons_succ]
    refine wpAnyH_take (i := 8) (oi := { dst := some 12, op := Op.load 25 (Operand.tmp 11), type := 25, pos := "limits.go:84", after := #[{ on := 7, ground := Ground.data }, { on := 2, ground := Ground.guard }], guard := some (2, true) }) (v := undef) rfl (by kernel_rfl) (by kernel_rfl) (by kernel_rfl) (fun _ _ _ h => h) (Or.inr ⟨by rfl, rfl⟩) (by assumption) ?_
    try simp only [Act.put, List.setIfInBounds_toArray, List.set_cons_zero, List.set_cons_succ]
    refine wpAnyH_take (i := 9) (oi := { dst := some 13, op := Op.nilCheck (Operand.tmp 12), type := 0, pos := "limits.go:84", after := #[{ on := 8, ground := Ground.data }, { on := 2, ground := Ground.guard }], guard := some (2, true) }) (v := undef) rfl (by kernel_rfl) (by kernel_rfl) (by kernel_rfl) (fun _ _ _ h => h) (Or.inr ⟨by rfl, rfl⟩) (by assumption) ?_
    try simp only [Act.put, List.setIfInBounds_toArray, List.set_cons_zero, List.set_cons_succ]
    refine wpAnyH_take (i := 10) (oi := { dst := some 14, op := Op.load 22 (Operand.tmp 13), type := 22, pos := "limits.go:84", after := #[{ on := 9, ground := Ground.data }, { on := 2, ground := Ground.guard }], guard := some (2, true) }) (v := undef) rfl (by kernel_rfl) (by kernel_rfl) (by kernel_rfl) (fun _ _ _ h => h) (Or.inr ⟨by rfl, rfl⟩) (by assumption) ?_
    try simp only [Act.put, List.setIfInBounds_toArray, List.set_cons_zero, List.set_cons_succ]
    refine wpAnyH_take (i := 11) (oi := { dst := some 15, op := Op.binOp BinOp.eql 22 (Operand.tmp 10) (Operand.tmp 14) 22, type := 4, pos := "limits.go:84", after := #[{ on := 6, ground := Ground.data }, { on := 10, ground := Ground.data }, { on := 2, ground := Ground.guard }], guard := some (2, true) }) (v := undef) rfl (by kernel_rfl) (by kernel_rfl) (by kernel_rfl) (fun _ _ _ h => h) (Or.inr ⟨by rfl, rfl⟩) (by assumption) ?_
    try simp only [Act.put, List.setIfInBounds_toArray, List.set_cons_zero, List.set_cons_succ]
    refine wpAnyH_take (i := 12) (oi := { dst := some 16, op := Op.pick (Operand.tmp 6) (Operand.tmp 15) (Operand.const (Value.bool false)), type := 4, pos := "limits.go:84", after := #[{ on := 2, ground := Ground.data }, { on := 11, ground := Ground.data }], guard := none }) (v := ?_) rfl (by kernel_rfl) (by kernel_rfl) (by kernel_rfl) (fun _ _ _ h => h) (Or.inl ⟨by rfl, ?_⟩) (by assumption) ?_
    rotate_left
    · intro w hSw
      (try dsimp only at hSw)
      go_simp
      with_reducible rfl
    try simp only [Act.put, List.setIfInBounds_toArray, List.set_cons_zero, List.set_cons_succ]
    refine wpAnyH_done (by kernel_rfl) ?_ _
    go_wp2
    go_meet
    case rel => exact ⟨rfl, hHeld.2.2.2.2⟩
  case rest =>
    obtain ⟨rfl, H0⟩ := hcut
    obtain ⟨c0, c1, c2, c3, H0⟩ := box_cells H0.out
    have hsz1 := T_sz b1
    have hs1 : ¬ 9223372036854775807 < 9 + (T b1).size := by omega
    have hs2 : ¬ 9223372036854775807 < 13 + (T b1).size := by omega
    have hsz2 := T_sz b2
    have hs3 : ¬ 9223372036854775807 < 8 + (T b2).size := by omega
    have hs4 : ¬ 9223372036854775807 < 10 + (T b2).size := by omega
    · go_wp2_with (go_at_call 14; refine (HR.out _).mono ?_; rintro r w1 ⟨rfl, hb1⟩; obtain ⟨c0, c1, c2, c3, H1⟩ := box_cells (below_step H0.out (by simp) hb1); have ca := box_a H1.out hc1 ha1)
      go_at_call 15
      refine (number_T b1 _ hb1' (HT.out.below (box_far H1.out) (by omega))).mono ?_
      rintro r w2 ⟨rfl, hb2⟩
      obtain ⟨c0, c1, c2, c3, H2⟩ := box_cells (below_step H1.out (by simp) hb2)
      have E2 := hid (Ends.start H2.out (Nat.le_trans (by simp) H2.out.size))
      go_wp2_with ((at_builtin; refine wpList_append_own_at _ rfl _ _ 42 rfl (w.heap.size + 1) 9 i0 (.string ⟨#[]⟩) 1 16 Tryd.underlying42 hi hz0 hz1 hz2 rfl (by decide) _ _ _ rfl (E2.out.own.alloc _) ⟨w2.heap.size, 0, none⟩ 1 1 _ rfl rfl (cell_one_new _ _ _) (by simp [Value.oneCell']) (by unfold maxLen; simp) (by simp) (by have := E2.out.base; simp; omega) ?_; intro v1 w3 hown' hgrow _ _; have E3 := hid (E2.out.step hown' hgrow); clear hown' hgrow; obtain ⟨c0, c1, c2, c3, H3⟩ := box_cells E3.out.below); have ca := box_a H3.out hc2 ha2)
      go_at_call 15
      refine (number_T b2 _ hb2' (HT.out.below (box_far H3.out) (by omega))).mono ?_
      rintro r w4 ⟨rfl, hb4⟩
      have E4 := hid (E3.out.after hb4)
      obtain ⟨c0, c1, c2, c3, H4⟩ := box_cells E4.out.below
      go_wp2_with (at_builtin; refine wpList_append_own_at _ rfl _ _ 42 rfl (w.heap.size + 1) 9 i0 (.string ⟨#[]⟩) 1 16 Tryd.underlying42 hi hz0 hz1 hz2 rfl (by decide) _ _ _ rfl (E4.out.own.alloc _) ⟨w4.heap.size, 0, none⟩ 1 1 _ rfl rfl (cell_one_new _ _ _) (by simp [Value.oneCell']) (by unfold maxLen; simp) (by simp) (by have := E4.out.base; simp; omega) ?_; intro v2 w5 hown' hgrow _ _; have E5 := hid (E4.out.step hown' hgrow); clear hown' hgrow; obtain ⟨c0, c1, c2, c3, H5⟩ := box_cells E5.out.below)
      go_at_call 16
      refine (join_two E5.out (loS_len true b1) (hiS_len false b2)).mono ?_
      rintro r w6 ⟨rfl, hb6⟩
      go_wp2
      go_ret
      exact ⟨rfl, box_far (below_step H5.out (by simp) hb6)⟩
set_option linter.unusedSimpArgs false in
set_option maxRecDepth 20000 in
set_option maxHeartbeats 1000000 in
theorem span_ft (a1 a2 : Addr) (b1 b2 : Nat) (w : World) (hb1' : b1 < 18446744073709551616) (hb2' : b2 < 18446744073709551616) (hc1 : w.cell? a1 = some (.float .f64 b1)) (ha1 : a1.block < w.heap.size) (hc2 : w.cell? a2 = some (.float .f64 b2)) (ha2 : a2.block < w.heap.size) (hT : Tabs w) :
    Calls Tryd.prog 12 #[.agg #[.pointer (some a1), .pointer (some a2), .bool false, .bool true]] w fun r w' => r = .returned (.string (loS false b1 ++ andB ++ hiS true b2)) ∧ Below w.heap.size w w' := by
  have h3 := hT.h3
  have HT := hid hT
  clear hT
  have HR := hid fun (w : World) => ranged_at (some a1) (some a2) false true false (by simp) w
  obtain ⟨i0, hi, hz0, hz1, hz2⟩ := info_parts Tryd.info9
  go_enter Tryd.func12, Tryd.ntmps12
  go_upto_region 1 with fail
  go_cut [16] (fun c wx => c = .bool false ∧ Hid (Below (w.heap.size + 1) (w.alloc (.cells #[.pointer (some a1), .pointer (some a2), .bool false, .bool true] 27)) wx))
  case first =>
    refine wp_region_held_drew (S := fun wx => wx.cell? ⟨w.heap.size, 0, none⟩ = some (.pointer (some a1)) ∧ wx.cell? ⟨w.heap.size, 1, none⟩ = some (.pointer (some a2)) ∧ wx.cell? ⟨w.heap.size, 2, none⟩ = some (.bool false) ∧ wx.cell? ⟨w.heap.size, 3, none⟩ = some (.bool true) ∧ Hid (Below (w.heap.size + 1) (w.alloc (.cells #[.pointer (some a1), .pointer (some a2), .bool false, .bool true] 27)) wx)) (by kernel_rfl) (box_cells (Below.refl _ _).drew) (fun hHeld => ?_)
    refine wpAnyH_take (i := 0) (oi := { dst := some 4, op := Op.load 27 (Operand.tmp 1), type := 27, pos := "limits.go:84", after := #[], guard := none }) (v := ?_) rfl (by kernel_rfl) (by kernel_rfl) (by kernel_rfl) (fun _ _ _ h => h) (Or.inl ⟨by rfl, ?_⟩) (by assumption) ?_
    rotate_left
    · intro w hSw
      (try dsimp only at hSw)
      go_simp
      with_reducible rfl
    try simp only [Act.put, List.setIfInBounds_toArray, List.set_cons_zero, List.set_cons_succ]
    refine wpAnyH_ready (rs := [1]) (by kernel_rfl) (by simp) ?_
    refine AllReadyH.cons (o := { dst := some 5, op := Op.call { callee := Callee.value (Operand.func 14), args := #[Operand.tmp 4], argTypes := #[27] }, type := 4, pos := "limits.go:84", after := #[{ on := 0, ground := Ground.data }], guard := none }) rfl (fun K hK => ?_) AllReadyH.nil
    go_simp
    go_at_call 14
    refine (HR.out _).mono ?_
    rintro r w' ⟨rfl, hb'⟩
    go_wp2_with fail
    refine hK.out _ _ (box_cells (below_step hHeld.2.2.2.2.out (by simp) hb')) (fun hHeld => ?_)
    clear hK K
    try simp only [Act.put, List.setIfInBounds_toArray, List.set_cons_zero, List.set_cons_succ]
    refine wpAnyH_take (i := 2) (oi := { dst := some 6, op := Op.move (Operand.tmp 5), type := 4, pos := "limits.go:84", after := #[{ on := 1, ground := Ground.data }, { on := 1, ground := Ground.chain }], guard := none }) (v := ?_) rfl (by kernel_rfl) (by kernel_rfl) (by kernel_rfl) (fun _ _ _ h => h) (Or.inl ⟨by rfl, ?_⟩) (by assumption) ?_
    rotate_left
    · intro w hSw
      (try dsimp only at hSw)
      go_simp
      with_reducible rfl
    try simp only [Act.put, List.setIfInBounds_toArray, List.set_cons_zero, List.set_cons_succ]
    refine wpAnyH_take (i := 3) (oi := { dst := some 7, op := Op.fieldAddr 27 (Operand.tmp 1) 0, type := 0, pos := "limits.go:84", after := #[{ on := 2, ground := Ground.guard }], guard := some (2, true) }) (v := undef) rfl (by kernel_rfl) (by kernel_rfl) (by kernel_rfl) (fun _ _ _ h => h) (Or.inr ⟨by rfl, rfl⟩) (by assumption) ?_
    try simp only [Act.put, List.setIfInBounds_toArray, List.set_cons_zero, List.set_cons_succ]
    refine wpAnyH_take (i := 4) (oi := { dst := some 8, op := Op.load 25 (Operand.tmp 7), type := 25, pos := "limits.go:84", after := #[{ on := 3, ground := Ground.data }, { on := 2, ground := Ground.guard }], guard := some (2, true) }) (v := undef) rfl (by kernel_rfl) (by kernel_rfl) (by kernel_rfl) (fun _ _ _ h => h) (Or.inr ⟨by rfl, rfl⟩) (by assumption) ?_
    try simp only [Act.put, List.setIfInBounds_toArray, List.set_cons_zero, List.set_cons_succ]
    refine wpAnyH_take (i := 5) (oi := { dst := some 9, op := Op.nilCheck (Operand.tmp 8), type := 0, pos := "limits.go:84", after := #[{ on := 4, ground := Ground.data }, { on := 2, ground := Ground.guard }], guard := some (2, true) }) (v := undef) rfl (by kernel_rfl) (by kernel_rfl) (by kernel_rfl) (fun _ _ _ h => h) (Or.inr ⟨by rfl, rfl⟩) (by assumption) ?_
    try simp only [Act.put, List.setIfInBounds_toArray, List.set_cons_zero, List.set_cons_succ]
    refine wpAnyH_take (i := 6) (oi := { dst := some 10, op := Op.load 22 (Operand.tmp 9), type := 22, pos := "limits.go:84", after := #[{ on := 5, ground := Ground.data }, { on := 2, ground := Ground.guard }], guard := some (2, true) }) (v := undef) rfl (by kernel_rfl) (by kernel_rfl) (by kernel_rfl) (fun _ _ _ h => h) (Or.inr ⟨by rfl, rfl⟩) (by assumption) ?_
    try simp only [Act.put, List.setIfInBounds_toArray, List.set_cons_zero, List.set_cons_succ]
    refine wpAnyH_take (i := 7) (oi := { dst := some 11, op := Op.fieldAddr 27 (Operand.tmp 1) 1, type := 0, pos := "limits.go:84", after := #[{ on := 2, ground := Ground.guard }], guard := some (2, true) }) (v := undef) rfl (by kernel_rfl) (by kernel_rfl) (by kernel_rfl) (fun _ _ _ h => h) (Or.inr ⟨by rfl, rfl⟩) (by assumption) ?_
    try simp only [Act.put, List.setIfInBounds_toArray, List.set_cons_zero, List.set_cons_succ]
    refine wpAnyH_take (i := 8) (oi := { dst := some 12, op := Op.load 25 (Operand.tmp 11), type := 25, pos := "limits.go:84", after := #[{ on := 7, ground := Ground.data }, { on := 2, ground := Ground.guard }], guard := some (2, true) }) (v := undef) rfl (by kernel_rfl) (by kernel_rfl) (by kernel_rfl) (fun _ _ _ h => h) (Or.inr ⟨by rfl, rfl⟩) (by assumption) ?_
    try simp only [Act.put, List.setIfInBounds_toArray, List.set_cons_zero, List.set_cons_succ]
    refine wpAnyH_take (i := 9) (oi := { dst := some 13, op := Op.nilCheck (Operand.tmp 12), type := 0, pos := "limits.go:84", after := #[{ on := 8, ground := Ground.data }, { on := 2, ground := Ground.guard }], guard := some (2, true) }) (v := undef) rfl (by kernel_rfl) (by kernel_rfl) (by kernel_rfl) (fun _ _ _ h => h) (Or.inr ⟨by rfl, rfl⟩) (by assumption) ?_
    try simp only [Act.put, List.setIfInBounds_toArray, List.set_cons_zero, List.set_cons_succ]
    refine wpAnyH_take (i := 10) (oi := { dst := some 14, op := Op.load 22 (Operand.tmp 13), type := 22, pos := "limits.go:84", after := #[{ on := 9, ground := Ground.data }, { on := 2, ground := Ground.guard }], guard := some (2, true) }) (v := undef) rfl (by kernel_rfl) (by kernel_rfl) (by kernel_rfl) (fun _ _ _ h => h) (Or.inr ⟨by rfl, rfl⟩) (by assumption) ?_
    try simp only [Act.put, List.setIfInBounds_toArray, List.set_cons_zero, List.set_cons_succ]
    refine wpAnyH_take (i := 11) (oi := { dst := some 15, op := Op.binOp BinOp.eql 22 (Operand.tmp 10) (Operand.tmp 14) 22, type := 4, pos := "limits.go:84", after := #[{ on := 6, ground := Ground.data }, { on := 10, ground := Ground.data }, { on := 2, ground := Ground.guard }], guard := some (2, true) }) (v := undef) rfl (by kernel_rfl) (by kernel_rfl) (by kernel_rfl) (fun _ _ _ h => h) (Or.inr ⟨by rfl, rfl⟩) (by assumption) ?_
    try simp only [Act.put, List.setIfInBounds_toArray, List.set_cons_zero, List.set_cons_succ]
    refine wpAnyH_take (i := 12) (oi := { dst := some 16, op := Op.pick (Operand.tmp 6) (Operand.tmp 15) (Operand.const (Value.bool false)), type := 4, pos := "limits.go:84", after := #[{ on := 2, ground := Ground.data }, { on := 11, ground := Ground.data }], guard := none }) (v := ?_) rfl (by kernel_rfl) (by kernel_rfl) (by kernel_rfl) (fun _ _ _ h => h) (Or.inl ⟨by rfl, ?_⟩) (by assumption) ?_
    rotate_left
    · intro w hSw
      (try dsimp only at hSw)
      go_simp
      with_reducible rfl
    try simp only [Act.put, List.setIfInBounds_toArray, List.set_cons_zero, List.set_cons_succ]
    refine wpAnyH_done (by kernel_rfl) ?_ _
    go_wp2
    go_meet
    case rel => exact ⟨rfl, hHeld.2.2.2.2⟩
  case rest =>
    obtain ⟨rfl, H0⟩ := hcut
    obtain ⟨c0, c1, c2, c3, H0⟩ := box_cells H0.out
    have hsz1 := T_sz b1
    have hs1 : ¬ 9223372036854775807 < 9 + (T b1).size := by omega
    have hs2 : ¬ 9223372036854775807 < 13 + (T b1).size := by omega
    have hsz2 := T_sz b2
    have hs3 : ¬ 9223372036854775807 < 8 + (T b2).size := by omega
    have hs4 : ¬ 9223372036854775807 < 10 + (T b2).size := by omega
    · go_wp2_with (go_at_call 14; refine (HR.out _).mono ?_; rintro r w1 ⟨rfl, hb1⟩; obtain ⟨c0, c1, c2, c3, H1⟩ := box_cells (below_step H0.out (by simp) hb1); have ca := box_a H1.out hc1 ha1)
      go_at_call 15
      refine (number_T b1 _ hb1' (HT.out.below (box_far H1.out) (by omega))).mono ?_
      rintro r w2 ⟨rfl, hb2⟩
      obtain ⟨c0, c1, c2, c3, H2⟩ := box_cells (below_step H1.out (by simp) hb2)
      have E2 := hid (Ends.start H2.out (Nat.le_trans (by simp) H2.out.size))
      go_wp2_with ((at_builtin; refine wpList_append_own_at _ rfl _ _ 42 rfl (w.heap.size + 1) 9 i0 (.string ⟨#[]⟩) 1 16 Tryd.underlying42 hi hz0 hz1 hz2 rfl (by decide) _ _ _ rfl (E2.out.own.alloc _) ⟨w2.heap.size, 0, none⟩ 1 1 _ rfl rfl (cell_one_new _ _ _) (by simp [Value.oneCell']) (by unfold maxLen; simp) (by simp) (by have := E2.out.base; simp; omega) ?_; intro v1 w3 hown' hgrow _ _; have E3 := hid (E2.out.step hown' hgrow); clear hown' hgrow; obtain ⟨c0, c1, c2, c3, H3⟩ := box_cells E3.out.below); have ca := box_a H3.out hc2 ha2)
      go_at_call 15
      refine (number_T b2 _ hb2' (HT.out.below (box_far H3.out) (by omega))).mono ?_
      rintro r w4 ⟨rfl, hb4⟩
      have E4 := hid (E3.out.after hb4)
      obtain ⟨c0, c1, c2, c3, H4⟩ := box_cells E4.out.below
      go_wp2_with (at_builtin; refine wpList_append_own_at _ rfl _ _ 42 rfl (w.heap.size + 1) 9 i0 (.string ⟨#[]⟩) 1 16 Tryd.underlying42 hi hz0 hz1 hz2 rfl (by decide) _ _ _ rfl (E4.out.own.alloc _) ⟨w4.heap.size, 0, none⟩ 1 1 _ rfl rfl (cell_one_new _ _ _) (by simp [Value.oneCell']) (by unfold maxLen; simp) (by simp) (by have := E4.out.base; simp; omega) ?_; intro v2 w5 hown' hgrow _ _; have E5 := hid (E4.out.step hown' hgrow); clear hown' hgrow; obtain ⟨c0, c1, c2, c3, H5⟩ := box_cells E5.out.below)
      go_at_call 16
      refine (join_two E5.out (loS_len false b1) (hiS_len true b2)).mono ?_
      rintro r w6 ⟨rfl, hb6⟩
      go_wp2
      go_ret
      exact ⟨rfl, box_far (below_step H5.out (by simp) hb6)⟩
set_option linter.unusedSimpArgs false in
set_option maxRecDepth 20000 in
set_option maxHeartbeats 1000000 in
theorem span_tt (a1 a2 : Addr) (b1 b2 : Nat) (w : World) (hb1' : b1 < 18446744073709551616) (hb2' : b2 < 18446744073709551616) (hc1 : w.cell? a1 = some (.float .f64 b1)) (ha1 : a1.block < w.heap.size) (hc2 : w.cell? a2 = some (.float .f64 b2)) (ha2 : a2.block < w.heap.size) (hT : Tabs w) :
    Calls Tryd.prog 12 #[.agg #[.pointer (some a1), .pointer (some a2), .bool true, .bool true]] w fun r w' => r = .returned (.string (loS true b1 ++ andB ++ hiS true b2)) ∧ Below w.heap.size w w' := by
  have h3 := hT.h3
  have HT := hid hT
  clear hT
  have HR := hid fun (w : World) => ranged_at (some a1) (some a2) true true false (by simp) w
  obtain ⟨i0, hi, hz0, hz1, hz2⟩ := info_parts Tryd.info9
  go_enter Tryd.func12, Tryd.ntmps12
  go_upto_region 1 with fail
  go_cut [16] (fun c wx => c = .bool false ∧ Hid (Below (w.heap.size + 1) (w.alloc (.cells #[.pointer (some a1), .pointer (some a2), .bool true, .bool true] 27)) wx))
  case first =>
    refine wp_region_held_drew (S := fun wx => wx.cell? ⟨w.heap.size, 0, none⟩ = some (.pointer (some a1)) ∧ wx.cell? ⟨w.heap.size, 1, none⟩ = some (.pointer (some a2)) ∧ wx.cell? ⟨w.heap.size, 2, none⟩ = some (.bool true) ∧ wx.cell? ⟨w.heap.size, 3, none⟩ = some (.bool true) ∧ Hid (Below (w.heap.size + 1) (w.alloc (.cells #[.pointer (some a1), .pointer (some a2), .bool true, .bool true] 27)) wx)) (by kernel_rfl) (box_cells (Below.refl _ _).drew) (fun hHeld => ?_)
    refine wpAnyH_take (i := 0) (oi := { dst := some 4, op := Op.load 27 (Operand.tmp 1), type := 27, pos := "limits.go:84", after := #[], guard := none }) (v := ?_) rfl (by kernel_rfl) (by kernel_rfl) (by kernel_rfl) (fun _ _ _ h => h) (Or.inl ⟨by rfl, ?_⟩) (by assumption) ?_
    rotate_left
    · intro w hSw
      (try dsimp only at hSw)
      go_simp
      with_reducible rfl
    try simp only [Act.put, List.setIfInBounds_toArray, List.set_cons_zero, List.set_cons_succ]
    refine wpAnyH_ready (rs := [1]) (by kernel_rfl) (by simp) ?_
    refine AllReadyH.cons (o := { dst := some 5, op := Op.call { callee := Callee.value (Operand.func 14), args := #[Operand.tmp 4], argTypes := #[27] }, type := 4, pos := "limits.go:84", after := #[{ on := 0, ground := Ground.data }], guard := none }) rfl (fun K hK => ?_) AllReadyH.nil
    go_simp
    go_at_call 14
    refine (HR.out _).mono ?_
    rintro r w' ⟨rfl, hb'⟩
    go_wp2_with fail
    refine hK.out _ _ (box_cells (below_step hHeld.2.2.2.2.out (by simp) hb')) (fun hHeld => ?_)
    clear hK K
    try simp only [Act.put, List.setIfInBounds_toArray, List.set_cons_zero, List.set_cons_succ]
    refine wpAnyH_take (i := 2) (oi := { dst := some 6, op := Op.move (Operand.tmp 5), type := 4, pos := "limits.go:84", after := #[{ on := 1, ground := Ground.data }, { on := 1, ground := Ground.chain }], guard := none }) (v := ?_) rfl (by kernel_rfl) (by kernel_rfl) (by kernel_rfl) (fun _ _ _ h => h) (Or.inl ⟨by rfl, ?_⟩) (by assumption) ?_
    rotate_left
    · intro w hSw
      (try dsimp only at hSw)
      go_simp
      with_reducible rfl
    try simp only [Act.put, List.setIfInBounds_toArray, List.set_cons_zero, List.set_cons_succ]
    refine wpAnyH_take (i := 3) (oi := { dst := some 7, op := Op.fieldAddr 27 (Operand.tmp 1) 0, type := 0, pos := "limits.go:84", after := #[{ on := 2, ground := Ground.guard }], guard := some (2, true) }) (v := undef) rfl (by kernel_rfl) (by kernel_rfl) (by kernel_rfl) (fun _ _ _ h => h) (Or.inr ⟨by rfl, rfl⟩) (by assumption) ?_
    try simp only [Act.put, List.setIfInBounds_toArray, List.set_cons_zero, List.set_cons_succ]
    refine wpAnyH_take (i := 4) (oi := { dst := some 8, op := Op.load 25 (Operand.tmp 7), type := 25, pos := "limits.go:84", after := #[{ on := 3, ground := Ground.data }, { on := 2, ground := Ground.guard }], guard := some (2, true) }) (v := undef) rfl (by kernel_rfl) (by kernel_rfl) (by kernel_rfl) (fun _ _ _ h => h) (Or.inr ⟨by rfl, rfl⟩) (by assumption) ?_
    try simp only [Act.put, List.setIfInBounds_toArray, List.set_cons_zero, List.set_cons_succ]
    refine wpAnyH_take (i := 5) (oi := { dst := some 9, op := Op.nilCheck (Operand.tmp 8), type := 0, pos := "limits.go:84", after := #[{ on := 4, ground := Ground.data }, { on := 2, ground := Ground.guard }], guard := some (2, true) }) (v := undef) rfl (by kernel_rfl) (by kernel_rfl) (by kernel_rfl) (fun _ _ _ h => h) (Or.inr ⟨by rfl, rfl⟩) (by assumption) ?_
    try simp only [Act.put, List.setIfInBounds_toArray, List.set_cons_zero, List.set_cons_succ]
    refine wpAnyH_take (i := 6) (oi := { dst := some 10, op := Op.load 22 (Operand.tmp 9), type := 22, pos := "limits.go:84", after := #[{ on := 5, ground := Ground.data }, { on := 2, ground := Ground.guard }], guard := some (2, true) }) (v := undef) rfl (by kernel_rfl) (by kernel_rfl) (by kernel_rfl) (fun _ _ _ h => h) (Or.inr ⟨by rfl, rfl⟩) (by assumption) ?_
    try simp only [Act.put, List.setIfInBounds_toArray, List.set_cons_zero, List.set_cons_succ]
    refine wpAnyH_take (i := 7) (oi := { dst := some 11, op := Op.fieldAddr 27 (Operand.tmp 1) 1, type := 0, pos := "limits.go:84", after := #[{ on := 2, ground := Ground.guard }], guard := some (2, true) }) (v := undef) rfl (by kernel_rfl) (by kernel_rfl) (by kernel_rfl) (fun _ _ _ h => h) (Or.inr ⟨by rfl, rfl⟩) (by assumption) ?_
    try simp only [Act.put, List.setIfInBounds_toArray, List.set_cons_zero, List.set_cons_succ]
    refine wpAnyH_take (i := 8) (oi := { dst := some 12, op := Op.load 25 (Operand.tmp 11), type := 25, pos := "limits.go:84", after := #[{ on := 7, ground := Ground.data }, { on := 2, ground := Ground.guard }], guard := some (2, true) }) (v := undef) rfl (by kernel_rfl) (by kernel_rfl) (by kernel_rfl) (fun _ _ _ h => h) (Or.inr ⟨by rfl, rfl⟩) (by assumption) ?_
    try simp only [Act.put, List.setIfInBounds_toArray, List.set_cons_zero, List.set_cons_succ]
    refine wpAnyH_take (i := 9) (oi := { dst := some 13, op := Op.nilCheck (Operand.tmp 12), type := 0, pos := "limits.go:84", after := #[{ on := 8, ground := Ground.data }, { on := 2, ground := Ground.guard }], guard := some (2, true) }) (v := undef) rfl (by kernel_rfl) (by kernel_rfl) (by kernel_rfl) (fun _ _ _ h => h) (Or.inr ⟨by rfl, rfl⟩) (by assumption) ?_
    try simp only [Act.put, List.setIfInBounds_toArray, List.set_cons_zero, List.set_cons_succ]
    refine wpAnyH_take (i := 10) (oi := { dst := some 14, op := Op.load 22 (Operand.tmp 13), type := 22, pos := "limits.go:84", after := #[{ on := 9, ground := Ground.data }, { on := 2, ground := Ground.guard }], guard := some (2, true) }) (v := undef) rfl (by kernel_rfl) (by kernel_rfl) (by kernel_rfl) (fun _ _ _ h => h) (Or.inr ⟨by rfl, rfl⟩) (by assumption) ?_
    try simp only [Act.put, List.setIfInBounds_toArray, List.set_cons_zero, List.set_cons_succ]
    refine wpAnyH_take (i := 11) (oi := { dst := some 15, op := Op.binOp BinOp.eql 22 (Operand.tmp 10) (Operand.tmp 14) 22, type := 4, pos := "limits.go:84", after := #[{ on := 6, ground := Ground.data }, { on := 10, ground := Ground.data }, { on := 2, ground := Ground.guard }], guard := some (2, true) }) (v := undef) rfl (by kernel_rfl) (by kernel_rfl) (by kernel_rfl) (fun _ _ _ h => h) (Or.inr ⟨by rfl, rfl⟩) (by assumption) ?_
    try simp only [Act.put, List.setIfInBounds_toArray, List.set_cons_zero, List.set_cons_succ]
    refine wpAnyH_take (i := 12) (oi := { dst := some 16, op := Op.pick (Operand.tmp 6) (Operand.tmp 15) (Operand.const (Value.bool false)), type := 4, pos := "limits.go:84", after := #[{ on := 2, ground := Ground.data }, { on := 11, ground := Ground.data }], guard := none }) (v := ?_) rfl (by kernel_rfl) (by kernel_rfl) (by kernel_rfl) (fun _ _ _ h => h) (Or.inl ⟨by rfl, ?_⟩) (by assumption) ?_
    rotate_left
    · intro w hSw
      (try dsimp only at hSw)
      go_simp
      with_reducible rfl
    try simp only [Act.put, List.setIfInBounds_toArray, List.set_cons_zero, List.set_cons_succ]
    refine wpAnyH_done (by kernel_rfl) ?_ _
    go_wp2
    go_meet
    case rel => exact ⟨rfl, hHeld.2.2.2.2⟩
  case rest =>
    obtain ⟨rfl, H0⟩ := hcut
    obtain ⟨c0, c1, c2, c3, H0⟩ := box_cells H0.out
    have hsz1 := T_sz b1
    have hs1 : ¬ 9223372036854775807 < 9 + (T b1).size := by omega
    have hs2 : ¬ 9223372036854775807 < 13 + (T b1).size := by omega
    have hsz2 := T_sz b2
    have hs3 : ¬ 9223372036854775807 < 8 + (T b2).size := by omega
    have hs4 : ¬ 9223372036854775807 < 10 + (T b2).size := by omega
    · go_wp2_with (go_at_call 14; refine (HR.out _).mono ?_; rintro r w1 ⟨rfl, hb1⟩; obtain ⟨c0, c1, c2, c3, H1⟩ := box_cells (below_step H0.out (by simp) hb1); have ca := box_a H1.out hc1 ha1)
      go_at_call 15
      refine (number_T b1 _ hb1' (HT.out.below (box_far H1.out) (by omega))).mono ?_
      rintro r w2 ⟨rfl, hb2⟩
      obtain ⟨c0, c1, c2, c3, H2⟩ := box_cells (below_step H1.out (by simp) hb2)
      have E2 := hid (Ends.start H2.out (Nat.le_trans (by simp) H2.out.size))
      go_wp2_with ((at_builtin; refine wpList_append_own_at _ rfl _ _ 42 rfl (w.heap.size + 1) 9 i0 (.string ⟨#[]⟩) 1 16 Tryd.underlying42 hi hz0 hz1 hz2 rfl (by decide) _ _ _ rfl (E2.out.own.alloc _) ⟨w2.heap.size, 0, none⟩ 1 1 _ rfl rfl (cell_one_new _ _ _) (by simp [Value.oneCell']) (by unfold maxLen; simp) (by simp) (by have := E2.out.base; simp; omega) ?_; intro v1 w3 hown' hgrow _ _; have E3 := hid (E2.out.step hown' hgrow); clear hown' hgrow; obtain ⟨c0, c1, c2, c3, H3⟩ := box_cells E3.out.below); have ca := box_a H3.out hc2 ha2)
      go_at_call 15
      refine (number_T b2 _ hb2' (HT.out.below (box_far H3.out) (by omega))).mono ?_
      rintro r w4 ⟨rfl, hb4⟩
      have E4 := hid (E3.out.after hb4)
      obtain ⟨c0, c1, c2, c3, H4⟩ := box_cells E4.out.below
      go_wp2_with (at_builtin; refine wpList_append_own_at _ rfl _ _ 42 rfl (w.heap.size + 1) 9 i0 (.string ⟨#[]⟩) 1 16 Tryd.underlying42 hi hz0 hz1 hz2 rfl (by decide) _ _ _ rfl (E4.out.own.alloc _) ⟨w4.heap.size, 0, none⟩ 1 1 _ rfl rfl (cell_one_new _ _ _) (by simp [Value.oneCell']) (by unfold maxLen; simp) (by simp) (by have := E4.out.base; simp; omega) ?_; intro v2 w5 hown' hgrow _ _; have E5 := hid (E4.out.step hown' hgrow); clear hown' hgrow; obtain ⟨c0, c1, c2, c3, H5⟩ := box_cells E5.out.below)
      go_at_call 16
      refine (join_two E5.out (loS_len true b1) (hiS_len true b2)).mono ?_
      rintro r w6 ⟨rfl, hb6⟩
      go_wp2
      go_ret
      exact ⟨rfl, box_far (below_step H5.out (by simp) hb6)⟩
end Go.Proofs.Qxb6603897aDoor
