/-
  The walk of span where both ends are there and plain.
-/
import Derived.Test.Qxb6603897aDoorSpan3
import Derived.Laws.Cover2
namespace Go.Proofs.Qxb6603897aDoor
open Go.RowKit
def exactB : ByteArray := { data := #[101, 120, 97, 99, 116, 108, 121, 32] }
def toB : ByteArray := { data := #[32, 116, 111, 32] }
theorem box_all {w wx : World} {v0 v1 v2 v3 u1 u2 : Value} {a1 a2 : Addr} (h : Below (w.heap.size + 1) (w.alloc (.cells #[v0, v1, v2, v3] 27)) wx) (hc1 : w.cell? a1 = some u1) (ha1 : a1.block < w.heap.size) (hc2 : w.cell? a2 = some u2) (ha2 : a2.block < w.heap.size) :
    wx.cell? ⟨w.heap.size, 0, none⟩ = some v0 ∧ wx.cell? ⟨w.heap.size, 1, none⟩ = some v1 ∧ wx.cell? ⟨w.heap.size, 2, none⟩ = some v2 ∧ wx.cell? ⟨w.heap.size, 3, none⟩ = some v3 ∧ wx.cell? a1 = some u1 ∧ wx.cell? a2 = some u2 ∧ Hid (Below (w.heap.size + 1) (w.alloc (.cells #[v0, v1, v2, v3] 27)) wx) :=
  let ⟨h0, h1, h2, h3, h4⟩ := box_cells h
  ⟨h0, h1, h2, h3, box_a h hc1 ha1, box_a h hc2 ha2, h4⟩

set_option linter.unusedSimpArgs false in
set_option maxRecDepth 20000 in
set_option maxHeartbeats 1000000 in
theorem span_eq (a1 a2 : Addr) (b1 b2 : Nat) (w : World) (hb1' : b1 < 18446744073709551616) (hc1 : w.cell? a1 = some (.float .f64 b1)) (ha1 : a1.block < w.heap.size) (hc2 : w.cell? a2 = some (.float .f64 b2)) (ha2 : a2.block < w.heap.size) (hT : Tabs w) (heq : (FloatKind.f64.format.order b1 b2 == some .eq) = true) :
    Calls Tryd.prog 12 #[.agg #[.pointer (some a1), .pointer (some a2), .bool false, .bool false]] w fun r w' => r = .returned (.string (exactB ++ T b1)) ∧ Below w.heap.size w w' := by
  have h3 := hT.h3
  have HT := hid hT
  clear hT
  have HR := hid fun (w : World) => ranged_at (some a1) (some a2) false false true rfl w
  have hsz := T_sz b1
  have hs1 : ¬ 9223372036854775807 < 8 + (T b1).size := by omega
  go_enter Tryd.func12, Tryd.ntmps12
  go_upto_region 1 with fail
  go_cut [16] (fun c wx => c = .bool true ∧ Hid (Below (w.heap.size + 1) (w.alloc (.cells #[.pointer (some a1), .pointer (some a2), .bool false, .bool false] 27)) wx))
  case first =>
    refine wp_region_held_drew (S := fun wx => wx.cell? ⟨w.heap.size, 0, none⟩ = some (.pointer (some a1)) ∧ wx.cell? ⟨w.heap.size, 1, none⟩ = some (.pointer (some a2)) ∧ wx.cell? ⟨w.heap.size, 2, none⟩ = some (.bool false) ∧ wx.cell? ⟨w.heap.size, 3, none⟩ = some (.bool false) ∧ wx.cell? a1 = some (.float .f64 b1) ∧ wx.cell? a2 = some (.float .f64 b2) ∧ Hid (Below (w.heap.size + 1) (w.alloc (.cells #[.pointer (some a1), .pointer (some a2), .bool false, .bool false] 27)) wx)) (by kernel_rfl) (box_all (Below.refl _ _).drew hc1 ha1 hc2 ha2) (fun hHeld => ?_)
    refine wpAnyH_take (i := 0) (oi := { dst := some 4, op := Op.load 27 (Operand.tmp 1), type := 27, pos := "limits.go:84", after := #[], guard := none }) (v := ?_) rfl (by kernel_rfl) (by kernel_rfl) (by kernel_rfl) (fun _ _ _ h => h) (Or.inl ⟨by rfl, ?_⟩) (by assumption) ?_
    rotate_left
    · intro w hSw
      (try dsimp only at hSw)
      go_simp
      with_reducible rfl
    try simp only [Act.put, List.setIfInBounds_toArray, List.set_cons_zero, List.set_cons_succ]
    refine wpAnyH_ready (rs := [1]) (by kernel_rfl) (by simp) ?_
    refine AllReadyH.cons (o := { dst := some 5, op := Op.call { callee := Callee.value (Operand.func 14), args := #[Operand.tmp 4], argTypes := #[27] }, type := 4, pos := "limits.go:84", after := #[{ on := 0, ground := Ground.data }], guard := none }) rfl (fun K hK => ?_) AllReadyH.nil
    go_simp
    go_at_call 14
    refine (HR.out _).mono ?_
    rintro r w' ⟨rfl, hb'⟩
    go_wp2_with fail
    refine hK.out _ _ (box_all (below_step hHeld.2.2.2.2.2.2.out (by simp) hb') hc1 ha1 hc2 ha2) (fun hHeld => ?_)
    clear hK K
    try simp only [Act.put, List.setIfInBounds_toArray, List.set_cons_zero, List.set_cons_succ]
    refine wpAnyH_take (i := 2) (oi := { dst := some 6, op := Op.move (Operand.tmp 5), type := 4, pos := "limits.go:84", after := #[{ on := 1, ground := Ground.data }, { on := 1, ground := Ground.chain }], guard := none }) (v := ?_) rfl (by kernel_rfl) (by kernel_rfl) (by kernel_rfl) (fun _ _ _ h => h) (Or.inl ⟨by rfl, ?_⟩) (by assumption) ?_
    rotate_left
    · intro w hSw
      (try dsimp only at hSw)
      go_simp
      with_reducible rfl
    try simp only [Act.put, List.setIfInBounds_toArray, List.set_cons_zero, List.set_cons_succ]
    refine wpAnyH_take (i := 3) (oi := { dst := some 7, op := Op.fieldAddr 27 (Operand.tmp 1) 0, type := 0, pos := "limits.go:84", after := #[{ on := 2, ground := Ground.guard }], guard := some (2, true) }) (v := ?_) rfl (by kernel_rfl) (by kernel_rfl) (by kernel_rfl) (fun _ _ _ h => h) (Or.inl ⟨by rfl, ?_⟩) (by assumption) ?_
    rotate_left
    · intro w hSw
      (try dsimp only at hSw)
      go_simp
      with_reducible rfl
    try simp only [Act.put, List.setIfInBounds_toArray, List.set_cons_zero, List.set_cons_succ]
    refine wpAnyH_take (i := 4) (oi := { dst := some 8, op := Op.load 25 (Operand.tmp 7), type := 25, pos := "limits.go:84", after := #[{ on := 3, ground := Ground.data }, { on := 2, ground := Ground.guard }], guard := some (2, true) }) (v := ?_) rfl (by kernel_rfl) (by kernel_rfl) (by kernel_rfl) (fun _ _ _ h => h) (Or.inl ⟨by rfl, ?_⟩) (by assumption) ?_
    rotate_left
    · intro w hSw
      (try dsimp only at hSw)
      go_simp
      with_reducible rfl
    try simp only [Act.put, List.setIfInBounds_toArray, List.set_cons_zero, List.set_cons_succ]
    refine wpAnyH_take (i := 5) (oi := { dst := some 9, op := Op.nilCheck (Operand.tmp 8), type := 0, pos := "limits.go:84", after := #[{ on := 4, ground := Ground.data }, { on := 2, ground := Ground.guard }], guard := some (2, true) }) (v := ?_) rfl (by kernel_rfl) (by kernel_rfl) (by kernel_rfl) (fun _ _ _ h => h) (Or.inl ⟨by rfl, ?_⟩) (by assumption) ?_
    rotate_left
    · intro w hSw
      (try dsimp only at hSw)
      go_simp
      with_reducible rfl
    try simp only [Act.put, List.setIfInBounds_toArray, List.set_cons_zero, List.set_cons_succ]
    refine wpAnyH_take (i := 6) (oi := { dst := some 10, op := Op.load 22 (Operand.tmp 9), type := 22, pos := "limits.go:84", after := #[{ on := 5, ground := Ground.data }, { on := 2, ground := Ground.guard }], guard := some (2, true) }) (v := ?_) rfl (by kernel_rfl) (by kernel_rfl) (by kernel_rfl) (fun _ _ _ h => h) (Or.inl ⟨by rfl, ?_⟩) (by assumption) ?_
    rotate_left
    · intro w hSw
      (try dsimp only at hSw)
      go_simp
      with_reducible rfl
    try simp only [Act.put, List.setIfInBounds_toArray, List.set_cons_zero, List.set_cons_succ]
    refine wpAnyH_take (i := 7) (oi := { dst := some 11, op := Op.fieldAddr 27 (Operand.tmp 1) 1, type := 0, pos := "limits.go:84", after := #[{ on := 2, ground := Ground.guard }], guard := some (2, true) }) (v := ?_) rfl (by kernel_rfl) (by kernel_rfl) (by kernel_rfl) (fun _ _ _ h => h) (Or.inl ⟨by rfl, ?_⟩) (by assumption) ?_
    rotate_left
    · intro w hSw
      (try dsimp only at hSw)
      go_simp
      with_reducible rfl
    try simp only [Act.put, List.setIfInBounds_toArray, List.set_cons_zero, List.set_cons_succ]
    refine wpAnyH_take (i := 8) (oi := { dst := some 12, op := Op.load 25 (Operand.tmp 11), type := 25, pos := "limits.go:84", after := #[{ on := 7, ground := Ground.data }, { on := 2, ground := Ground.guard }], guard := some (2, true) }) (v := ?_) rfl (by kernel_rfl) (by kernel_rfl) (by kernel_rfl) (fun _ _ _ h => h) (Or.inl ⟨by rfl, ?_⟩) (by assumption) ?_
    rotate_left
    · intro w hSw
      (try dsimp only at hSw)
      go_simp
      with_reducible rfl
    try simp only [Act.put, List.setIfInBounds_toArray, List.set_cons_zero, List.set_cons_succ]
    refine wpAnyH_take (i := 9) (oi := { dst := some 13, op := Op.nilCheck (Operand.tmp 12), type := 0, pos := "limits.go:84", after := #[{ on := 8, ground := Ground.data }, { on := 2, ground := Ground.guard }], guard := some (2, true) }) (v := ?_) rfl (by kernel_rfl) (by kernel_rfl) (by kernel_rfl) (fun _ _ _ h => h) (Or.inl ⟨by rfl, ?_⟩) (by assumption) ?_
    rotate_left
    · intro w hSw
      (try dsimp only at hSw)
      go_simp
      with_reducible rfl
    try simp only [Act.put, List.setIfInBounds_toArray, List.set_cons_zero, List.set_cons_succ]
    refine wpAnyH_take (i := 10) (oi := { dst := some 14, op := Op.load 22 (Operand.tmp 13), type := 22, pos := "limits.go:84", after := #[{ on := 9, ground := Ground.data }, { on := 2, ground := Ground.guard }], guard := some (2, true) }) (v := ?_) rfl (by kernel_rfl) (by kernel_rfl) (by kernel_rfl) (fun _ _ _ h => h) (Or.inl ⟨by rfl, ?_⟩) (by assumption) ?_
    rotate_left
    · intro w hSw
      (try dsimp only at hSw)
      go_simp
      with_reducible rfl
    try simp only [Act.put, List.setIfInBounds_toArray, List.set_cons_zero, List.set_cons_succ]
    refine wpAnyH_take (i := 11) (oi := { dst := some 15, op := Op.binOp BinOp.eql 22 (Operand.tmp 10) (Operand.tmp 14) 22, type := 4, pos := "limits.go:84", after := #[{ on := 6, ground := Ground.data }, { on := 10, ground := Ground.data }, { on := 2, ground := Ground.guard }], guard := some (2, true) }) (v := ?_) rfl (by kernel_rfl) (by kernel_rfl) (by kernel_rfl) (fun _ _ _ h => h) (Or.inl ⟨by rfl, ?_⟩) (by assumption) ?_
    rotate_left
    · intro w hSw
      (try dsimp only at hSw)
      go_simp
      with_reducible rfl
    try simp only [Act.put, List.setIfInBounds_toArray, List.set_cons_zero, List.set_cons_succ]
    refine wpAnyH_take (i := 12) (oi := { dst := some 16, op := Op.pick (Operand.tmp 6) (Operand.tmp 15) (Operand.const (Value.bool false)), type := 4, pos := "limits.go:84", after := #[{ on := 2, ground := Ground.data }, { on := 11, ground := Ground.data }], guard := none }) (v := ?_) rfl (by kernel_rfl) (by kernel_rfl) (by kernel_rfl) (fun _ _ _ h => h) (Or.inl ⟨by rfl, ?_⟩) (by assumption) ?_
    rotate_left
    · intro w hSw
      (try dsimp only at hSw)
      go_simp
      with_reducible rfl
    try simp only [Act.put, List.setIfInBounds_toArray, List.set_cons_zero, List.set_cons_succ]
    refine wpAnyH_done (by kernel_rfl) ?_ _
    go_wp2
    go_meet
    case rel => exact ⟨rfl, hHeld.2.2.2.2.2.2⟩
  case rest =>
    obtain ⟨rfl, H0⟩ := hcut
    obtain ⟨c0, c1, c2, c3, ca1, ca2, H0⟩ := box_all H0.out hc1 ha1 hc2 ha2
    go_wp2_with fail
    go_at_call 15
    refine (number_T b1 _ hb1' (HT.out.below (box_far H0.out) (by omega))).mono ?_
    rintro r w2 ⟨rfl, hb2⟩
    go_wp2
    go_ret
    exact ⟨rfl, box_far (below_step H0.out (by simp) hb2)⟩

set_option linter.unusedSimpArgs false in
set_option maxRecDepth 20000 in
set_option maxHeartbeats 1000000 in
theorem span_to (a1 a2 : Addr) (b1 b2 : Nat) (w : World) (hb1' : b1 < 18446744073709551616) (hb2' : b2 < 18446744073709551616) (hc1 : w.cell? a1 = some (.float .f64 b1)) (ha1 : a1.block < w.heap.size) (hc2 : w.cell? a2 = some (.float .f64 b2)) (ha2 : a2.block < w.heap.size) (hT : Tabs w) (heq : (FloatKind.f64.format.order b1 b2 == some .eq) = false) :
    Calls Tryd.prog 12 #[.agg #[.pointer (some a1), .pointer (some a2), .bool false, .bool false]] w fun r w' => r = .returned (.string (T b1 ++ toB ++ T b2)) ∧ Below w.heap.size w w' := by
  have h3 := hT.h3
  have HT := hid hT
  clear hT
  have HR := hid fun (w : World) => ranged_at (some a1) (some a2) false false true rfl w
  have hsz1 := T_sz b1
  have hsz2 := T_sz b2
  have hs1 : ¬ 9223372036854775807 < (T b1).size + 4 := by omega
  have hs2 : ¬ 9223372036854775807 < (T b1).size + 4 + (T b2).size := by omega
  go_enter Tryd.func12, Tryd.ntmps12
  go_upto_region 1 with fail
  go_cut [16] (fun c wx => c = .bool false ∧ Hid (Below (w.heap.size + 1) (w.alloc (.cells #[.pointer (some a1), .pointer (some a2), .bool false, .bool false] 27)) wx))
  case first =>
    refine wp_region_held_drew (S := fun wx => wx.cell? ⟨w.heap.size, 0, none⟩ = some (.pointer (some a1)) ∧ wx.cell? ⟨w.heap.size, 1, none⟩ = some (.pointer (some a2)) ∧ wx.cell? ⟨w.heap.size, 2, none⟩ = some (.bool false) ∧ wx.cell? ⟨w.heap.size, 3, none⟩ = some (.bool false) ∧ wx.cell? a1 = some (.float .f64 b1) ∧ wx.cell? a2 = some (.float .f64 b2) ∧ Hid (Below (w.heap.size + 1) (w.alloc (.cells #[.pointer (some a1), .pointer (some a2), .bool false, .bool false] 27)) wx)) (by kernel_rfl) (box_all (Below.refl _ _).drew hc1 ha1 hc2 ha2) (fun hHeld => ?_)
    refine wpAnyH_take (i := 0) (oi := { dst := some 4, op := Op.load 27 (Operand.tmp 1), type := 27, pos := "limits.go:84", after := #[], guard := none }) (v := ?_) rfl (by kernel_rfl) (by kernel_rfl) (by kernel_rfl) (fun _ _ _ h => h) (Or.inl ⟨by rfl, ?_⟩) (by assumption) ?_
    rotate_left
    · intro w hSw
      (try dsimp only at hSw)
      go_simp
      with_reducible rfl
    try simp only [Act.put, List.setIfInBounds_toArray, List.set_cons_zero, List.set_cons_succ]
    refine wpAnyH_ready (rs := [1]) (by kernel_rfl) (by simp) ?_
    refine AllReadyH.cons (o := { dst := some 5, op := Op.call { callee := Callee.value (Operand.func 14), args := #[Operand.tmp 4], argTypes := #[27] }, type := 4, pos := "limits.go:84", after := #[{ on := 0, ground := Ground.data }], guard := none }) rfl (fun K hK => ?_) AllReadyH.nil
    go_simp
    go_at_call 14
    refine (HR.out _).mono ?_
    rintro r w' ⟨rfl, hb'⟩
    go_wp2_with fail
    refine hK.out _ _ (box_all (below_step hHeld.2.2.2.2.2.2.out (by simp) hb') hc1 ha1 hc2 ha2) (fun hHeld => ?_)
    clear hK K
    try simp only [Act.put, List.setIfInBounds_toArray, List.set_cons_zero, List.set_cons_succ]
    refine wpAnyH_take (i := 2) (oi := { dst := some 6, op := Op.move (Operand.tmp 5), type := 4, pos := "limits.go:84", after := #[{ on := 1, ground := Ground.data }, { on := 1, ground := Ground.chain }], guard := none }) (v := ?_) rfl (by kernel_rfl) (by kernel_rfl) (by kernel_rfl) (fun _ _ _ h => h) (Or.inl ⟨by rfl, ?_⟩) (by assumption) ?_
    rotate_left
    · intro w hSw
      (try dsimp only at hSw)
      go_simp
      with_reducible rfl
    try simp only [Act.put, List.setIfInBounds_toArray, List.set_cons_zero, List.set_cons_succ]
    refine wpAnyH_take (i := 3) (oi := { dst := some 7, op := Op.fieldAddr 27 (Operand.tmp 1) 0, type := 0, pos := "limits.go:84", after := #[{ on := 2, ground := Ground.guard }], guard := some (2, true) }) (v := ?_) rfl (by kernel_rfl) (by kernel_rfl) (by kernel_rfl) (fun _ _ _ h => h) (Or.inl ⟨by rfl, ?_⟩) (by assumption) ?_
    rotate_left
    · intro w hSw
      (try dsimp only at hSw)
      go_simp
      with_reducible rfl
    try simp only [Act.put, List.setIfInBounds_toArray, List.set_cons_zero, List.set_cons_succ]
    refine wpAnyH_take (i := 4) (oi := { dst := some 8, op := Op.load 25 (Operand.tmp 7), type := 25, pos := "limits.go:84", after := #[{ on := 3, ground := Ground.data }, { on := 2, ground := Ground.guard }], guard := some (2, true) }) (v := ?_) rfl (by kernel_rfl) (by kernel_rfl) (by kernel_rfl) (fun _ _ _ h => h) (Or.inl ⟨by rfl, ?_⟩) (by assumption) ?_
    rotate_left
    · intro w hSw
      (try dsimp only at hSw)
      go_simp
      with_reducible rfl
    try simp only [Act.put, List.setIfInBounds_toArray, List.set_cons_zero, List.set_cons_succ]
    refine wpAnyH_take (i := 5) (oi := { dst := some 9, op := Op.nilCheck (Operand.tmp 8), type := 0, pos := "limits.go:84", after := #[{ on := 4, ground := Ground.data }, { on := 2, ground := Ground.guard }], guard := some (2, true) }) (v := ?_) rfl (by kernel_rfl) (by kernel_rfl) (by kernel_rfl) (fun _ _ _ h => h) (Or.inl ⟨by rfl, ?_⟩) (by assumption) ?_
    rotate_left
    · intro w hSw
      (try dsimp only at hSw)
      go_simp
      with_reducible rfl
    try simp only [Act.put, List.setIfInBounds_toArray, List.set_cons_zero, List.set_cons_succ]
    refine wpAnyH_take (i := 6) (oi := { dst := some 10, op := Op.load 22 (Operand.tmp 9), type := 22, pos := "limits.go:84", after := #[{ on := 5, ground := Ground.data }, { on := 2, ground := Ground.guard }], guard := some (2, true) }) (v := ?_) rfl (by kernel_rfl) (by kernel_rfl) (by kernel_rfl) (fun _ _ _ h => h) (Or.inl ⟨by rfl, ?_⟩) (by assumption) ?_
    rotate_left
    · intro w hSw
      (try dsimp only at hSw)
      go_simp
      with_reducible rfl
    try simp only [Act.put, List.setIfInBounds_toArray, List.set_cons_zero, List.set_cons_succ]
    refine wpAnyH_take (i := 7) (oi := { dst := some 11, op := Op.fieldAddr 27 (Operand.tmp 1) 1, type := 0, pos := "limits.go:84", after := #[{ on := 2, ground := Ground.guard }], guard := some (2, true) }) (v := ?_) rfl (by kernel_rfl) (by kernel_rfl) (by kernel_rfl) (fun _ _ _ h => h) (Or.inl ⟨by rfl, ?_⟩) (by assumption) ?_
    rotate_left
    · intro w hSw
      (try dsimp only at hSw)
      go_simp
      with_reducible rfl
    try simp only [Act.put, List.setIfInBounds_toArray, List.set_cons_zero, List.set_cons_succ]
    refine wpAnyH_take (i := 8) (oi := { dst := some 12, op := Op.load 25 (Operand.tmp 11), type := 25, pos := "limits.go:84", after := #[{ on := 7, ground := Ground.data }, { on := 2, ground := Ground.guard }], guard := some (2, true) }) (v := ?_) rfl (by kernel_rfl) (by kernel_rfl) (by kernel_rfl) (fun _ _ _ h => h) (Or.inl ⟨by rfl, ?_⟩) (by assumption) ?_
    rotate_left
    · intro w hSw
      (try dsimp only at hSw)
      go_simp
      with_reducible rfl
    try simp only [Act.put, List.setIfInBounds_toArray, List.set_cons_zero, List.set_cons_succ]
    refine wpAnyH_take (i := 9) (oi := { dst := some 13, op := Op.nilCheck (Operand.tmp 12), type := 0, pos := "limits.go:84", after := #[{ on := 8, ground := Ground.data }, { on := 2, ground := Ground.guard }], guard := some (2, true) }) (v := ?_) rfl (by kernel_rfl) (by kernel_rfl) (by kernel_rfl) (fun _ _ _ h => h) (Or.inl ⟨by rfl, ?_⟩) (by assumption) ?_
    rotate_left
    · intro w hSw
      (try dsimp only at hSw)
      go_simp
      with_reducible rfl
    try simp only [Act.put, List.setIfInBounds_toArray, List.set_cons_zero, List.set_cons_succ]
    refine wpAnyH_take (i := 10) (oi := { dst := some 14, op := Op.load 22 (Operand.tmp 13), type := 22, pos := "limits.go:84", after := #[{ on := 9, ground := Ground.data }, { on := 2, ground := Ground.guard }], guard := some (2, true) }) (v := ?_) rfl (by kernel_rfl) (by kernel_rfl) (by kernel_rfl) (fun _ _ _ h => h) (Or.inl ⟨by rfl, ?_⟩) (by assumption) ?_
    rotate_left
    · intro w hSw
      (try dsimp only at hSw)
      go_simp
      with_reducible rfl
    try simp only [Act.put, List.setIfInBounds_toArray, List.set_cons_zero, List.set_cons_succ]
    refine wpAnyH_take (i := 11) (oi := { dst := some 15, op := Op.binOp BinOp.eql 22 (Operand.tmp 10) (Operand.tmp 14) 22, type := 4, pos := "limits.go:84", after := #[{ on := 6, ground := Ground.data }, { on := 10, ground := Ground.data }, { on := 2, ground := Ground.guard }], guard := some (2, true) }) (v := ?_) rfl (by kernel_rfl) (by kernel_rfl) (by kernel_rfl) (fun _ _ _ h => h) (Or.inl ⟨by rfl, ?_⟩) (by assumption) ?_
    rotate_left
    · intro w hSw
      (try dsimp only at hSw)
      go_simp
      with_reducible rfl
    try simp only [Act.put, List.setIfInBounds_toArray, List.set_cons_zero, List.set_cons_succ]
    refine wpAnyH_take (i := 12) (oi := { dst := some 16, op := Op.pick (Operand.tmp 6) (Operand.tmp 15) (Operand.const (Value.bool false)), type := 4, pos := "limits.go:84", after := #[{ on := 2, ground := Ground.data }, { on := 11, ground := Ground.data }], guard := none }) (v := ?_) rfl (by kernel_rfl) (by kernel_rfl) (by kernel_rfl) (fun _ _ _ h => h) (Or.inl ⟨by rfl, ?_⟩) (by assumption) ?_
    rotate_left
    · intro w hSw
      (try dsimp only at hSw)
      go_simp
      with_reducible rfl
    try simp only [Act.put, List.setIfInBounds_toArray, List.set_cons_zero, List.set_cons_succ]
    refine wpAnyH_done (by kernel_rfl) ?_ _
    go_wp2
    go_meet
    case rel => exact ⟨rfl, hHeld.2.2.2.2.2.2⟩
  case rest =>
    obtain ⟨rfl, H0⟩ := hcut
    obtain ⟨c0, c1, c2, c3, ca1, ca2, H0⟩ := box_all H0.out hc1 ha1 hc2 ha2
    go_wp2_with (go_at_call 14; refine (HR.out _).mono ?_; rintro r w1 ⟨rfl, hb1⟩; obtain ⟨c0, c1, c2, c3, ca1, ca2, H1⟩ := box_all (below_step H0.out (by simp) hb1) hc1 ha1 hc2 ha2)
    refine wp_region_held_drew (S := fun wx => wx.cell? ⟨w.heap.size, 0, none⟩ = some (.pointer (some a1)) ∧ wx.cell? ⟨w.heap.size, 1, none⟩ = some (.pointer (some a2)) ∧ wx.cell? ⟨w.heap.size, 2, none⟩ = some (.bool false) ∧ wx.cell? ⟨w.heap.size, 3, none⟩ = some (.bool false) ∧ wx.cell? a1 = some (.float .f64 b1) ∧ wx.cell? a2 = some (.float .f64 b2) ∧ Hid (Below (w.heap.size + 1) (w.alloc (.cells #[.pointer (some a1), .pointer (some a2), .bool false, .bool false] 27)) wx)) (by kernel_rfl) (box_all H1.out.drew hc1 ha1 hc2 ha2) (fun hHeld => ?_)
    refine wpAnyH_take (i := 0) (oi := { dst := some 25, op := Op.fieldAddr 27 (Operand.tmp 1) 0, type := 0, pos := "limits.go:88", after := #[], guard := none }) (v := ?_) rfl (by kernel_rfl) (by kernel_rfl) (by kernel_rfl) (fun _ _ _ h => h) (Or.inl ⟨by rfl, ?_⟩) (by assumption) ?_
    rotate_left
    · intro w hSw
      (try dsimp only at hSw)
      go_simp
      with_reducible rfl
    try simp only [Act.put, List.setIfInBounds_toArray, List.set_cons_zero, List.set_cons_succ]
    refine wpAnyH_take (i := 1) (oi := { dst := some 26, op := Op.load 25 (Operand.tmp 25), type := 25, pos := "limits.go:88", after := #[{ on := 0, ground := Ground.data }], guard := none }) (v := ?_) rfl (by kernel_rfl) (by kernel_rfl) (by kernel_rfl) (fun _ _ _ h => h) (Or.inl ⟨by rfl, ?_⟩) (by assumption) ?_
    rotate_left
    · intro w hSw
      (try dsimp only at hSw)
      go_simp
      with_reducible rfl
    try simp only [Act.put, List.setIfInBounds_toArray, List.set_cons_zero, List.set_cons_succ]
    refine wpAnyH_take (i := 2) (oi := { dst := some 27, op := Op.nilCheck (Operand.tmp 26), type := 0, pos := "limits.go:88", after := #[{ on := 1, ground := Ground.data }], guard := none }) (v := ?_) rfl (by kernel_rfl) (by kernel_rfl) (by kernel_rfl) (fun _ _ _ h => h) (Or.inl ⟨by rfl, ?_⟩) (by assumption) ?_
    rotate_left
    · intro w hSw
      (try dsimp only at hSw)
      go_simp
      with_reducible rfl
    try simp only [Act.put, List.setIfInBounds_toArray, List.set_cons_zero, List.set_cons_succ]
    refine wpAnyH_take (i := 3) (oi := { dst := some 28, op := Op.load 22 (Operand.tmp 27), type := 22, pos := "limits.go:88", after := #[{ on := 2, ground := Ground.data }], guard := none }) (v := ?_) rfl (by kernel_rfl) (by kernel_rfl) (by kernel_rfl) (fun _ _ _ h => h) (Or.inl ⟨by rfl, ?_⟩) (by assumption) ?_
    rotate_left
    · intro w hSw
      (try dsimp only at hSw)
      go_simp
      with_reducible rfl
    try simp only [Act.put, List.setIfInBounds_toArray, List.set_cons_zero, List.set_cons_succ]
    refine wpAnyH_take (i := 6) (oi := { dst := some 31, op := Op.fieldAddr 27 (Operand.tmp 1) 1, type := 0, pos := "limits.go:88", after := #[], guard := none }) (v := ?_) rfl (by kernel_rfl) (by kernel_rfl) (by kernel_rfl) (fun _ _ _ h => h) (Or.inl ⟨by rfl, ?_⟩) (by assumption) ?_
    rotate_left
    · intro w hSw
      (try dsimp only at hSw)
      go_simp
      with_reducible rfl
    try simp only [Act.put, List.setIfInBounds_toArray, List.set_cons_zero, List.set_cons_succ]
    refine wpAnyH_take (i := 7) (oi := { dst := some 32, op := Op.load 25 (Operand.tmp 31), type := 25, pos := "limits.go:88", after := #[{ on := 6, ground := Ground.data }], guard := none }) (v := ?_) rfl (by kernel_rfl) (by kernel_rfl) (by kernel_rfl) (fun _ _ _ h => h) (Or.inl ⟨by rfl, ?_⟩) (by assumption) ?_
    rotate_left
    · intro w hSw
      (try dsimp only at hSw)
      go_simp
      with_reducible rfl
    try simp only [Act.put, List.setIfInBounds_toArray, List.set_cons_zero, List.set_cons_succ]
    refine wpAnyH_take (i := 8) (oi := { dst := some 33, op := Op.nilCheck (Operand.tmp 32), type := 0, pos := "limits.go:88", after := #[{ on := 7, ground := Ground.data }], guard := none }) (v := ?_) rfl (by kernel_rfl) (by kernel_rfl) (by kernel_rfl) (fun _ _ _ h => h) (Or.inl ⟨by rfl, ?_⟩) (by assumption) ?_
    rotate_left
    · intro w hSw
      (try dsimp only at hSw)
      go_simp
      with_reducible rfl
    try simp only [Act.put, List.setIfInBounds_toArray, List.set_cons_zero, List.set_cons_succ]
    refine wpAnyH_take (i := 9) (oi := { dst := some 34, op := Op.load 22 (Operand.tmp 33), type := 22, pos := "limits.go:88", after := #[{ on := 8, ground := Ground.data }], guard := none }) (v := ?_) rfl (by kernel_rfl) (by kernel_rfl) (by kernel_rfl) (fun _ _ _ h => h) (Or.inl ⟨by rfl, ?_⟩) (by assumption) ?_
    rotate_left
    · intro w hSw
      (try dsimp only at hSw)
      go_simp
      with_reducible rfl
    try simp only [Act.put, List.setIfInBounds_toArray, List.set_cons_zero, List.set_cons_succ]
    refine wpAnyH_ready (rs := [4]) (by kernel_rfl) (by simp) ?_
    refine AllReadyH.cons (o := { dst := some 29, op := Op.call { callee := Callee.value (Operand.func 15), args := #[Operand.tmp 28], argTypes := #[22] }, type := 9, pos := "limits.go:88", after := #[{ on := 3, ground := Ground.data }], guard := none }) rfl (fun K hK => ?_) AllReadyH.nil
    go_simp
    go_at_call 15
    refine (number_T b1 _ hb1' (HT.out.below (box_far hHeld.2.2.2.2.2.2.out) (by omega))).mono ?_
    rintro r w' ⟨rfl, hb'⟩
    go_wp2_with fail
    refine hK.out _ _ (box_all (below_step hHeld.2.2.2.2.2.2.out (by simp) hb') hc1 ha1 hc2 ha2) (fun hHeld => ?_)
    clear hK K
    try simp only [Act.put, List.setIfInBounds_toArray, List.set_cons_zero, List.set_cons_succ]
    refine wpAnyH_take (i := 5) (oi := { dst := some 30, op := Op.binOp BinOp.add 9 (Operand.tmp 29) (Operand.const (Value.string { data := #[32, 116, 111, 32] })) 9, type := 9, pos := "limits.go:88", after := #[{ on := 4, ground := Ground.data }], guard := none }) (v := ?_) rfl (by kernel_rfl) (by kernel_rfl) (by kernel_rfl) (fun _ _ _ h => h) (Or.inl ⟨by rfl, ?_⟩) (by assumption) ?_
    rotate_left
    · intro w hSw
      (try dsimp only at hSw)
      go_simp
      with_reducible rfl
    try simp only [Act.put, List.setIfInBounds_toArray, List.set_cons_zero, List.set_cons_succ]
    refine wpAnyH_ready (rs := [10]) (by kernel_rfl) (by simp) ?_
    refine AllReadyH.cons (o := { dst := some 35, op := Op.call { callee := Callee.value (Operand.func 15), args := #[Operand.tmp 34], argTypes := #[22] }, type := 9, pos := "limits.go:88", after := #[{ on := 9, ground := Ground.data }, { on := 4, ground := Ground.chain }], guard := none }) rfl (fun K hK => ?_) AllReadyH.nil
    go_simp
    go_at_call 15
    refine (number_T b2 _ hb2' (HT.out.below (box_far hHeld.2.2.2.2.2.2.out) (by omega))).mono ?_
    rintro r w' ⟨rfl, hb'⟩
    go_wp2_with fail
    refine hK.out _ _ (box_all (below_step hHeld.2.2.2.2.2.2.out (by simp) hb') hc1 ha1 hc2 ha2) (fun hHeld => ?_)
    clear hK K
    try simp only [Act.put, List.setIfInBounds_toArray, List.set_cons_zero, List.set_cons_succ]
    refine wpAnyH_take (i := 11) (oi := { dst := some 36, op := Op.binOp BinOp.add 9 (Operand.tmp 30) (Operand.tmp 35) 9, type := 9, pos := "limits.go:88", after := #[{ on := 5, ground := Ground.data }, { on := 10, ground := Ground.data }], guard := none }) (v := ?_) rfl (by kernel_rfl) (by kernel_rfl) (by kernel_rfl) (fun _ _ _ h => h) (Or.inl ⟨by rfl, ?_⟩) (by assumption) ?_
    rotate_left
    · intro w hSw
      (try dsimp only at hSw)
      go_simp
      with_reducible rfl
    try simp only [Act.put, List.setIfInBounds_toArray, List.set_cons_zero, List.set_cons_succ]
    refine wpAnyH_take (i := 12) (oi := { dst := some 2, op := Op.assign (Operand.tmp 36), type := 9, pos := "limits.go:88", after := #[{ on := 11, ground := Ground.data }, { on := 10, ground := Ground.chain }, { on := 0, ground := Ground.phase }, { on := 1, ground := Ground.phase }, { on := 2, ground := Ground.phase }, { on := 3, ground := Ground.phase }, { on := 4, ground := Ground.phase }, { on := 5, ground := Ground.phase }, { on := 6, ground := Ground.phase }, { on := 7, ground := Ground.phase }, { on := 8, ground := Ground.phase }, { on := 9, ground := Ground.phase }, { on := 10, ground := Ground.phase }, { on := 11, ground := Ground.phase }], guard := none }) (v := ?_) rfl (by kernel_rfl) (by kernel_rfl) (by kernel_rfl) (fun _ _ _ h => h) (Or.inl ⟨by rfl, ?_⟩) (by assumption) ?_
    rotate_left
    · intro w hSw
      (try dsimp only at hSw)
      go_simp
      with_reducible rfl
    try simp only [Act.put, List.setIfInBounds_toArray, List.set_cons_zero, List.set_cons_succ]
    refine wpAnyH_done (by kernel_rfl) ?_ _
    go_wp2
    go_ret
    exact ⟨rfl, box_far hHeld.2.2.2.2.2.2.out⟩
end Go.Proofs.Qxb6603897aDoor
