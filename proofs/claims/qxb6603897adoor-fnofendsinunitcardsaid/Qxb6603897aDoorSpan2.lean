/-
  The walk of span where not both ends are plain ones.
-/
import Derived.Test.Qxb6603897aDoorSpan
import Derived.Deep.RegionHeld3
namespace Go.Proofs.Qxb6603897aDoor
open Go.RowKit
theorem ranged_at (p1 p2 : Option Addr) (x1 x2 v : Bool) (hv : (p1.isSome && p2.isSome && !x1 && !x2) = v) (w : World) :
    Calls Tryd.prog 14 #[.agg #[.pointer p1, .pointer p2, .bool x1, .bool x2]] w fun r w' => r = .returned (.bool v) ∧ Below w.heap.size w w' := by
  rw [← hv]
  exact ranged_any p1 p2 x1 x2 w
theorem text_le (b : Nat) : (textOf b).length ≤ 2000 := by
  unfold textOf
  split
  · unfold specT
    split
    · split <;> decide
    · decide
  · split
    · have := sgn_len (negOf b)
      simp
      omega
    · rename_i hx hm
      obtain ⟨_, _, _, _, _, _, hF⟩ := word_in b hx hm
      obtain ⟨h1, h2, h3, h4⟩ := shortD_in _ _ hF
      generalize (shortD (m1Of b) (e1Of b)).1 = d at *
      generalize (shortD (m1Of b) (e1Of b)).2 = p at *
      unfold finT
      have a0 := Lib.nDigits_le20 d (by omega)
      have a1 := sgn_len (negOf b)
      have a2 := int_len (digs d) ((Lib.nDigits d : Int) + p)
      have a3 : (fracT (digs d) ((Lib.nDigits d : Int) + p)).length ≤ 1 + 400 + 20 := by
        have := digs_len d
        have := strip_le d (Lib.nDigits d)
        unfold fracT
        split
        · simp
          omega
        · simp
      rw [List.length_append, List.length_append]
      omega
/-- The text as a Go string. -/
def T (b : Nat) : ByteArray := strOfNums (textOf b)
theorem T_size (b : Nat) : (T b).data.toList.length ≤ 2000 := by
  have := text_le b
  simp [T, strOfNums]
  omega
theorem T_sz (b : Nat) : (T b).size ≤ 2000 := by
  rw [T, strOfNums_size]
  exact text_le b
theorem number_T (b : Nat) (w : World) (hb : b < 18446744073709551616) (hT : Tabs w) :
    Calls Tryd.prog 15 #[.float .f64 b] w fun r w' => r = .returned (.string (T b)) ∧ Below w.heap.size w w' := number_any b w hb hT
def gtB : ByteArray := { data := #[103, 114, 101, 97, 116, 101, 114, 32, 116, 104, 97, 110, 32] }
def leastB : ByteArray := { data := #[97, 116, 32, 108, 101, 97, 115, 116, 32] }
def ltB : ByteArray := { data := #[108, 101, 115, 115, 32, 116, 104, 97, 110, 32] }
def mostB : ByteArray := { data := #[97, 116, 32, 109, 111, 115, 116, 32] }
def andB : ByteArray := { data := #[32, 97, 110, 100, 32] }
def loS (x : Bool) (b : Nat) : ByteArray := (if x then gtB else leastB) ++ T b
def hiS (x : Bool) (b : Nat) : ByteArray := (if x then ltB else mostB) ++ T b
theorem loS_len (x : Bool) (b : Nat) : (loS x b).data.toList.length ≤ 3000 := by
  have := T_size b
  unfold loS
  rw [ByteArray.data_append]
  cases x <;> simp [gtB, leastB] <;> simp at this <;> omega
theorem hiS_len (x : Bool) (b : Nat) : (hiS x b).data.toList.length ≤ 3000 := by
  have := T_size b
  unfold hiS
  rw [ByteArray.data_append]
  cases x <;> simp [ltB, mostB] <;> simp at this <;> omega

theorem box_cells {w wx : World} {v0 v1 v2 v3 : Value} (h : Below (w.heap.size + 1) (w.alloc (.cells #[v0, v1, v2, v3] 27)) wx) :
    wx.cell? ⟨w.heap.size, 0, none⟩ = some v0 ∧ wx.cell? ⟨w.heap.size, 1, none⟩ = some v1 ∧ wx.cell? ⟨w.heap.size, 2, none⟩ = some v2 ∧ wx.cell? ⟨w.heap.size, 3, none⟩ = some v3 ∧ Hid (Below (w.heap.size + 1) (w.alloc (.cells #[v0, v1, v2, v3] 27)) wx) := by
  refine ⟨?_, ?_, ?_, ?_, h⟩ <;> (rw [h.cell (by simp)]; simp)
theorem below_step {B : Nat} {w0 wx w' : World} (h : Below B w0 wx) (hs : B ≤ w0.heap.size) (h' : Below wx.heap.size wx w') : Below B w0 w' :=
  h.trans (h'.mono (Nat.le_trans hs h.size))
theorem box_far {w wx : World} {o : Obj} (h : Below (w.heap.size + 1) (w.alloc o) wx) : Below w.heap.size w wx :=
  ((Below.refl _ w).alloc (Nat.le_refl _) o).trans (h.mono (Nat.le_succ _))
theorem Tryd.info9 : (Tryd.prog.info? 9).map (fun i => (i.zero, i.size, i.bytes)) = some (some (.string ⟨#[]⟩), 1, 16) := by kernel_rfl

/-- The row of the ends' texts. -/
structure Ends (B : Nat) (w wr : World) (v : Value) (xs : List ByteArray) : Prop where
  own : wr.ownsRow B 9 1 v xs.length (xs.map Value.string)
  below : Below B w wr
  base : B ≤ wr.heap.size
theorem Ends.step {B : Nat} {w wr w1 : World} {v v' : Value} {xs : List ByteArray} (h : Ends B w wr v xs) {o : Obj} {c : ByteArray}
    (hown : w1.ownsRow B 9 1 v' (xs.length + 1) (xs.map Value.string ++ [.string c])) (hg : (wr.alloc o).grownBy w1 v.ownBlock) : Ends B w w1 v' (xs ++ [c]) where
  own := by rw [List.length_append, List.map_append]; exact hown
  below := (h.below.alloc h.base o).grown hg (Nat.le_trans h.base (by simp)) (own_block h.own)
  base := Nat.le_trans h.base (Nat.le_trans (by simp) hg.size)
theorem Ends.start {B : Nat} {w wr : World} (h : Below B w wr) (hb : B ≤ wr.heap.size) : Ends B w wr (.slice none 0 0) [] where
  own := World.ownsRow_nil _ _ _ _
  below := h
  base := hb
theorem Ends.after {B : Nat} {w wr w' : World} {v : Value} {xs : List ByteArray} (h : Ends B w wr v xs) (hb : Below wr.heap.size wr w') : Ends B w w' v xs where
  own := by
    obtain ⟨h1, h2 | ⟨g, cap, cur, e, hg, hh, h3⟩⟩ := h.own
    · exact ⟨h1, .inl h2⟩
    · refine ⟨h1, .inr ⟨g, cap, cur, e, hg, ?_, h3⟩⟩
      have hlt : g < wr.heap.size := (Array.getElem?_eq_some_iff.1 hh).1
      rw [hb.block g hlt]
      exact hh
  below := h.below.trans (hb.mono h.base)
  base := Nat.le_trans h.base hb.size
theorem join_ends {B : Nat} {w wr : World} {v : Value} {xs : List ByteArray} (h : Ends B w wr v xs) (hn : xs ≠ []) (hN : xs.length ≤ 10)
    (hl : (Lib.join (xs.map (·.data.toList)) andB.data.toList).length ≤ 10000) :
    Calls Tryd.prog 16 #[v, .string andB] wr fun e w' => e = .returned (.string ⟨(Lib.join (xs.map (·.data.toList)) andB.data.toList).toArray⟩) ∧ Below wr.heap.size wr w' := by
  have hc := fun g hg => h.own.cells (g := g) hg
  obtain ⟨h1, ⟨_, h2⟩ | ⟨g, cap, cur, e, hg, hh, h3, h4, h5, h6⟩⟩ := h.own
  · exact absurd (List.length_eq_zero_iff.1 h2) hn
  · subst e
    have hlt : g < wr.heap.size := (Array.getElem?_eq_some_iff.1 hh).1
    refine Tryd.strings_Join g 0 cap xs andB wr (fun j x hx => ?_) hlt (by omega) h3 (by omega)
    have := hc g rfl j (.string x) (by simp [hx])
    rw [Nat.zero_add]
    cases j <;> simpa [Addr.add] using this
theorem join_one {B : Nat} {w wr : World} {v : Value} {s : ByteArray} (h : Ends B w wr v ([] ++ [s])) (hl : s.data.toList.length ≤ 3000) :
    Calls Tryd.prog 16 #[v, .string { data := #[32, 97, 110, 100, 32] }] wr fun e w' => e = .returned (.string s) ∧ Below wr.heap.size wr w' := by
  refine (join_ends h (by simp) (by simp) (by rw [List.nil_append, List.map_singleton, Lib.join_one]; omega)).mono ?_
  rintro r w' ⟨rfl, hb⟩
  refine ⟨?_, hb⟩
  rw [List.nil_append, List.map_singleton, Lib.join_one]
theorem join_two {B : Nat} {w wr : World} {v : Value} {s t : ByteArray} (h : Ends B w wr v ([] ++ [s] ++ [t])) (hl : s.data.toList.length ≤ 3000) (ht : t.data.toList.length ≤ 3000) :
    Calls Tryd.prog 16 #[v, .string { data := #[32, 97, 110, 100, 32] }] wr fun e w' => e = .returned (.string (s ++ andB ++ t)) ∧ Below wr.heap.size wr w' := by
  have E : Lib.join (([] ++ [s] ++ [t]).map (fun x : ByteArray => x.data.toList)) andB.data.toList = s.data.toList ++ (andB.data.toList ++ t.data.toList) := by
    simp [Lib.join_cons, Lib.joinTail]
  have hA : andB.data.toList.length = 5 := rfl
  refine (join_ends h (by simp) (by simp) (by rw [E, List.length_append, List.length_append]; omega)).mono ?_
  rintro r w' ⟨rfl, hb⟩
  refine ⟨?_, hb⟩
  rw [E]
  congr 2
  apply ByteArray.ext
  apply Array.toList_inj.1
  simp
theorem box_a {w wx : World} {o : Obj} {a : Addr} {v : Value} (h : Below (w.heap.size + 1) (w.alloc o) wx) (hc : w.cell? a = some v) (ha : a.block < w.heap.size) : wx.cell? a = some v := by
  rw [(box_far h).cell ha]
  exact hc
set_option linter.unusedSimpArgs false in
set_option maxRecDepth 20000 in
set_option maxHeartbeats 1000000 in
theorem span_lo (a1 : Addr) (b1 : Nat) (x1 x2 : Bool) (w : World) (hb : b1 < 18446744073709551616) (hc : w.cell? a1 = some (.float .f64 b1)) (ha : a1.block < w.heap.size) (hT : Tabs w) :
    Calls Tryd.prog 12 #[.agg #[.pointer (some a1), .pointer none, .bool x1, .bool x2]] w fun r w' => r = .returned (.string (loS x1 b1)) ∧ Below w.heap.size w w' := by
  have h3 := hT.h3
  have HT := hid hT
  clear hT
  have HR := hid fun (w : World) => ranged_at (some a1) none x1 x2 false (by simp) w
  obtain ⟨i0, hi, hz0, hz1, hz2⟩ := info_parts Tryd.info9
  go_enter Tryd.func12, Tryd.ntmps12
  go_upto_region 1 with fail
  go_cut [16] (fun c wx => c = .bool false ∧ Hid (Below (w.heap.size + 1) (w.alloc (.cells #[.pointer (some a1), .pointer none, .bool x1, .bool x2] 27)) wx))
  case first =>
    refine wp_region_held_drew (S := fun wx => wx.cell? ⟨w.heap.size, 0, none⟩ = some (.pointer (some a1)) ∧ wx.cell? ⟨w.heap.size, 1, none⟩ = some (.pointer none) ∧ wx.cell? ⟨w.heap.size, 2, none⟩ = some (.bool x1) ∧ wx.cell? ⟨w.heap.size, 3, none⟩ = some (.bool x2) ∧ Hid (Below (w.heap.size + 1) (w.alloc (.cells #[.pointer (some a1), .pointer none, .bool x1, .bool x2] 27)) wx)) (by kernel_rfl) (box_cells (Below.refl _ _).drew) (fun hHeld => ?_)
    refine wpAnyH_take (i := 0) (oi := { dst := some 4, op := Op.load 27 (Operand.tmp 1), type := 27, pos := "limits.go:84", after := #[], guard := none }) (v := ?_) rfl (by kernel_rfl) (by kernel_rfl) (by kernel_rfl) (fun _ _ _ h => h) (Or.inl ⟨by rfl, ?_⟩) (by assumption) ?_
    rotate_left
    · intro w hSw
      (try dsimp only at hSw)
      go_simp
      with_reducible rfl
    try simp only [Act.put, List.setIfInBounds_toArray, List.set_cons_zero, List.set_cons_succ]
    refine wpAnyH_ready (rs := [1]) (by kernel_rfl) (by simp) ?_
    refine AllReadyH.cons (o := { dst := some 5, op := Op.call { callee := Callee.value (Operand.func 14), args := #[Operand.tmp 4], argTypes := #[27] }, type := 4, pos := "limits.go:84", after := #[{ on := 0, ground := Ground.data }], guard := none }) rfl (fun K hK => ?_) AllReadyH.nil
    go_simp
    go_at_call 14
    refine (HR.out _).mono ?_
    rintro r w' ⟨rfl, hb'⟩
    go_wp2_with fail
    refine hK.out _ _ (box_cells (below_step hHeld.2.2.2.2.out (by simp) hb')) (fun hHeld => ?_)
    clear hK K
    try simp only [Act.put, List.setIfInBounds_toArray, List.set_cons_zero, List.set_cons_succ]
    refine wpAnyH_take (i := 2) (oi := { dst := some 6, op := Op.move (Operand.tmp 5), type := 4, pos := "limits.go:84", after := #[{ on := 1, ground := Ground.data }, { on := 1, ground := Ground.chain }], guard := none }) (v := ?_) rfl (by kernel_rfl) (by kernel_rfl) (by kernel_rfl) (fun _ _ _ h => h) (Or.inl ⟨by rfl, ?_⟩) (by assumption) ?_
    rotate_left
    · intro w hSw
      (try dsimp only at hSw)
      go_simp
      with_reducible rfl
    try simp only [Act.put, List.setIfInBounds_toArray, List.set_cons_zero, List.set_cons_succ]
    refine wpAnyH_take (i := 3) (oi := { dst := some 7, op := Op.fieldAddr 27 (Operand.tmp 1) 0, type := 0, pos := "limits.go:84", after := #[{ on := 2, ground := Ground.guard }], guard := some (2, true) }) (v := undef) rfl (by kernel_rfl) (by kernel_rfl) (by kernel_rfl) (fun _ _ _ h => h) (Or.inr ⟨by rfl, rfl⟩) (by assumption) ?_
    try simp only [Act.put, List.setIfInBounds_toArray, List.set_cons_zero, List.set_cons_succ]
    refine wpAnyH_take (i := 4) (oi := { dst := some 8, op := Op.load 25 (Operand.tmp 7), type := 25, pos := "limits.go:84", after := #[{ on := 3, ground := Ground.data }, { on := 2, ground := Ground.guard }], guard := some (2, true) }) (v := undef) rfl (by kernel_rfl) (by kernel_rfl) (by kernel_rfl) (fun _ _ _ h => h) (Or.inr ⟨by rfl, rfl⟩) (by assumption) ?_
    try simp only [Act.put, List.setIfInBounds_toArray, List.set_cons_zero, List.set_cons_succ]
    refine wpAnyH_take (i := 5) (oi := { dst := some 9, op := Op.nilCheck (Operand.tmp 8), type := 0, pos := "limits.go:84", after := #[{ on := 4, ground := Ground.data }, { on := 2, ground := Ground.guard }], guard := some (2, true) }) (v := undef) rfl (by kernel_rfl) (by kernel_rfl) (by kernel_rfl) (fun _ _ _ h => h) (Or.inr ⟨by rfl, rfl⟩) (by assumption) ?_
    try simp only [Act.put, List.setIfInBounds_toArray, List.set_cons_zero, List.set_cons_succ]
    refine wpAnyH_take (i := 6) (oi := { dst := some 10, op := Op.load 22 (Operand.tmp 9), type := 22, pos := "limits.go:84", after := #[{ on := 5, ground := Ground.data }, { on := 2, ground := Ground.guard }], guard := some (2, true) }) (v := undef) rfl (by kernel_rfl) (by kernel_rfl) (by kernel_rfl) (fun _ _ _ h => h) (Or.inr ⟨by rfl, rfl⟩) (by assumption) ?_
    try simp only [Act.put, List.setIfInBounds_toArray, List.set_cons_zero, List.set_cons_succ]
    refine wpAnyH_take (i := 7) (oi := { dst := some 11, op := Op.fieldAddr 27 (Operand.tmp 1) 1, type := 0, pos := "limits.go:84", after := #[{ on := 2, ground := Ground.guard }], guard := some (2, true) }) (v := undef) rfl (by kernel_rfl) (by kernel_rfl) (by kernel_rfl) (fun _ _ _ h => h) (Or.inr ⟨by rfl, rfl⟩) (by assumption) ?_
    try simp only [Act.put, List.setIfInBounds_toArray, List.set_cons_zero, List.set_cons_succ]
    refine wpAnyH_take (i := 8) (oi := { dst := some 12, op := Op.load 25 (Operand.tmp 11), type := 25, pos := "limits.go:84", after := #[{ on := 7, ground := Ground.data }, { on := 2, ground := Ground.guard }], guard := some (2, true) }) (v := undef) rfl (by kernel_rfl) (by kernel_rfl) (by kernel_rfl) (fun _ _ _ h => h) (Or.inr ⟨by rfl, rfl⟩) (by assumption) ?_
    try simp only [Act.put, List.setIfInBounds_toArray, List.set_cons_zero, List.set_cons_succ]
    refine wpAnyH_take (i := 9) (oi := { dst := some 13, op := Op.nilCheck (Operand.tmp 12), type := 0, pos := "limits.go:84", after := #[{ on := 8, ground := Ground.data }, { on := 2, ground := Ground.guard }], guard := some (2, true) }) (v := undef) rfl (by kernel_rfl) (by kernel_rfl) (by kernel_rfl) (fun _ _ _ h => h) (Or.inr ⟨by rfl, rfl⟩) (by assumption) ?_
    try simp only [Act.put, List.setIfInBounds_toArray, List.set_cons_zero, List.set_cons_succ]
    refine wpAnyH_take (i := 10) (oi := { dst := some 14, op := Op.load 22 (Operand.tmp 13), type := 22, pos := "limits.go:84", after := #[{ on := 9, ground := Ground.data }, { on := 2, ground := Ground.guard }], guard := some (2, true) }) (v := undef) rfl (by kernel_rfl) (by kernel_rfl) (by kernel_rfl) (fun _ _ _ h => h) (Or.inr ⟨by rfl, rfl⟩) (by assumption) ?_
    try simp only [Act.put, List.setIfInBounds_toArray, List.set_cons_zero, List.set_cons_succ]
    refine wpAnyH_take (i := 11) (oi := { dst := some 15, op := Op.binOp BinOp.eql 22 (Operand.tmp 10) (Operand.tmp 14) 22, type := 4, pos := "limits.go:84", after := #[{ on := 6, ground := Ground.data }, { on := 10, ground := Ground.data }, { on := 2, ground := Ground.guard }], guard := some (2, true) }) (v := undef) rfl (by kernel_rfl) (by kernel_rfl) (by kernel_rfl) (fun _ _ _ h => h) (Or.inr ⟨by rfl, rfl⟩) (by assumption) ?_
    try simp only [Act.put, List.setIfInBounds_toArray, List.set_cons_zero, List.set_cons_succ]
    refine wpAnyH_take (i := 12) (oi := { dst := some 16, op := Op.pick (Operand.tmp 6) (Operand.tmp 15) (Operand.const (Value.bool false)), type := 4, pos := "limits.go:84", after := #[{ on := 2, ground := Ground.data }, { on := 11, ground := Ground.data }], guard := none }) (v := ?_) rfl (by kernel_rfl) (by kernel_rfl) (by kernel_rfl) (fun _ _ _ h => h) (Or.inl ⟨by rfl, ?_⟩) (by assumption) ?_
    rotate_left
    · intro w hSw
      (try dsimp only at hSw)
      go_simp
      with_reducible rfl
    try simp only [Act.put, List.setIfInBounds_toArray, List.set_cons_zero, List.set_cons_succ]
    refine wpAnyH_done (by kernel_rfl) ?_ _
    go_wp2
    go_meet
    case rel => exact ⟨rfl, hHeld.2.2.2.2⟩
  case rest =>
    obtain ⟨rfl, H0⟩ := hcut
    obtain ⟨c0, c1, c2, c3, H0⟩ := box_cells H0.out
    have hsz := T_sz b1
    have hs1 : ¬ 9223372036854775807 < 9 + (T b1).size := by omega
    have hs2 : ¬ 9223372036854775807 < 13 + (T b1).size := by omega
    cases x1 <;>
    · go_wp2_with (go_at_call 14; refine (HR.out _).mono ?_; rintro r w1 ⟨rfl, hb1⟩; obtain ⟨c0, c1, c2, c3, H1⟩ := box_cells (below_step H0.out (by simp) hb1); have ca := box_a H1.out hc ha)
      go_at_call 15
      refine (number_T b1 _ hb (HT.out.below (box_far H1.out) (by omega))).mono ?_
      rintro r w2 ⟨rfl, hb2⟩
      obtain ⟨c0, c1, c2, c3, H2⟩ := box_cells (below_step H1.out (by simp) hb2)
      have E2 := hid (Ends.start H2.out (Nat.le_trans (by simp) H2.out.size))
      go_wp2_with (at_builtin; refine wpList_append_own_at _ rfl _ _ 42 rfl (w.heap.size + 1) 9 i0 (.string ⟨#[]⟩) 1 16 Tryd.underlying42 hi hz0 hz1 hz2 rfl (by decide) _ _ _ rfl (E2.out.own.alloc _) ⟨w2.heap.size, 0, none⟩ 1 1 _ rfl rfl (cell_one_new _ _ _) (by simp [Value.oneCell']) (by unfold maxLen; simp) (by simp) (by have := E2.out.base; simp; omega) ?_; intro v1 w3 hown' hgrow _ _; have E3 := hid (E2.out.step hown' hgrow); clear hown' hgrow; obtain ⟨c0, c1, c2, c3, H3⟩ := box_cells E3.out.below)
      go_at_call 16
      refine (join_one E3.out (by first | exact loS_len false b1 | exact loS_len true b1)).mono ?_
      rintro r w4 ⟨rfl, hb4⟩
      go_wp2
      go_ret
      exact ⟨rfl, box_far (below_step H3.out (by simp) hb4)⟩
set_option linter.unusedSimpArgs false in
set_option maxRecDepth 20000 in
set_option maxHeartbeats 1000000 in
theorem span_hi (a2 : Addr) (b2 : Nat) (x1 x2 : Bool) (w : World) (hb : b2 < 18446744073709551616) (hc : w.cell? a2 = some (.float .f64 b2)) (ha : a2.block < w.heap.size) (hT : Tabs w) :
    Calls Tryd.prog 12 #[.agg #[.pointer none, .pointer (some a2), .bool x1, .bool x2]] w fun r w' => r = .returned (.string (hiS x2 b2)) ∧ Below w.heap.size w w' := by
  have h3 := hT.h3
  have HT := hid hT
  clear hT
  have HR := hid fun (w : World) => ranged_at none (some a2) x1 x2 false (by simp) w
  obtain ⟨i0, hi, hz0, hz1, hz2⟩ := info_parts Tryd.info9
  go_enter Tryd.func12, Tryd.ntmps12
  go_upto_region 1 with fail
  go_cut [16] (fun c wx => c = .bool false ∧ Hid (Below (w.heap.size + 1) (w.alloc (.cells #[.pointer none, .pointer (some a2), .bool x1, .bool x2] 27)) wx))
  case first =>
    refine wp_region_held_drew (S := fun wx => wx.cell? ⟨w.heap.size, 0, none⟩ = some (.pointer none) ∧ wx.cell? ⟨w.heap.size, 1, none⟩ = some (.pointer (some a2)) ∧ wx.cell? ⟨w.heap.size, 2, none⟩ = some (.bool x1) ∧ wx.cell? ⟨w.heap.size, 3, none⟩ = some (.bool x2) ∧ Hid (Below (w.heap.size + 1) (w.alloc (.cells #[.pointer none, .pointer (some a2), .bool x1, .bool x2] 27)) wx)) (by kernel_rfl) (box_cells (Below.refl _ _).drew) (fun hHeld => ?_)
    refine wpAnyH_take (i := 0) (oi := { dst := some 4, op := Op.load 27 (Operand.tmp 1), type := 27, pos := "limits.go:84", after := #[], guard := none }) (v := ?_) rfl (by kernel_rfl) (by kernel_rfl) (by kernel_rfl) (fun _ _ _ h => h) (Or.inl ⟨by rfl, ?_⟩) (by assumption) ?_
    rotate_left
    · intro w hSw
      (try dsimp only at hSw)
      go_simp
      with_reducible rfl
    try simp only [Act.put, List.setIfInBounds_toArray, List.set_cons_zero, List.set_cons_succ]
    refine wpAnyH_ready (rs := [1]) (by kernel_rfl) (by simp) ?_
    refine AllReadyH.cons (o := { dst := some 5, op := Op.call { callee := Callee.value (Operand.func 14), args := #[Operand.tmp 4], argTypes := #[27] }, type := 4, pos := "limits.go:84", after := #[{ on := 0, ground := Ground.data }], guard := none }) rfl (fun K hK => ?_) AllReadyH.nil
    go_simp
    go_at_call 14
    refine (HR.out _).mono ?_
    rintro r w' ⟨rfl, hb'⟩
    go_wp2_with fail
    refine hK.out _ _ (box_cells (below_step hHeld.2.2.2.2.out (by simp) hb')) (fun hHeld => ?_)
    clear hK K
    try simp only [Act.put, List.setIfInBounds_toArray, List.set_cons_zero, List.set_cons_succ]
    refine wpAnyH_take (i := 2) (oi := { dst := some 6, op := Op.move (Operand.tmp 5), type := 4, pos := "limits.go:84", after := #[{ on := 1, ground := Ground.data }, { on := 1, ground := Ground.chain }], guard := none }) (v := ?_) rfl (by kernel_rfl) (by kernel_rfl) (by kernel_rfl) (fun _ _ _ h => h) (Or.inl ⟨by rfl, ?_⟩) (by assumption) ?_
    rotate_left
    · intro w hSw
      (try dsimp only at hSw)
      go_simp
      with_reducible rfl
    try simp only [Act.put, List.setIfInBounds_toArray, List.set_cons_zero, List.set_cons_succ]
    refine wpAnyH_take (i := 3) (oi := { dst := some 7, op := Op.fieldAddr 27 (Operand.tmp 1) 0, type := 0, pos := "limits.go:84", after := #[{ on := 2, ground := Ground.guard }], guard := some (2, true) }) (v := undef) rfl (by kernel_rfl) (by kernel_rfl) (by kernel_rfl) (fun _ _ _ h => h) (Or.inr ⟨by rfl, rfl⟩) (by assumption) ?_
    try simp only [Act.put, List.setIfInBounds_toArray, List.set_cons_zero, List.set_cons_succ]
    refine wpAnyH_take (i := 4) (oi := { dst := some 8, op := Op.load 25 (Operand.tmp 7), type := 25, pos := "limits.go:84", after := #[{ on := 3, ground := Ground.data }, { on := 2, ground := Ground.guard }], guard := some (2, true) }) (v := undef) rfl (by kernel_rfl) (by kernel_rfl) (by kernel_rfl) (fun _ _ _ h => h) (Or.inr ⟨by rfl, rfl⟩) (by assumption) ?_
    try simp only [Act.put, List.setIfInBounds_toArray, List.set_cons_zero, List.set_cons_succ]
    refine wpAnyH_take (i := 5) (oi := { dst := some 9, op := Op.nilCheck (Operand.tmp 8), type := 0, pos := "limits.go:84", after := #[{ on := 4, ground := Ground.data }, { on := 2, ground := Ground.guard }], guard := some (2, true) }) (v := undef) rfl (by kernel_rfl) (by kernel_rfl) (by kernel_rfl) (fun _ _ _ h => h) (Or.inr ⟨by rfl, rfl⟩) (by assumption) ?_
    try simp only [Act.put, List.setIfInBounds_toArray, List.set_cons_zero, List.set_cons_succ]
    refine wpAnyH_take (i := 6) (oi := { dst := some 10, op := Op.load 22 (Operand.tmp 9), type := 22, pos := "limits.go:84", after := #[{ on := 5, ground := Ground.data }, { on := 2, ground := Ground.guard }], guard := some (2, true) }) (v := undef) rfl (by kernel_rfl) (by kernel_rfl) (by kernel_rfl) (fun _ _ _ h => h) (Or.inr ⟨by rfl, rfl⟩) (by assumption) ?_
    try simp only [Act.put, List.setIfInBounds_toArray, List.set_cons_zero, List.set_cons_succ]
    refine wpAnyH_take (i := 7) (oi := { dst := some 11, op := Op.fieldAddr 27 (Operand.tmp 1) 1, type := 0, pos := "limits.go:84", after := #[{ on := 2, ground := Ground.guard }], guard := some (2, true) }) (v := undef) rfl (by kernel_rfl) (by kernel_rfl) (by kernel_rfl) (fun _ _ _ h => h) (Or.inr ⟨by rfl, rfl⟩) (by assumption) ?_
    try simp only [Act.put, List.setIfInBounds_toArray, List.set_cons_zero, List.set_cons_succ]
    refine wpAnyH_take (i := 8) (oi := { dst := some 12, op := Op.load 25 (Operand.tmp 11), type := 25, pos := "limits.go:84", after := #[{ on := 7, ground := Ground.data }, { on := 2, ground := Ground.guard }], guard := some (2, true) }) (v := undef) rfl (by kernel_rfl) (by kernel_rfl) (by kernel_rfl) (fun _ _ _ h => h) (Or.inr ⟨by rfl, rfl⟩) (by assumption) ?_
    try simp only [Act.put, List.setIfInBounds_toArray, List.set_cons_zero, List.set_cons_succ]
    refine wpAnyH_take (i := 9) (oi := { dst := some 13, op := Op.nilCheck (Operand.tmp 12), type := 0, pos := "limits.go:84", after := #[{ on := 8, ground := Ground.data }, { on := 2, ground := Ground.guard }], guard := some (2, true) }) (v := undef) rfl (by kernel_rfl) (by kernel_rfl) (by kernel_rfl) (fun _ _ _ h => h) (Or.inr ⟨by rfl, rfl⟩) (by assumption) ?_
    try simp only [Act.put, List.setIfInBounds_toArray, List.set_cons_zero, List.set_cons_succ]
    refine wpAnyH_take (i := 10) (oi := { dst := some 14, op := Op.load 22 (Operand.tmp 13), type := 22, pos := "limits.go:84", after := #[{ on := 9, ground := Ground.data }, { on := 2, ground := Ground.guard }], guard := some (2, true) }) (v := undef) rfl (by kernel_rfl) (by kernel_rfl) (by kernel_rfl) (fun _ _ _ h => h) (Or.inr ⟨by rfl, rfl⟩) (by assumption) ?_
    try simp only [Act.put, List.setIfInBounds_toArray, List.set_cons_zero, List.set_cons_succ]
    refine wpAnyH_take (i := 11) (oi := { dst := some 15, op := Op.binOp BinOp.eql 22 (Operand.tmp 10) (Operand.tmp 14) 22, type := 4, pos := "limits.go:84", after := #[{ on := 6, ground := Ground.data }, { on := 10, ground := Ground.data }, { on := 2, ground := Ground.guard }], guard := some (2, true) }) (v := undef) rfl (by kernel_rfl) (by kernel_rfl) (by kernel_rfl) (fun _ _ _ h => h) (Or.inr ⟨by rfl, rfl⟩) (by assumption) ?_
    try simp only [Act.put, List.setIfInBounds_toArray, List.set_cons_zero, List.set_cons_succ]
    refine wpAnyH_take (i := 12) (oi := { dst := some 16, op := Op.pick (Operand.tmp 6) (Operand.tmp 15) (Operand.const (Value.bool false)), type := 4, pos := "limits.go:84", after := #[{ on := 2, ground := Ground.data }, { on := 11, ground := Ground.data }], guard := none }) (v := ?_) rfl (by kernel_rfl) (by kernel_rfl) (by kernel_rfl) (fun _ _ _ h => h) (Or.inl ⟨by rfl, ?_⟩) (by assumption) ?_
    rotate_left
    · intro w hSw
      (try dsimp only at hSw)
      go_simp
      with_reducible rfl
    try simp only [Act.put, List.setIfInBounds_toArray, List.set_cons_zero, List.set_cons_succ]
    refine wpAnyH_done (by kernel_rfl) ?_ _
    go_wp2
    go_meet
    case rel => exact ⟨rfl, hHeld.2.2.2.2⟩
  case rest =>
    obtain ⟨rfl, H0⟩ := hcut
    obtain ⟨c0, c1, c2, c3, H0⟩ := box_cells H0.out
    have hsz := T_sz b2
    have hs1 : ¬ 9223372036854775807 < 8 + (T b2).size := by omega
    have hs2 : ¬ 9223372036854775807 < 10 + (T b2).size := by omega
    cases x2 <;>
    · go_wp2_with (go_at_call 14; refine (HR.out _).mono ?_; rintro r w1 ⟨rfl, hb1⟩; obtain ⟨c0, c1, c2, c3, H1⟩ := box_cells (below_step H0.out (by simp) hb1); have ca := box_a H1.out hc ha)
      go_at_call 15
      refine (number_T b2 _ hb (HT.out.below (box_far H1.out) (by omega))).mono ?_
      rintro r w2 ⟨rfl, hb2⟩
      obtain ⟨c0, c1, c2, c3, H2⟩ := box_cells (below_step H1.out (by simp) hb2)
      have E2 := hid (Ends.start H2.out (Nat.le_trans (by simp) H2.out.size))
      go_wp2_with (at_builtin; refine wpList_append_own_at _ rfl _ _ 42 rfl (w.heap.size + 1) 9 i0 (.string ⟨#[]⟩) 1 16 Tryd.underlying42 hi hz0 hz1 hz2 rfl (by decide) _ _ _ rfl (E2.out.own.alloc _) ⟨w2.heap.size, 0, none⟩ 1 1 _ rfl rfl (cell_one_new _ _ _) (by simp [Value.oneCell']) (by unfold maxLen; simp) (by simp) (by have := E2.out.base; simp; omega) ?_; intro v1 w3 hown' hgrow _ _; have E3 := hid (E2.out.step hown' hgrow); clear hown' hgrow; obtain ⟨c0, c1, c2, c3, H3⟩ := box_cells E3.out.below)
      go_at_call 16
      refine (join_one E3.out (by first | exact hiS_len false b2 | exact hiS_len true b2)).mono ?_
      rintro r w4 ⟨rfl, hb4⟩
      go_wp2
      go_ret
      exact ⟨rfl, box_far (below_step H3.out (by simp) hb4)⟩
end Go.Proofs.Qxb6603897aDoor
