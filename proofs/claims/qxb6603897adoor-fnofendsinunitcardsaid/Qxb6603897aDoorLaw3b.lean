/-
  The walk of law 3.
-/
import Derived.Test.Qxb6603897aDoorLaw3
namespace Go.Proofs.Qxb6603897aDoor
open Go.RowKit Ieee

theorem app_assoc (a b c : ByteArray) : a ++ b ++ c = a ++ (b ++ c) := by
  apply ByteArray.ext
  simp
theorem ofT_false (s u : ByteArray) : ofT s u false = s ++ { data := #[32] } ++ u := rfl
theorem ofT_true (s u : ByteArray) : ofT s u true = s ++ { data := #[32] } ++ u ++ { data := #[115] } := by
  show s ++ { data := #[32] } ++ (u ++ { data := #[115] }) = _
  rw [← app_assoc]
theorem pl_of (o : Option Ordering) : o = some .eq ↔ (o != some .eq) = false := by
  cases o with
  | none => simp
  | some x => cases x <;> decide

set_option maxRecDepth 20000 in
set_option maxHeartbeats 2000000 in
theorem law3_a (a1 : Addr) (b1 : Nat) (x1 x2 : Bool) (u : ByteArray) (w : World) (h1 : Pt w (some a1) (some b1)) (h2 : Pt w none none) (hf : ∀ a, (some a1) = some a → w.frozen? a = false)
    (hu : u.size ≤ 65536) (hT : Tabs w) :
    Calls Tryd.prog 4 #[.pointer (some a1), .pointer none, .bool x1, .bool x2, .string u] w fun r w' => r = .returned (.bool true) ∧ Below w.heap.size w w' := by
  have HC := hid (copy_any (some a1) none (some b1) none w h1 h2 hf)
  have HB := hid fun v1 v2 v3 v4 (wx : World) => bytes_any v1 v2 v3 v4 u wx (by unfold maxLen; omega)
  have hd : decide (u.size ≤ 1048576) = true := decide_eq_true (by omega)
  rw [hd] at HB
  have hd2 : decide ((65536 : Int) < (u.size : Int)) = false := decide_eq_false (by omega)
  have HT := hid hT
  clear hT hf h1 h2 hd
  go_enter Tryd.func4, Tryd.ntmps4
  go_wp2_with (go_at_call 8; refine (HB.out _ _ _ _ _).mono ?_; rintro r wx ⟨rfl, hwx⟩; rw [hwx]; clear hwx)
  go_at_call 9
  refine HC.out.mono ?_
  rintro r w1 ⟨q1, q2, n1, n2, rfl, t1, t2, hn, hb1⟩
  have hn := hn (by simp)
  go_wp2_with fail
  go_at_call 7
  refine (bounds_any q1 q2 x1 x2 w1).mono ?_
  rintro r w2 ⟨rfl, hb2⟩
  have t1 := t1.below hb2
  have t2 := t2.below hb2
  have HB2 := hid (hb1.trans (hb2.mono hb1.size))
  have T2 := hid (HT.out.below HB2.out (by have := HT.out.h3; omega))
  clear hb1 hb2
  have hS := span_size n1 n2 x1 x2
  obtain ⟨P, c, hs, hpl⟩ := span_tail n1 n2 x1 x2 t1.lt t2.lt hn
  obtain ⟨k, y1, y2, e1, e2, e3, e4, e5⟩ := ends_span _ P c _ hs hS (hpl.trans (pl_of _))
  have HE := hid fun (wx : World) => ends_any (spanT n1 n2 x1 x2) k y1 y2 wx e1 e2 e3 e4
  rw [e5] at HE
  have h4 : 4 ≤ w2.heap.size := T2.out.h3
  have HO := hid fun (wx : World) (hx : Below w2.heap.size w2 wx) => zzof_of q1 q2 x1 x2 u wx _ (fun wy hy =>
    of_any q1 q2 n1 n2 x1 x2 u wy ((T2.out.below hx h4).below hy (Nat.le_trans h4 hx.size)) ((t1.below hx).below hy) ((t2.below hx).below hy) hn hu)
  have HS := hid fun (wx : World) (hx : Below w2.heap.size w2 wx) => zzspan_of q1 q2 x1 x2 wx _ (fun wy hy =>
    span_any q1 q2 n1 n2 x1 x2 wy ((T2.out.below hx h4).below hy (Nat.le_trans h4 hx.size)) ((t1.below hx).below hy) ((t2.below hx).below hy) hn)
  clear hs hpl e1 e2 e3 e4 e5 t1 t2 hn T2 HC HT HB
  generalize spanT n1 n2 x1 x2 = S at *
  generalize (od (lastOf n1 n2) 4607182418800017408 != some .eq) = pl at *
  have g1 : ¬ 9223372036854775807 < S.size + 1 := by omega
  have g2 : ¬ 9223372036854775807 < S.size + 1 + u.size := by omega
  have g3 : ¬ 9223372036854775807 < S.size + 1 + u.size + 1 := by omega
  cases pl
  · rw [ofT_false] at HO
    go_wp2_with (go_at_call 10; refine (HO.out _ ((Below.refl _ _).alloc (Nat.le_refl _) _)).mono ?_; rintro r w3 ⟨rfl, hb3⟩; obtain ⟨c0, c1, c2, c3, H3⟩ := box_cells (below_step (Below.refl (w2.heap.size + 1) (w2.alloc (.cells #[.pointer q1, .pointer q2, .bool x1, .bool x2] 27))) (by simp) hb3))
    go_at_call 6
    refine (HS.out _ (box_far H3.out)).mono ?_
    rintro r w4 ⟨rfl, hb4⟩
    have H4 := hid (box_far (below_step H3.out (by simp) hb4))
    go_wp2_with (go_at_call 11; refine (HE.out _).mono ?_; rintro r wx ⟨rfl, hwx⟩; rw [hwx]; clear hwx)
    go_ret
    exact ⟨rfl, HB2.out.trans (H4.out.mono HB2.out.size)⟩
  · rw [ofT_true] at HO
    go_wp2_with (go_at_call 10; refine (HO.out _ ((Below.refl _ _).alloc (Nat.le_refl _) _)).mono ?_; rintro r w3 ⟨rfl, hb3⟩; obtain ⟨c0, c1, c2, c3, H3⟩ := box_cells (below_step (Below.refl (w2.heap.size + 1) (w2.alloc (.cells #[.pointer q1, .pointer q2, .bool x1, .bool x2] 27))) (by simp) hb3))
    go_at_call 6
    refine (HS.out _ (box_far H3.out)).mono ?_
    rintro r w4 ⟨rfl, hb4⟩
    have H4 := hid (box_far (below_step H3.out (by simp) hb4))
    go_wp2_with (go_at_call 11; refine (HE.out _).mono ?_; rintro r wx ⟨rfl, hwx⟩; rw [hwx]; clear hwx)
    go_ret
    exact ⟨rfl, HB2.out.trans (H4.out.mono HB2.out.size)⟩

set_option maxRecDepth 20000 in
set_option maxHeartbeats 2000000 in
theorem law3_b (a2 : Addr) (b2 : Nat) (x1 x2 : Bool) (u : ByteArray) (w : World) (h1 : Pt w none none) (h2 : Pt w (some a2) (some b2)) (hf : ∀ a, none = some a → w.frozen? a = false)
    (hu : u.size ≤ 65536) (hT : Tabs w) :
    Calls Tryd.prog 4 #[.pointer none, .pointer (some a2), .bool x1, .bool x2, .string u] w fun r w' => r = .returned (.bool true) ∧ Below w.heap.size w w' := by
  have HC := hid (copy_any none (some a2) none (some b2) w h1 h2 hf)
  have HB := hid fun v1 v2 v3 v4 (wx : World) => bytes_any v1 v2 v3 v4 u wx (by unfold maxLen; omega)
  have hd : decide (u.size ≤ 1048576) = true := decide_eq_true (by omega)
  rw [hd] at HB
  have hd2 : decide ((65536 : Int) < (u.size : Int)) = false := decide_eq_false (by omega)
  have HT := hid hT
  clear hT hf h1 h2 hd
  go_enter Tryd.func4, Tryd.ntmps4
  go_wp2_with (go_at_call 8; refine (HB.out _ _ _ _ _).mono ?_; rintro r wx ⟨rfl, hwx⟩; rw [hwx]; clear hwx)
  go_at_call 9
  refine HC.out.mono ?_
  rintro r w1 ⟨q1, q2, n1, n2, rfl, t1, t2, hn, hb1⟩
  have hn := hn (by simp)
  go_wp2_with fail
  go_at_call 7
  refine (bounds_any q1 q2 x1 x2 w1).mono ?_
  rintro r w2 ⟨rfl, hb2⟩
  have t1 := t1.below hb2
  have t2 := t2.below hb2
  have HB2 := hid (hb1.trans (hb2.mono hb1.size))
  have T2 := hid (HT.out.below HB2.out (by have := HT.out.h3; omega))
  clear hb1 hb2
  have hS := span_size n1 n2 x1 x2
  obtain ⟨P, c, hs, hpl⟩ := span_tail n1 n2 x1 x2 t1.lt t2.lt hn
  obtain ⟨k, y1, y2, e1, e2, e3, e4, e5⟩ := ends_span _ P c _ hs hS (hpl.trans (pl_of _))
  have HE := hid fun (wx : World) => ends_any (spanT n1 n2 x1 x2) k y1 y2 wx e1 e2 e3 e4
  rw [e5] at HE
  have h4 : 4 ≤ w2.heap.size := T2.out.h3
  have HO := hid fun (wx : World) (hx : Below w2.heap.size w2 wx) => zzof_of q1 q2 x1 x2 u wx _ (fun wy hy =>
    of_any q1 q2 n1 n2 x1 x2 u wy ((T2.out.below hx h4).below hy (Nat.le_trans h4 hx.size)) ((t1.below hx).below hy) ((t2.below hx).below hy) hn hu)
  have HS := hid fun (wx : World) (hx : Below w2.heap.size w2 wx) => zzspan_of q1 q2 x1 x2 wx _ (fun wy hy =>
    span_any q1 q2 n1 n2 x1 x2 wy ((T2.out.below hx h4).below hy (Nat.le_trans h4 hx.size)) ((t1.below hx).below hy) ((t2.below hx).below hy) hn)
  clear hs hpl e1 e2 e3 e4 e5 t1 t2 hn T2 HC HT HB
  generalize spanT n1 n2 x1 x2 = S at *
  generalize (od (lastOf n1 n2) 4607182418800017408 != some .eq) = pl at *
  have g1 : ¬ 9223372036854775807 < S.size + 1 := by omega
  have g2 : ¬ 9223372036854775807 < S.size + 1 + u.size := by omega
  have g3 : ¬ 9223372036854775807 < S.size + 1 + u.size + 1 := by omega
  cases pl
  · rw [ofT_false] at HO
    go_wp2_with (go_at_call 10; refine (HO.out _ ((Below.refl _ _).alloc (Nat.le_refl _) _)).mono ?_; rintro r w3 ⟨rfl, hb3⟩; obtain ⟨c0, c1, c2, c3, H3⟩ := box_cells (below_step (Below.refl (w2.heap.size + 1) (w2.alloc (.cells #[.pointer q1, .pointer q2, .bool x1, .bool x2] 27))) (by simp) hb3))
    go_at_call 6
    refine (HS.out _ (box_far H3.out)).mono ?_
    rintro r w4 ⟨rfl, hb4⟩
    have H4 := hid (box_far (below_step H3.out (by simp) hb4))
    go_wp2_with (go_at_call 11; refine (HE.out _).mono ?_; rintro r wx ⟨rfl, hwx⟩; rw [hwx]; clear hwx)
    go_ret
    exact ⟨rfl, HB2.out.trans (H4.out.mono HB2.out.size)⟩
  · rw [ofT_true] at HO
    go_wp2_with (go_at_call 10; refine (HO.out _ ((Below.refl _ _).alloc (Nat.le_refl _) _)).mono ?_; rintro r w3 ⟨rfl, hb3⟩; obtain ⟨c0, c1, c2, c3, H3⟩ := box_cells (below_step (Below.refl (w2.heap.size + 1) (w2.alloc (.cells #[.pointer q1, .pointer q2, .bool x1, .bool x2] 27))) (by simp) hb3))
    go_at_call 6
    refine (HS.out _ (box_far H3.out)).mono ?_
    rintro r w4 ⟨rfl, hb4⟩
    have H4 := hid (box_far (below_step H3.out (by simp) hb4))
    go_wp2_with (go_at_call 11; refine (HE.out _).mono ?_; rintro r wx ⟨rfl, hwx⟩; rw [hwx]; clear hwx)
    go_ret
    exact ⟨rfl, HB2.out.trans (H4.out.mono HB2.out.size)⟩

set_option maxRecDepth 20000 in
set_option maxHeartbeats 2000000 in
theorem law3_c (a1 a2 : Addr) (b1 b2 : Nat) (x1 x2 : Bool) (u : ByteArray) (w : World) (h1 : Pt w (some a1) (some b1)) (h2 : Pt w (some a2) (some b2)) (hf : ∀ a, (some a1) = some a → w.frozen? a = false)
    (hu : u.size ≤ 65536) (hT : Tabs w) :
    Calls Tryd.prog 4 #[.pointer (some a1), .pointer (some a2), .bool x1, .bool x2, .string u] w fun r w' => r = .returned (.bool true) ∧ Below w.heap.size w w' := by
  have HC := hid (copy_any (some a1) (some a2) (some b1) (some b2) w h1 h2 hf)
  have HB := hid fun v1 v2 v3 v4 (wx : World) => bytes_any v1 v2 v3 v4 u wx (by unfold maxLen; omega)
  have hd : decide (u.size ≤ 1048576) = true := decide_eq_true (by omega)
  rw [hd] at HB
  have hd2 : decide ((65536 : Int) < (u.size : Int)) = false := decide_eq_false (by omega)
  have HT := hid hT
  clear hT hf h1 h2 hd
  go_enter Tryd.func4, Tryd.ntmps4
  go_wp2_with (go_at_call 8; refine (HB.out _ _ _ _ _).mono ?_; rintro r wx ⟨rfl, hwx⟩; rw [hwx]; clear hwx)
  go_at_call 9
  refine HC.out.mono ?_
  rintro r w1 ⟨q1, q2, n1, n2, rfl, t1, t2, hn, hb1⟩
  have hn := hn (by simp)
  go_wp2_with fail
  go_at_call 7
  refine (bounds_any q1 q2 x1 x2 w1).mono ?_
  rintro r w2 ⟨rfl, hb2⟩
  have t1 := t1.below hb2
  have t2 := t2.below hb2
  have HB2 := hid (hb1.trans (hb2.mono hb1.size))
  have T2 := hid (HT.out.below HB2.out (by have := HT.out.h3; omega))
  clear hb1 hb2
  have hS := span_size n1 n2 x1 x2
  obtain ⟨P, c, hs, hpl⟩ := span_tail n1 n2 x1 x2 t1.lt t2.lt hn
  obtain ⟨k, y1, y2, e1, e2, e3, e4, e5⟩ := ends_span _ P c _ hs hS (hpl.trans (pl_of _))
  have HE := hid fun (wx : World) => ends_any (spanT n1 n2 x1 x2) k y1 y2 wx e1 e2 e3 e4
  rw [e5] at HE
  have h4 : 4 ≤ w2.heap.size := T2.out.h3
  have HO := hid fun (wx : World) (hx : Below w2.heap.size w2 wx) => zzof_of q1 q2 x1 x2 u wx _ (fun wy hy =>
    of_any q1 q2 n1 n2 x1 x2 u wy ((T2.out.below hx h4).below hy (Nat.le_trans h4 hx.size)) ((t1.below hx).below hy) ((t2.below hx).below hy) hn hu)
  have HS := hid fun (wx : World) (hx : Below w2.heap.size w2 wx) => zzspan_of q1 q2 x1 x2 wx _ (fun wy hy =>
    span_any q1 q2 n1 n2 x1 x2 wy ((T2.out.below hx h4).below hy (Nat.le_trans h4 hx.size)) ((t1.below hx).below hy) ((t2.below hx).below hy) hn)
  clear hs hpl e1 e2 e3 e4 e5 t1 t2 hn T2 HC HT HB
  generalize spanT n1 n2 x1 x2 = S at *
  generalize (od (lastOf n1 n2) 4607182418800017408 != some .eq) = pl at *
  have g1 : ¬ 9223372036854775807 < S.size + 1 := by omega
  have g2 : ¬ 9223372036854775807 < S.size + 1 + u.size := by omega
  have g3 : ¬ 9223372036854775807 < S.size + 1 + u.size + 1 := by omega
  cases pl
  · rw [ofT_false] at HO
    go_wp2_with (go_at_call 10; refine (HO.out _ ((Below.refl _ _).alloc (Nat.le_refl _) _)).mono ?_; rintro r w3 ⟨rfl, hb3⟩; obtain ⟨c0, c1, c2, c3, H3⟩ := box_cells (below_step (Below.refl (w2.heap.size + 1) (w2.alloc (.cells #[.pointer q1, .pointer q2, .bool x1, .bool x2] 27))) (by simp) hb3))
    go_at_call 6
    refine (HS.out _ (box_far H3.out)).mono ?_
    rintro r w4 ⟨rfl, hb4⟩
    have H4 := hid (box_far (below_step H3.out (by simp) hb4))
    go_wp2_with (go_at_call 11; refine (HE.out _).mono ?_; rintro r wx ⟨rfl, hwx⟩; rw [hwx]; clear hwx)
    go_ret
    exact ⟨rfl, HB2.out.trans (H4.out.mono HB2.out.size)⟩
  · rw [ofT_true] at HO
    go_wp2_with (go_at_call 10; refine (HO.out _ ((Below.refl _ _).alloc (Nat.le_refl _) _)).mono ?_; rintro r w3 ⟨rfl, hb3⟩; obtain ⟨c0, c1, c2, c3, H3⟩ := box_cells (below_step (Below.refl (w2.heap.size + 1) (w2.alloc (.cells #[.pointer q1, .pointer q2, .bool x1, .bool x2] 27))) (by simp) hb3))
    go_at_call 6
    refine (HS.out _ (box_far H3.out)).mono ?_
    rintro r w4 ⟨rfl, hb4⟩
    have H4 := hid (box_far (below_step H3.out (by simp) hb4))
    go_wp2_with (go_at_call 11; refine (HE.out _).mono ?_; rintro r wx ⟨rfl, hwx⟩; rw [hwx]; clear hwx)
    go_ret
    exact ⟨rfl, HB2.out.trans (H4.out.mono HB2.out.size)⟩

set_option maxRecDepth 20000 in
set_option maxHeartbeats 1000000 in
theorem law3_nil (x1 x2 : Bool) (u : ByteArray) (w : World) (hu : u.size ≤ 65536) :
    Calls Tryd.prog 4 #[.pointer none, .pointer none, .bool x1, .bool x2, .string u] w fun r w' => r = .returned (.bool true) ∧ Below w.heap.size w w' := by
  have HB := hid fun v1 v2 v3 v4 (wx : World) => bytes_any v1 v2 v3 v4 u wx (by unfold maxLen; omega)
  have hd : decide (u.size ≤ 1048576) = true := decide_eq_true (by omega)
  rw [hd] at HB
  have hd2 : decide ((65536 : Int) < (u.size : Int)) = false := decide_eq_false (by omega)
  go_enter Tryd.func4, Tryd.ntmps4
  go_wp2_with (go_at_call 8; refine (HB.out _ _ _ _ _).mono ?_; rintro r wx ⟨rfl, hwx⟩; rw [hwx]; clear hwx)
  go_ret
  exact ⟨rfl, Below.refl _ _⟩

set_option maxRecDepth 20000 in
set_option maxHeartbeats 1000000 in
theorem law3_long (v1 v2 v3 v4 : Value) (u : ByteArray) (w : World) (hu : u.size ≤ maxLen) (hl : 65536 < u.size) :
    Calls Tryd.prog 4 #[v1, v2, v3, v4, .string u] w fun r w' => r = .returned (.bool true) ∧ Below w.heap.size w w' := by
  have HB0 := fun v1 v2 v3 v4 (wx : World) => bytes_any v1 v2 v3 v4 u wx hu
  unfold maxLen at hu
  by_cases h : u.size ≤ 1048576
  · rw [decide_eq_true h] at HB0
    have HB := hid HB0
    clear HB0
    have hd2 : decide ((65536 : Int) < (u.size : Int)) = true := decide_eq_true (by omega)
    go_enter Tryd.func4, Tryd.ntmps4
    go_wp2_with (go_at_call 8; refine (HB.out _ _ _ _ _).mono ?_; rintro r wx ⟨rfl, hwx⟩; rw [hwx]; clear hwx)
    go_ret
    exact ⟨rfl, Below.refl _ _⟩
  · rw [decide_eq_false h] at HB0
    have HB := hid HB0
    clear HB0
    go_enter Tryd.func4, Tryd.ntmps4
    go_wp2_with (go_at_call 8; refine (HB.out _ _ _ _ _).mono ?_; rintro r wx ⟨rfl, hwx⟩; rw [hwx]; clear hwx)
    go_ret
    exact ⟨rfl, Below.refl _ _⟩

theorem law3_any (p1 p2 : Option Addr) (m1 m2 : Option Nat) (x1 x2 : Bool) (u : ByteArray) (w : World) (h1 : Pt w p1 m1) (h2 : Pt w p2 m2) (hf : ∀ a, p1 = some a → w.frozen? a = false)
    (hu : u.size ≤ maxLen) (hT : Tabs w) :
    Calls Tryd.prog 4 #[.pointer p1, .pointer p2, .bool x1, .bool x2, .string u] w fun r w' => r = .returned (.bool true) ∧ Below w.heap.size w w' := by
  rcases Nat.lt_or_ge 65536 u.size with hl | hl
  · exact law3_long _ _ _ _ u w hu hl
  · match p1, m1, h1, p2, m2, h2 with
    | none, none, _, none, none, _ => exact law3_nil x1 x2 u w hl
    | some a1, some b1, h1, none, none, h2 => exact law3_a a1 b1 x1 x2 u w h1 h2 hf hl hT
    | none, none, h1, some a2, some b2, h2 => exact law3_b a2 b2 x1 x2 u w h1 h2 hf hl hT
    | some a1, some b1, h1, some a2, some b2, h2 => exact law3_c a1 a2 b1 b2 x1 x2 u w h1 h2 hf hl hT
end Go.Proofs.Qxb6603897aDoor
