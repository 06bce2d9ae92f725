/-
  The walks of of, ZZof, qb1Copy, qb1EndsInOne, zzBytes.
-/
import Derived.Test.Qxb6603897aDoorOne
import Derived.Test.Qxb6603897aDoorSmall2
namespace Go.Proofs.Qxb6603897aDoor
open Go.RowKit Ieee

/-- An end: nil, or a cell with a float64. -/
def Pt (w : World) : Option Addr → Option Nat → Prop
  | none, none => True
  | some a, some b => w.cell? a = some (.float .f64 b) ∧ a.block < w.heap.size ∧ b < 18446744073709551616
  | _, _ => False
theorem Pt.below {w w' : World} {p : Option Addr} {m : Option Nat} (h : Pt w p m) (hb : Below w.heap.size w w') : Pt w' p m := by
  match p, m, h with
  | none, none, _ => trivial
  | some a, some b, ⟨h1, h2, h3⟩ => exact ⟨by rw [hb.cell h2]; exact h1, Nat.lt_of_lt_of_le h2 hb.size, h3⟩
theorem Pt.lt {w : World} {p : Option Addr} {m : Option Nat} (h : Pt w p m) : ∀ b, m = some b → b < 18446744073709551616 := by
  match p, m, h with
  | none, none, _ => intro b hb; cases hb
  | some a, some b, ⟨_, _, h3⟩ => intro b hb; cases hb; exact h3

theorem span_any (p1 p2 : Option Addr) (m1 m2 : Option Nat) (x1 x2 : Bool) (w : World) (hT : Tabs w) (h1 : Pt w p1 m1) (h2 : Pt w p2 m2) (hn : m1 ≠ none ∨ m2 ≠ none) :
    Calls Tryd.prog 12 #[.agg #[.pointer p1, .pointer p2, .bool x1, .bool x2]] w fun r w' => r = .returned (.string (spanT m1 m2 x1 x2)) ∧ Below w.heap.size w w' := by
  match p1, m1, h1, p2, m2, h2 with
  | none, none, _, none, none, _ => simp at hn
  | some a1, some b1, ⟨c1, l1, k1⟩, none, none, _ => exact span_lo a1 b1 x1 x2 w k1 c1 l1 hT
  | none, none, _, some a2, some b2, ⟨c2, l2, k2⟩ => exact span_hi a2 b2 x1 x2 w k2 c2 l2 hT
  | some a1, some b1, ⟨c1, l1, k1⟩, some a2, some b2, ⟨c2, l2, k2⟩ =>
    cases x1 <;> cases x2
    · rw [spanT_plain]
      cases he : (FloatKind.f64.format.order b1 b2 == some .eq)
      · exact span_to a1 a2 b1 b2 w k1 k2 c1 l1 c2 l2 hT he
      · exact span_eq a1 a2 b1 b2 w k1 c1 l1 c2 l2 hT he
    · exact span_ft a1 a2 b1 b2 w k1 k2 c1 l1 c2 l2 hT
    · exact span_tf a1 a2 b1 b2 w k1 k2 c1 l1 c2 l2 hT
    · exact span_tt a1 a2 b1 b2 w k1 k2 c1 l1 c2 l2 hT

theorem size_app (a b : ByteArray) : (a ++ b).size = a.size + b.size := by simp
theorem size_len (a : ByteArray) : a.size = a.data.toList.length := by
  rw [Array.length_toList]
  rfl
theorem span_size (m1 m2 : Option Nat) (x1 x2 : Bool) : (spanT m1 m2 x1 x2).size ≤ 7000 := by
  have hb : ∀ y1 y2 b1 b2, (loS y1 b1 ++ andB ++ hiS y2 b2).size ≤ 7000 := by
    intro y1 y2 b1 b2
    have e1 := loS_len y1 b1
    have e2 := hiS_len y2 b2
    rw [← size_len] at e1 e2
    rw [size_app, size_app]
    have e3 : andB.size = 5 := rfl
    omega
  match m1, m2 with
  | none, none => exact Nat.zero_le _
  | some b1, none =>
    have e1 := loS_len x1 b1
    rw [← size_len] at e1
    show (loS x1 b1).size ≤ 7000
    omega
  | none, some b2 =>
    have e1 := hiS_len x2 b2
    rw [← size_len] at e1
    show (hiS x2 b2).size ≤ 7000
    omega
  | some b1, some b2 =>
    cases x1 <;> cases x2
    · rw [spanT_plain]
      have e1 := T_sz b1
      have e2 := T_sz b2
      split
      · rw [size_app]
        have e3 : exactB.size = 8 := rfl
        omega
      · rw [size_app, size_app]
        have e3 : toB.size = 4 := rfl
        omega
    · exact hb ..
    · exact hb ..
    · exact hb ..

/-- of's text. -/
def ofT (s u : ByteArray) (pl : Bool) : ByteArray := s ++ { data := #[32] } ++ (if pl then u ++ { data := #[115] } else u)

set_option maxRecDepth 20000 in
set_option maxHeartbeats 1000000 in
theorem of_hi (p1 : Option Addr) (a2 : Addr) (x1 x2 e : Bool) (s u : ByteArray) (b2 : Nat) (w : World) (hs : s.size ≤ 7000) (hu : u.size ≤ 65536)
    (hc : w.cell? a2 = some (.float .f64 b2)) (ha : a2.block < w.heap.size) (he : (FloatKind.f64.format.order b2 4607182418800017408 != some .eq) = e)
    (h : ∀ wx, Below w.heap.size w wx → Calls Tryd.prog 12 #[.agg #[.pointer p1, .pointer (some a2), .bool x1, .bool x2]] wx fun r w' => r = .returned (.string s) ∧ Below wx.heap.size wx w') :
    Calls Tryd.prog 13 #[.agg #[.pointer p1, .pointer (some a2), .bool x1, .bool x2], .string u] w fun r w' => r = .returned (.string (ofT s u e)) ∧ Below w.heap.size w w' := by
  have HS := hid h
  clear h
  have g1 : ¬ 9223372036854775807 < u.size + 1 := by omega
  have g2 : ¬ 9223372036854775807 < s.size + 1 := by omega
  have g3 : ¬ 9223372036854775807 < s.size + 1 + u.size := by omega
  have g4 : ¬ 9223372036854775807 < s.size + 1 + (u.size + 1) := by omega
  have H0 := hid ((Below.refl w.heap.size w).alloc (Nat.le_refl _) (.cells #[.pointer p1, .pointer (some a2), .bool x1, .bool x2] 27))
  have hc' : (w.alloc (.cells #[.pointer p1, .pointer (some a2), .bool x1, .bool x2] 27)).cell? a2 = some (.float .f64 b2) := by rw [H0.out.cell ha]; exact hc
  cases e <;>
  · go_enter Tryd.func13, Tryd.ntmps13
    go_wp2_with (go_at_call 12; refine (HS.out _ H0.out).mono ?_; rintro r w1 ⟨rfl, hb1⟩)
    go_ret
    exact ⟨rfl, H0.out.trans (hb1.mono H0.out.size)⟩

set_option maxRecDepth 20000 in
set_option maxHeartbeats 1000000 in
theorem of_lo (a1 : Addr) (x1 x2 e : Bool) (s u : ByteArray) (b1 : Nat) (w : World) (hs : s.size ≤ 7000) (hu : u.size ≤ 65536)
    (hc : w.cell? a1 = some (.float .f64 b1)) (ha : a1.block < w.heap.size) (he : (FloatKind.f64.format.order b1 4607182418800017408 != some .eq) = e)
    (h : ∀ wx, Below w.heap.size w wx → Calls Tryd.prog 12 #[.agg #[.pointer (some a1), .pointer none, .bool x1, .bool x2]] wx fun r w' => r = .returned (.string s) ∧ Below wx.heap.size wx w') :
    Calls Tryd.prog 13 #[.agg #[.pointer (some a1), .pointer none, .bool x1, .bool x2], .string u] w fun r w' => r = .returned (.string (ofT s u e)) ∧ Below w.heap.size w w' := by
  have HS := hid h
  clear h
  have g1 : ¬ 9223372036854775807 < u.size + 1 := by omega
  have g2 : ¬ 9223372036854775807 < s.size + 1 := by omega
  have g3 : ¬ 9223372036854775807 < s.size + 1 + u.size := by omega
  have g4 : ¬ 9223372036854775807 < s.size + 1 + (u.size + 1) := by omega
  have H0 := hid ((Below.refl w.heap.size w).alloc (Nat.le_refl _) (.cells #[.pointer (some a1), .pointer none, .bool x1, .bool x2] 27))
  have hc' : (w.alloc (.cells #[.pointer (some a1), .pointer none, .bool x1, .bool x2] 27)).cell? a1 = some (.float .f64 b1) := by rw [H0.out.cell ha]; exact hc
  cases e <;>
  · go_enter Tryd.func13, Tryd.ntmps13
    go_wp2_with (go_at_call 12; refine (HS.out _ H0.out).mono ?_; rintro r w1 ⟨rfl, hb1⟩)
    go_ret
    exact ⟨rfl, H0.out.trans (hb1.mono H0.out.size)⟩

theorem of_any (p1 p2 : Option Addr) (m1 m2 : Option Nat) (x1 x2 : Bool) (u : ByteArray) (w : World) (hT : Tabs w) (h1 : Pt w p1 m1) (h2 : Pt w p2 m2) (hn : m1 ≠ none ∨ m2 ≠ none) (hu : u.size ≤ 65536) :
    Calls Tryd.prog 13 #[.agg #[.pointer p1, .pointer p2, .bool x1, .bool x2], .string u] w fun r w' => r = .returned (.string (ofT (spanT m1 m2 x1 x2) u (od (lastOf m1 m2) 4607182418800017408 != some .eq))) ∧ Below w.heap.size w w' := by
  have hs := span_size m1 m2 x1 x2
  have H : ∀ wx, Below w.heap.size w wx → Calls Tryd.prog 12 #[.agg #[.pointer p1, .pointer p2, .bool x1, .bool x2]] wx fun r w' => r = .returned (.string (spanT m1 m2 x1 x2)) ∧ Below wx.heap.size wx w' :=
    fun wx hb => span_any p1 p2 m1 m2 x1 x2 wx (hT.below hb (by have := hT.h3; omega)) (h1.below hb) (h2.below hb) hn
  match p1, m1, h1, p2, m2, h2 with
  | none, none, _, none, none, _ => simp at hn
  | some a1, some b1, ⟨c1, l1, k1⟩, none, none, _ => exact of_lo a1 x1 x2 _ _ u b1 w hs hu c1 l1 rfl H
  | none, none, _, some a2, some b2, ⟨c2, l2, k2⟩ => exact of_hi none a2 x1 x2 _ _ u b2 w hs hu c2 l2 rfl H
  | some a1, some b1, _, some a2, some b2, ⟨c2, l2, k2⟩ => exact of_hi (some a1) a2 x1 x2 _ _ u b2 w hs hu c2 l2 rfl H

set_option maxHeartbeats 1000000 in
theorem zzof_of (p1 p2 : Option Addr) (x1 x2 : Bool) (u : ByteArray) (w : World) (s : ByteArray)
    (h : ∀ wx, Below w.heap.size w wx → Calls Tryd.prog 13 #[.agg #[.pointer p1, .pointer p2, .bool x1, .bool x2], .string u] wx fun r w' => r = .returned (.string s) ∧ Below wx.heap.size wx w') :
    Calls Tryd.prog 10 #[.agg #[.pointer p1, .pointer p2, .bool x1, .bool x2], .string u] w fun r w' => r = .returned (.string s) ∧ Below w.heap.size w w' := by
  have HH := hid h
  clear h
  go_enter Tryd.func10, Tryd.ntmps10
  go_wp2_with fail
  go_at_call 13
  have hb := (Below.refl w.heap.size w).alloc (Nat.le_refl _) (.cells #[.pointer p1, .pointer p2, .bool x1, .bool x2] 27)
  refine (HH.out _ hb).mono ?_
  rintro r w' ⟨rfl, hb'⟩
  go_wp2
  go_ret
  exact ⟨rfl, hb.trans (hb'.mono hb.size)⟩
end Go.Proofs.Qxb6603897aDoor
