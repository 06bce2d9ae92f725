/-
  Plain: the text of a whole float64 within 2^53; the ways through law 2.
-/
import Derived.Test.Qxb6603897aDoorFloat
namespace Go.Proofs.Qxb6603897aDoor
open Go.RowKit Ieee

theorem len53 (b : Nat) (h1 : 4503599627370496 ≤ m0Of b) (h2 : m0Of b < 9007199254740992) : lenOf b = 53 := by
  obtain ⟨l1, l2, l3⟩ := bitLen_in (m0Of b) (by omega) (by omega)
  have a : 52 < lenOf b := (Nat.pow_lt_pow_iff_right (a := 2) (by omega)).1 (Nat.lt_of_le_of_lt (show 2 ^ 52 ≤ m0Of b by omega) l3)
  have c : lenOf b ≤ 53 := len_top l2 (show m0Of b < 2 ^ 53 by omega) l1
  omega
theorem m0_lt (b : Nat) : m0Of b < 9007199254740992 := by
  unfold m0Of mantOf
  split <;> omega

theorem text_whole (b k n : Nat) (hx : exOf b ≠ 2047) (hk : e0Of b + k = 1075) (hn : 1 ≤ n) (hm : m0Of b = n * 2 ^ k) (hk2 : k ≤ 52) : textOf b = sgnT (negOf b) ++ allD n := by
  have h1 := exp_big b (by omega)
  have h2 := m0_lt b
  have hl := len53 b h1 h2
  unfold textOf
  rw [if_neg hx, if_neg (by omega)]
  have e1 : m1Of b = n * 2 ^ k * 2048 := by
    unfold m1Of
    rw [hl, hm]
  have e2 : e1Of b = -(k : Int) - 11 := by
    unfold e1Of
    rw [hl]
    omega
  rw [e1, e2]
  rw [hm] at h1 h2
  rw [finT_same _ _ _ n hn (whole_short n k hk2 h1 h2), finT_whole]

theorem top_words (b : Nat) (hb : b < 18446744073709551616) (he : e0Of b = 1076) (hm : m0Of b = 4503599627370496) : b = 4845873199050653696 ∨ b = 14069245235905429504 := by
  unfold e0Of at he
  unfold m0Of at hm
  by_cases h0 : exOf b = 0
  · rw [if_pos h0] at he; omega
  · rw [if_neg h0] at he hm
    unfold exOf at he
    unfold mantOf at hm
    omega
theorem zero_words (b : Nat) (hb : b < 18446744073709551616) (hm : m0Of b = 0) : b = 0 ∨ b = 9223372036854775808 := by
  unfold m0Of at hm
  by_cases h0 : exOf b = 0
  · rw [if_pos h0] at hm
    unfold exOf at h0
    unfold mantOf at hm
    omega
  · rw [if_neg h0] at hm; omega
theorem text_top (b : Nat) (he : e0Of b = 1076) (hm : m0Of b = 4503599627370496) (hx : exOf b ≠ 2047) : textOf b = sgnT (negOf b) ++ allD 9007199254740992 := by
  have hl := len53 b (by omega) (by omega)
  unfold textOf
  rw [if_neg hx, if_neg (by omega)]
  have e1 : m1Of b = 9223372036854775808 := by
    unfold m1Of
    rw [hl, hm]
  have e2 : e1Of b = -10 := by
    unfold e1Of
    rw [hl]
    omega
  rw [e1, e2, top_short, finT_whole]

/-- What law 2 meets. -/
structure Whole (b n : Nat) : Prop where
  pos : 1 ≤ n
  le : n ≤ 9007199254740992
  self : od b b = some .eq
  toI : floatToIntVal .f64 b .i64 = some (if negOf b then -(n : Int) else (n : Int))
  back : od (floatOfInt .f64 (if negOf b then -(n : Int) else (n : Int))) b = some .eq
  nz : (od b 0 == some .eq) = false
  text : textOf b = sgnT (negOf b) ++ allD n

theorem floatOf (s : Bool) (n : Nat) (h : 1 ≤ n) : floatOfInt .f64 (if s then -(n : Int) else (n : Int)) = FloatKind.f64.format.nearest s n 0 := by
  unfold floatOfInt FloatKind.nearest FloatKind.encode Format.write
  cases s
  · have e : decide ((if false = true then -(n : Int) else (n : Int)) < 0) = false := by simp
    rw [e]
    simp
  · have e : decide ((if true = true then -(n : Int) else (n : Int)) < 0) = true := by simp; omega
    rw [e]
    simp

theorem not_zero (b : Nat) (hb : b < 18446744073709551616) (hx : exOf b ≠ 2047) (hm : m0Of b ≠ 0) : (od b 0 == some .eq) = false := by
  have r0 : rd 0 = .number false 0 (-1074) := by decide +kernel
  rw [od_fin (read_fin b hb hx) r0]
  cases h : compare (signed (negOf b) (m0Of b) ((e0Of b : Int) - 1075 - min ((e0Of b : Int) - 1075) (-1074)).toNat) (signed false 0 (-1074 - min ((e0Of b : Int) - 1075) (-1074)).toNat)
  · rfl
  · exfalso
    have h := Int.compare_eq_eq.1 h
    simp only [signed_mul] at h
    have hp := Nat.mul_le_mul (show 1 ≤ m0Of b by omega) (Nat.one_le_two_pow (n := ((e0Of b : Int) - 1075 - min ((e0Of b : Int) - 1075) (-1074)).toNat))
    generalize m0Of b * 2 ^ ((e0Of b : Int) - 1075 - min ((e0Of b : Int) - 1075) (-1074)).toNat = X at *
    simp only [Nat.zero_mul] at h
    split at h <;> omega
  · rfl

/-- The ways through law 2. -/
theorem ways (b : Nat) (hb : b < 18446744073709551616) :
    (od b b = none) ∨
    (od b b = some .eq ∧ od b 14069245235905429504 = some .lt) ∨
    (od b b = some .eq ∧ od b 14069245235905429504 ≠ some .lt ∧ od b 4845873199050653696 = some .gt) ∨
    (od b b = some .eq ∧ od b 14069245235905429504 ≠ some .lt ∧ od b 4845873199050653696 ≠ some .gt ∧
      ((b = 0 ∨ b = 9223372036854775808) ∨
       (∃ n, floatToIntVal .f64 b .i64 = some n ∧ od (floatOfInt .f64 n) b ≠ some .eq) ∨ ∃ n, Whole b n)) := by
  by_cases hx : exOf b = 2047
  · rcases read_spec b hb hx with h | ⟨t, h⟩
    · have e0 : od b b = some .eq := by
        unfold od Format.order
        rw [show FloatKind.f64.format.read b = _ from h]
        cases negOf b <;> rfl
      have r1 : rd 14069245235905429504 = .number true 4503599627370496 1 := by decide +kernel
      have r2 : rd 4845873199050653696 = .number false 4503599627370496 1 := by decide +kernel
      have e1 : od b 14069245235905429504 = some (if negOf b then .lt else .gt) := by
        unfold od Format.order
        rw [show FloatKind.f64.format.read b = _ from h, show FloatKind.f64.format.read 14069245235905429504 = _ from r1]
        rfl
      have e2 : od b 4845873199050653696 = some (if negOf b then .lt else .gt) := by
        unfold od Format.order
        rw [show FloatKind.f64.format.read b = _ from h, show FloatKind.f64.format.read 4845873199050653696 = _ from r2]
        rfl
      cases hn : negOf b
      · rw [hn] at e1 e2
        exact .inr (.inr (.inl ⟨e0, by rw [e1]; decide, e2⟩))
      · rw [hn] at e1
        exact .inr (.inl ⟨e0, e1⟩)
    · left
      unfold od Format.order
      rw [show FloatKind.f64.format.read b = _ from h]
      rfl
  · have e0 := self_fin b hb hx
    by_cases hl : od b 14069245235905429504 = some .lt
    · exact .inr (.inl ⟨e0, hl⟩)
    by_cases hg : od b 4845873199050653696 = some .gt
    · exact .inr (.inr (.inl ⟨e0, hl, hg⟩))
    refine .inr (.inr (.inr ⟨e0, hl, hg, ?_⟩))
    by_cases hm : m0Of b = 0
    · exact .inl (zero_words b hb hm)
    right
    rcases in_range b hb hx hl hg with he | ⟨he, hm2⟩
    · obtain ⟨k, hk⟩ : ∃ k, e0Of b + k = 1075 := ⟨1075 - e0Of b, by omega⟩
      have ht := to_int b k hb hx hk
      have hq : m0Of b / 2 ^ k < 9007199254740992 := Nat.lt_of_le_of_lt (Nat.div_le_self _ _) (m0_lt b)
      by_cases ho : od (floatOfInt .f64 (if negOf b then -((m0Of b / 2 ^ k : Nat) : Int) else ((m0Of b / 2 ^ k : Nat) : Int))) b = some .eq
      · right
        by_cases hz : m0Of b / 2 ^ k = 0
        · exfalso
          rw [hz] at ho
          have e : floatOfInt .f64 (if negOf b then -((0 : Nat) : Int) else ((0 : Nat) : Int)) = 0 := by cases negOf b <;> decide +kernel
          rw [e] at ho
          have h1 := not_zero b hb hx hm
          have r0 : rd 0 = .number false 0 (-1074) := by decide +kernel
          rw [od_fin (read_fin b hb hx) r0] at h1
          rw [od_fin r0 (read_fin b hb hx)] at ho
          injection ho with ho
          have ho := Int.compare_eq_eq.1 ho
          rw [Int.min_comm] at ho
          rw [Int.compare_eq_eq.2 ho.symm] at h1
          exact absurd h1 (by decide)
        · have hn1 : 1 ≤ m0Of b / 2 ^ k := Nat.pos_of_ne_zero hz
          have hw := ho
          rw [floatOf _ _ hn1] at hw
          obtain ⟨w1, w2⟩ := whole_of b k (m0Of b / 2 ^ k) hb hx hk hn1 hq _ hw
          exact ⟨m0Of b / 2 ^ k, hn1, Nat.le_of_lt hq, e0, ht, ho, not_zero b hb hx hm, text_whole b k _ hx hk hn1 w1 w2⟩
      · exact .inl ⟨_, ht, ho⟩
    · right
      refine ⟨9007199254740992, by omega, by omega, e0, ?_, ?_, not_zero b hb hx hm, text_top b he hm2 hx⟩
      · rcases top_words b hb he hm2 with rfl | rfl <;> decide +kernel
      · rcases top_words b hb he hm2 with rfl | rfl <;> decide +kernel
end Go.Proofs.Qxb6603897aDoor
