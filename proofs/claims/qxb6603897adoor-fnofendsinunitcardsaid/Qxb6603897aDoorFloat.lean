/-
  Plain: a word of a float64 as the model reads it; what is whole.
-/
import Derived.Test.Qxb6603897aDoorItoa
import Derived.Laws.FloatArith
namespace Go.Proofs.Qxb6603897aDoor
open Go.RowKit Ieee

abbrev rd (b : Nat) : Datum := FloatKind.f64.format.read b
abbrev od (a b : Nat) : Option Ordering := FloatKind.f64.format.order a b

theorem k1 : FloatKind.f64.format.signWeight = 9223372036854775808 := rfl
theorem k2 : FloatKind.f64.format.binade = 4503599627370496 := rfl
theorem k3 : FloatKind.f64.format.infRung = 9218868437227405312 := rfl
theorem k4 : FloatKind.f64.format.leastPlace = -1074 := rfl
theorem k5 : FloatKind.f64.format.fractionBits = 52 := rfl

theorem neg_read (b : Nat) (hb : b < 18446744073709551616) : (b / 9223372036854775808 % 2 == 1) = negOf b := by
  unfold negOf
  rcases (by omega : b / 9223372036854775808 = 0 ∨ b / 9223372036854775808 = 1) with h | h
  · rw [h]
    have : (b : Int) / 9223372036854775808 = 0 := by omega
    rw [this]
    rfl
  · rw [h]
    have : (b : Int) / 9223372036854775808 = 1 := by omega
    rw [this]
    rfl

theorem read_fin (b : Nat) (hb : b < 18446744073709551616) (hx : exOf b ≠ 2047) : rd b = .number (negOf b) (m0Of b) ((e0Of b : Int) - 1075) := by
  unfold rd Format.read
  simp only [k1, k2, k3, k4, neg_read b hb]
  unfold exOf at hx
  by_cases h0 : exOf b = 0
  · have h0' := h0
    unfold exOf at h0
    rw [if_pos (by omega)]
    rw [m0Of, e0Of, if_pos h0', if_pos h0', mantOf, show b % 9223372036854775808 = b % 4503599627370496 by omega]
    rfl
  · have h0' := h0
    unfold exOf at h0
    rw [if_neg (by omega), if_pos (by omega), m0Of, e0Of, if_neg h0', if_neg h0', mantOf, exOf]
    congr 1
    · omega
    · omega
theorem read_spec (b : Nat) (hb : b < 18446744073709551616) (hx : exOf b = 2047) : rd b = .infinity (negOf b) ∨ ∃ t, rd b = .nan (negOf b) t := by
  unfold rd Format.read
  simp only [k1, k2, k3, k4, neg_read b hb]
  unfold exOf at hx
  rw [if_neg (by omega), if_neg (by omega)]
  split
  · exact .inl rfl
  · exact .inr ⟨_, rfl⟩

theorem od_fin {a b : Nat} {s t : Bool} {m n : Nat} {i j : Int} (ha : rd a = .number s m i) (hb : rd b = .number t n j) :
    od a b = some (compare (signed s m (i - min i j).toNat) (signed t n (j - min i j).toNat)) := by
  unfold od Format.order
  rw [show FloatKind.f64.format.read a = _ from ha, show FloatKind.f64.format.read b = _ from hb]
  rfl
theorem signed_mul (s : Bool) (m k : Nat) : signed s m k = if s then -((m * 2 ^ k : Nat) : Int) else ((m * 2 ^ k : Nat) : Int) := by
  unfold signed
  rw [Nat.shiftLeft_eq]

theorem self_fin (b : Nat) (hb : b < 18446744073709551616) (hx : exOf b ≠ 2047) : od b b = some .eq := by
  rw [od_fin (read_fin b hb hx) (read_fin b hb hx), Int.compare_eq_eq.2 rfl]

theorem exp_big (b : Nat) (h : 2 ≤ e0Of b) : 4503599627370496 ≤ m0Of b := by
  unfold e0Of at h
  by_cases h0 : exOf b = 0
  · rw [if_pos h0] at h; omega
  · unfold m0Of; rw [if_neg h0]; omega

/-- Within 2^53 either way. -/
theorem in_range (b : Nat) (hb : b < 18446744073709551616) (hx : exOf b ≠ 2047) (hl : od b 14069245235905429504 ≠ some .lt) (hg : od b 4845873199050653696 ≠ some .gt) :
    e0Of b ≤ 1075 ∨ (e0Of b = 1076 ∧ m0Of b = 4503599627370496) := by
  by_cases he : e0Of b ≤ 1075
  · exact .inl he
  right
  have hm := exp_big b (by omega)
  have r1 : rd 14069245235905429504 = .number true 4503599627370496 1 := by decide +kernel
  have r2 : rd 4845873199050653696 = .number false 4503599627370496 1 := by decide +kernel
  rw [od_fin (read_fin b hb hx) r1] at hl
  rw [od_fin (read_fin b hb hx) r2] at hg
  obtain ⟨u, hu⟩ : ∃ u : Nat, e0Of b = 1076 + u := ⟨e0Of b - 1076, by omega⟩
  rw [show min ((e0Of b : Int) - 1075) 1 = 1 from by omega, show ((e0Of b : Int) - 1075 - 1).toNat = u from by omega] at hl hg
  simp only [signed_mul] at hl hg
  have hmu : m0Of b * 1 ≤ m0Of b * 2 ^ u := Nat.mul_le_mul_left _ (Nat.one_le_two_pow)
  have h2 : m0Of b * 2 ^ u ≤ 4503599627370496 := by
    generalize m0Of b * 2 ^ u = X at *
    cases hn : negOf b
    · rw [hn] at hg
      have : ¬ (4503599627370496 : Int) < (X : Int) := fun h => hg (by rw [Int.compare_eq_gt.2]; simpa using h)
      omega
    · rw [hn] at hl
      have : ¬ ((X : Int) > 4503599627370496) := fun h => hl (by rw [Int.compare_eq_lt.2]; simp; omega)
      omega
  have hu0 : u = 0 := by
    rcases Nat.eq_zero_or_pos u with h | h
    · exact h
    · exfalso
      have : m0Of b * 2 ^ 1 ≤ m0Of b * 2 ^ u := Nat.mul_le_mul_left _ (Nat.pow_le_pow_right (by omega) h)
      omega
  omega

theorem cut_zero (s : Bool) (n d : Nat) : Toward.zero.cut s n d = n / 2 ^ d := by
  unfold Toward.cut
  simp only [Nat.shiftLeft_eq, Nat.one_mul, Bool.toNat_false, Nat.add_zero]
  rcases Nat.le_total d (n.log2 + 2) with h | h
  · rw [Nat.min_eq_left h]
  · have h1 : n < 2 ^ (n.log2 + 1) := Nat.lt_log2_self
    have h2 : n < 2 ^ (n.log2 + 2) := Nat.lt_trans h1 (Nat.pow_lt_pow_right (by omega) (by omega))
    rw [Nat.min_eq_right h, Nat.div_eq_of_lt h2, Nat.div_eq_of_lt (Nat.lt_of_lt_of_le h2 (Nat.pow_le_pow_right (by omega) h))]
theorem cut_even0 (s : Bool) (n : Nat) : Toward.even.cut s n 0 = n := by
  unfold Toward.cut
  simp [Nat.shiftLeft_eq, Nat.mod_one]

/-- int64(x). -/
theorem to_int (b k : Nat) (hb : b < 18446744073709551616) (hx : exOf b ≠ 2047) (hk : e0Of b + k = 1075) :
    floatToIntVal .f64 b .i64 = some (if negOf b then -((m0Of b / 2 ^ k : Nat) : Int) else ((m0Of b / 2 ^ k : Nat) : Int)) := by
  have hm : m0Of b < 9007199254740992 := by
    unfold m0Of mantOf
    split <;> omega
  have hq : m0Of b / 2 ^ k ≤ m0Of b := Nat.div_le_self _ _
  unfold floatToIntVal FloatKind.decode
  rw [show FloatKind.f64.format.read b = _ from read_fin b hb hx]
  simp only [Datum.toInt, Datum.integral, cut_zero]
  rw [show ((e0Of b : Int) - 1075).toNat = 0 from by omega, show (-((e0Of b : Int) - 1075)).toNat = k from by omega, signed_mul]
  simp only [Nat.shiftLeft_eq, Nat.pow_zero, Nat.mul_one]
  rw [if_pos]
  generalize m0Of b / 2 ^ k = q at *
  have e1 : IntKind.i64.min = -9223372036854775808 := rfl
  have e2 : IntKind.i64.max = 9223372036854775807 := rfl
  rw [e1, e2]
  split <;> constructor <;> omega

/-- float64(n), exact below 2^53. -/
theorem read_near (s : Bool) (n : Nat) (h1 : 1 ≤ n) (h2 : n < 9007199254740992) : ∃ j : Nat, j ≤ 52 ∧
    rd (FloatKind.f64.format.nearest s n 0) = .number s (n * 2 ^ j) (-(j : Int)) := by
  have hl : n.log2 < 53 := (Nat.log2_lt (by omega)).2 h2
  obtain ⟨j, hj⟩ : ∃ j : Nat, n.log2 + j = 52 := ⟨52 - n.log2, by omega⟩
  refine ⟨j, by omega, ?_⟩
  have a1 : 2 ^ n.log2 ≤ n := Nat.log2_self_le (by omega)
  have a2 : n < 2 ^ (n.log2 + 1) := Nat.lt_log2_self
  have b1 : 4503599627370496 ≤ n * 2 ^ j := by
    have := Nat.mul_le_mul_right (2 ^ j) a1
    rw [← Nat.pow_add, hj] at this
    exact this
  have b2 : n * 2 ^ j < 9007199254740992 := by
    have := (Nat.mul_lt_mul_right (Nat.two_pow_pos j)).2 a2
    rw [← Nat.pow_add, show n.log2 + 1 + j = 53 by omega] at this
    exact this
  have e : FloatKind.f64.format.nearest s n 0 = FloatKind.f64.format.word s ((1074 - j) * 4503599627370496 + n * 2 ^ j) := by
    unfold Format.nearest
    rw [if_neg (by omega)]
    simp only [k2, k3, k4, k5]
    rw [show max ((0 : Int) + (n.log2 : Int) - ((52 : Nat) : Int)) (-1074) = -(j : Int) from by omega]
    rw [show ((0 : Int) - -(j : Int)).toNat = j from by omega, show (-(j : Int) - 0).toNat = 0 from by omega, cut_even0, Nat.shiftLeft_eq, show (-(j : Int) - -1074).toNat = 1074 - j from by omega]
    rw [Nat.min_eq_left (by omega)]
  rw [e]
  generalize n * 2 ^ j = x at *
  unfold rd Format.read
  have hw : FloatKind.f64.format.word s ((1074 - j) * 4503599627370496 + x) % 9223372036854775808 = (1074 - j) * 4503599627370496 + x := by
    unfold Format.word
    rw [k1]
    cases s <;> simp <;> omega
  have hs : (FloatKind.f64.format.word s ((1074 - j) * 4503599627370496 + x) / 9223372036854775808 % 2 == 1) = s := by
    unfold Format.word
    rw [k1]
    cases s
    · rw [if_neg (by simp), show ((1074 - j) * 4503599627370496 + x) / 9223372036854775808 = 0 from by omega]
      rfl
    · rw [if_pos rfl, show (9223372036854775808 + ((1074 - j) * 4503599627370496 + x)) / 9223372036854775808 = 1 from by omega]
      rfl
  simp only [k1, k2, k3, k4, hw, hs]
  rw [if_neg (by omega), if_pos (by omega)]
  congr 1
  · omega
  · omega

/-- Equal to its own whole part: it is whole. -/
theorem whole_of (b k n : Nat) (hb : b < 18446744073709551616) (hx : exOf b ≠ 2047) (hk : e0Of b + k = 1075) (h1 : 1 ≤ n) (h2 : n < 9007199254740992) (s : Bool)
    (h : od (FloatKind.f64.format.nearest s n 0) b = some .eq) : m0Of b = n * 2 ^ k ∧ k ≤ 52 := by
  obtain ⟨j, hj, hr⟩ := read_near s n h1 h2
  have hm : m0Of b < 9007199254740992 := by
    unfold m0Of mantOf
    split <;> omega
  rw [od_fin hr (read_fin b hb hx), show ((e0Of b : Int) - 1075) = -(k : Int) from by omega] at h
  injection h with h
  have h := Int.compare_eq_eq.1 h
  simp only [signed_mul] at h
  have key : m0Of b = n * 2 ^ k := by
    rcases Nat.le_total j k with hjk | hjk
    · rw [show min (-(j : Int)) (-(k : Int)) = -(k : Int) from by omega, show (-(j : Int) - -(k : Int)).toNat = k - j from by omega, show (-(k : Int) - -(k : Int)).toNat = 0 from by omega,
        Nat.mul_assoc, ← Nat.pow_add, show j + (k - j) = k by omega, Nat.pow_zero, Nat.mul_one] at h
      split at h <;> split at h <;> omega
    · rw [show min (-(j : Int)) (-(k : Int)) = -(j : Int) from by omega, show (-(j : Int) - -(j : Int)).toNat = 0 from by omega, show (-(k : Int) - -(j : Int)).toNat = j - k from by omega,
        Nat.pow_zero, Nat.mul_one] at h
      have h' : n * 2 ^ j = m0Of b * 2 ^ (j - k) := by split at h <;> split at h <;> omega
      rw [show j = k + (j - k) by omega, Nat.pow_add, ← Nat.mul_assoc, show k + (j - k) - k = j - k by omega] at h'
      exact (Nat.eq_of_mul_eq_mul_right (Nat.two_pow_pos _) h').symm
  refine ⟨key, ?_⟩
  rcases Nat.lt_or_ge 52 k with hk2 | hk2
  · exfalso
    have := Nat.mul_le_mul h1 (Nat.pow_le_pow_right (n := 2) (by omega) (show 53 ≤ k from hk2))
    omega
  · exact hk2
end Go.Proofs.Qxb6603897aDoor
