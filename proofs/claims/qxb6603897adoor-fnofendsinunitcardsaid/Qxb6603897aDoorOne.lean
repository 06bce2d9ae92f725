/-
  Plain: what equals 1.0; the text of a span and its end.
-/
import Derived.Test.Qxb6603897aDoorSpan4
import Derived.Test.Qxb6603897aDoorFloat
namespace Go.Proofs.Qxb6603897aDoor
open Go.RowKit Ieee

theorem od_symm {a b : Nat} (ha : a < 18446744073709551616) (hb : b < 18446744073709551616) (h : od a b = some .eq) : od b a = some .eq := by
  by_cases hxa : exOf a = 2047
  · by_cases hxb : exOf b = 2047
    · unfold od Format.order at *
      rcases read_spec a ha hxa with ea | ⟨t, ea⟩ <;> rcases read_spec b hb hxb with eb | ⟨u, eb⟩ <;>
        rw [show FloatKind.f64.format.read a = _ from ea, show FloatKind.f64.format.read b = _ from eb] at h <;>
        rw [show FloatKind.f64.format.read a = _ from ea, show FloatKind.f64.format.read b = _ from eb]
      · revert h
        cases negOf a <;> cases negOf b <;> decide
      · cases h
      · cases h
      · cases h
    · unfold od Format.order at *
      rcases read_spec a ha hxa with ea | ⟨t, ea⟩ <;>
        rw [show FloatKind.f64.format.read a = _ from ea, show FloatKind.f64.format.read b = _ from read_fin b hb hxb] at h
      · revert h
        cases negOf a <;> (intro h; cases h)
      · cases h
  · by_cases hxb : exOf b = 2047
    · unfold od Format.order at *
      rcases read_spec b hb hxb with eb | ⟨t, eb⟩ <;>
        rw [show FloatKind.f64.format.read b = _ from eb, show FloatKind.f64.format.read a = _ from read_fin a ha hxa] at h
      · revert h
        cases negOf b <;> (intro h; cases h)
      · cases h
    · rw [od_fin (read_fin a ha hxa) (read_fin b hb hxb)] at h
      rw [od_fin (read_fin b hb hxb) (read_fin a ha hxa)]
      injection h with h
      have h := Int.compare_eq_eq.1 h
      rw [Int.min_comm] at h
      rw [Int.compare_eq_eq.2 h.symm]

theorem one_iff (b : Nat) (hb : b < 18446744073709551616) : od b 4607182418800017408 = some .eq ↔ b = 4607182418800017408 := by
  constructor
  · intro h
    have r1 : rd 4607182418800017408 = .number false 4503599627370496 (-52) := by decide +kernel
    by_cases hx : exOf b = 2047
    · exfalso
      unfold od Format.order at h
      rcases read_spec b hb hx with e | ⟨t, e⟩ <;> rw [show FloatKind.f64.format.read b = _ from e, show FloatKind.f64.format.read 4607182418800017408 = _ from r1] at h
      · revert h
        cases negOf b <;> (intro h; cases h)
      · cases h
    · rw [od_fin (read_fin b hb hx) r1] at h
      injection h with h
      have h := Int.compare_eq_eq.1 h
      simp only [signed_mul] at h
      have hm : m0Of b < 9007199254740992 := by
        unfold m0Of mantOf
        split <;> omega
      rcases Nat.lt_or_ge (e0Of b) 1023 with he | he
      · exfalso
        obtain ⟨u, hu⟩ : ∃ u : Nat, e0Of b + (u + 1) = 1023 := ⟨1022 - e0Of b, by omega⟩
        rw [show min ((e0Of b : Int) - 1075) (-52) = (e0Of b : Int) - 1075 from by omega, show ((e0Of b : Int) - 1075 - ((e0Of b : Int) - 1075)).toNat = 0 from by omega, show ((-52 : Int) - ((e0Of b : Int) - 1075)).toNat = u + 1 from by omega, Nat.pow_zero, Nat.mul_one] at h
        have hp : 4503599627370496 * 2 ≤ 4503599627370496 * 2 ^ (u + 1) := Nat.mul_le_mul_left _ (by rw [Nat.pow_succ]; have := Nat.one_le_two_pow (n := u); omega)
        generalize 4503599627370496 * 2 ^ (u + 1) = X at *
        split at h <;> simp at h <;> omega
      · have hm2 := exp_big b (by omega)
        obtain ⟨u, hu⟩ : ∃ u : Nat, e0Of b = 1023 + u := ⟨e0Of b - 1023, by omega⟩
        rw [show min ((e0Of b : Int) - 1075) (-52) = -52 from by omega, show ((e0Of b : Int) - 1075 - -52).toNat = u from by omega, show ((-52 : Int) - -52).toNat = 0 from by omega, Nat.pow_zero, Nat.mul_one] at h
        have hmu : m0Of b * 1 ≤ m0Of b * 2 ^ u := Nat.mul_le_mul_left _ Nat.one_le_two_pow
        have hu0 : u = 0 := by
          rcases Nat.eq_zero_or_pos u with h0 | h0
          · exact h0
          · exfalso
            have : m0Of b * 2 ^ 1 ≤ m0Of b * 2 ^ u := Nat.mul_le_mul_left _ (Nat.pow_le_pow_right (by omega) h0)
            generalize m0Of b * 2 ^ u = X at *
            split at h <;> simp at h <;> omega
        subst hu0
        rw [Nat.pow_zero, Nat.mul_one] at h
        have hn : negOf b = false := by
          cases hn : negOf b
          · rfl
          · rw [hn] at h; simp at h; omega
        rw [hn] at h
        simp at h
        have he0 : exOf b ≠ 0 := by
          intro h0
          unfold e0Of at hu
          rw [if_pos h0] at hu
          omega
        unfold e0Of at hu
        unfold m0Of at h
        rw [if_neg he0] at hu h
        unfold negOf at hn
        have hn' : (b : Int) / 9223372036854775808 = 0 := by simpa using hn
        unfold exOf at hu
        unfold mantOf at h
        omega
  · rintro rfl
    decide +kernel

/-- What span writes. -/
def spanT : Option Nat → Option Nat → Bool → Bool → ByteArray
  | some b1, none, x1, _ => loS x1 b1
  | none, some b2, _, x2 => hiS x2 b2
  | some b1, some b2, false, false => if (FloatKind.f64.format.order b1 b2 == some .eq) then exactB ++ T b1 else T b1 ++ toB ++ T b2
  | some b1, some b2, x1, x2 => loS x1 b1 ++ andB ++ hiS x2 b2
  | none, none, _, _ => ⟨#[]⟩
theorem spanT_plain (b1 b2 : Nat) : spanT (some b1) (some b2) false false = if (FloatKind.f64.format.order b1 b2 == some .eq) then exactB ++ T b1 else T b1 ++ toB ++ T b2 := rfl
/-- The end that of looks at. -/
def lastOf : Option Nat → Option Nat → Nat
  | _, some b => b
  | some b, none => b
  | none, none => 0

theorem data_app (a b : ByteArray) : (a ++ b).data.toList = a.data.toList ++ b.data.toList := by simp
theorem lo_tail (x : Bool) (b : Nat) : ∃ P, (loS x b).data.toList = P ++ 32 :: (T b).data.toList := by
  unfold loS
  cases x
  · exact ⟨[97, 116, 32, 108, 101, 97, 115, 116], by rw [data_app]; rfl⟩
  · exact ⟨[103, 114, 101, 97, 116, 101, 114, 32, 116, 104, 97, 110], by rw [data_app]; rfl⟩
theorem hi_tail (x : Bool) (b : Nat) : ∃ P, (hiS x b).data.toList = P ++ 32 :: (T b).data.toList := by
  unfold hiS
  cases x
  · exact ⟨[97, 116, 32, 109, 111, 115, 116], by rw [data_app]; rfl⟩
  · exact ⟨[108, 101, 115, 115, 32, 116, 104, 97, 110], by rw [data_app]; rfl⟩
theorem both_tail (s : ByteArray) (x : Bool) (b : Nat) : ∃ P, (s ++ andB ++ hiS x b).data.toList = P ++ 32 :: (T b).data.toList := by
  obtain ⟨P, h⟩ := hi_tail x b
  exact ⟨(s ++ andB).data.toList ++ P, by rw [data_app, h, List.append_assoc]⟩

/-- How a span ends, and what that says of the end that of looks at. -/
theorem span_tail (m1 m2 : Option Nat) (x1 x2 : Bool) (h1 : ∀ b, m1 = some b → b < 18446744073709551616) (h2 : ∀ b, m2 = some b → b < 18446744073709551616) (hm : m1 ≠ none ∨ m2 ≠ none) :
    ∃ P c, (spanT m1 m2 x1 x2).data.toList = P ++ 32 :: (T c).data.toList ∧ (textOf c = [49] ↔ od (lastOf m1 m2) 4607182418800017408 = some .eq) := by
  have hone : ∀ b, b < 18446744073709551616 → (textOf b = [49] ↔ od b 4607182418800017408 = some .eq) := fun b hb => (text_one b hb).trans (one_iff b hb).symm
  match m1, m2 with
  | none, none => simp at hm
  | some b1, none =>
    obtain ⟨P, h⟩ := lo_tail x1 b1
    exact ⟨P, b1, h, hone b1 (h1 b1 rfl)⟩
  | none, some b2 =>
    obtain ⟨P, h⟩ := hi_tail x2 b2
    exact ⟨P, b2, h, hone b2 (h2 b2 rfl)⟩
  | some b1, some b2 =>
    have k1 := h1 b1 rfl
    have k2 := h2 b2 rfl
    have hb : ∀ y1 y2, (y1 || y2) = true → ∃ P, (spanT (some b1) (some b2) y1 y2).data.toList = P ++ 32 :: (T b2).data.toList := by
      intro y1 y2 hy
      cases y1 <;> cases y2
      · cases hy
      · exact both_tail _ _ _
      · exact both_tail _ _ _
      · exact both_tail _ _ _
    by_cases hx : (x1 || x2) = true
    · obtain ⟨P, h⟩ := hb x1 x2 hx
      exact ⟨P, b2, h, hone b2 k2⟩
    · obtain ⟨rfl, rfl⟩ : x1 = false ∧ x2 = false := by
        cases x1 <;> cases x2 <;> simp at hx ⊢
      rw [spanT_plain]
      by_cases he : (FloatKind.f64.format.order b1 b2 == some .eq) = true
      · rw [if_pos he]
        have he' : od b1 b2 = some .eq := by simpa using he
        refine ⟨[101, 120, 97, 99, 116, 108, 121], b1, by rw [data_app]; rfl, (text_one b1 k1).trans ?_⟩
        constructor
        · rintro rfl
          exact od_symm k1 k2 he'
        · intro h
          have h : b2 = 4607182418800017408 := (one_iff b2 k2).1 h
          subst h
          exact (one_iff b1 k1).1 he'
      · rw [if_neg he]
        refine ⟨(T b1).data.toList ++ [32, 116, 111], b2, ?_, hone b2 k2⟩
        rw [data_app, data_app]
        show (T b1).data.toList ++ [32, 116, 111, 32] ++ (T b2).data.toList = _
        simp
end Go.Proofs.Qxb6603897aDoor
