/-
  Plain: the digits and the power of ten lie in range; the significand of a word fits.
-/
import Derived.Test.Qxb6603897aDoorDigits
namespace Go.Proofs.Qxb6603897aDoor
open Go.RowKit

theorem two_pow_le_60 (s : Nat) (h : s ≤ 60) : 2 ^ s ≤ 1152921504606846976 := by
  have := Nat.pow_le_pow_right (n := 2) (by omega) h
  simpa using this
theorem two_pow_ge_2 (s : Nat) (h : 1 ≤ s) : 2 ≤ 2 ^ s := by
  have := Nat.pow_le_pow_right (n := 2) (by omega) h
  simpa using this

theorem usc_in (x hi lo s c : Nat) (hc : 1 ≤ c) (hx : 4611686018427387904 * c ≤ x) (hx2 : x < 18446744073709551616) (hh : 9223372036854775808 ≤ hi) (hh2 : hi < 18446744073709551616) (h1 : 1 ≤ s) (h2 : s ≤ 60) : 2 * c - 1 ≤ usc x hi lo s ∧ usc x hi lo s ≤ 9223372036854775808 := by
  have hH : x * hi / 18446744073709551616 < 18446744073709551616 := Nat.div_lt_of_lt_mul (Nat.mul_lt_mul'' hx2 hh2)
  have hL : 2305843009213693952 * c ≤ x * hi / 18446744073709551616 := by
    rw [Nat.le_div_iff_mul_le (by omega)]
    have := Nat.mul_le_mul hx hh
    have e : 2305843009213693952 * c * 18446744073709551616 = 4611686018427387904 * c * 9223372036854775808 := by omega
    exact Nat.le_trans (Nat.le_of_eq e) this
  have p1 := two_pow_le_60 s h2
  have p2 := two_pow_ge_2 s h1
  unfold usc
  generalize x * hi / 18446744073709551616 = H at *
  generalize x * hi % 18446744073709551616 = M at *
  generalize x * lo / 18446744073709551616 = M2 at *
  generalize 2 ^ s = y at *
  have q1 : H / y < 9223372036854775808 := by
    rw [Nat.div_lt_iff_lt_mul (by omega)]
    omega
  have q2 : 2 * c ≤ H / y := by
    rw [Nat.le_div_iff_mul_le (by omega)]
    have := Nat.mul_le_mul_left (2 * c) p1
    omega
  split
  · rename_i h0
    have e : lowH H M M2 / y = H / y ∨ lowH H M M2 / y = H / y - 1 := by
      unfold lowH
      split
      · right
        · have hd := Nat.div_add_mod H y
          rw [h0, Nat.add_zero] at hd
          rw [show (H + 18446744073709551615) % 18446744073709551616 = H - 1 from by omega]
          rw [Nat.div_eq_iff (by omega)]
          have hk : 1 ≤ H / y := by
            rcases Nat.eq_zero_or_pos (H / y) with h | h
            · rw [h] at hd; omega
            · exact h
          have e2 : (H / y - 1) * y + y = y * (H / y) := by
            rw [Nat.mul_comm y, ← Nat.succ_mul]
            congr 1
            omega
          omega
      · left; rfl
    unfold stick odd1
    split <;> omega
  · unfold odd1
    omega

theorem pk_in (m mn mx od : Nat) (e p : Int) (hp : 0 ≤ p + 348) (hp2 : p + 348 < 696) (h1 : 1 ≤ -(e + p * 108853 / 32768 + 3)) (h2 : -(e + p * 108853 / 32768 + 3) ≤ 60) (hm1 : 9223372036854775808 ≤ m) (hm2 : m < 18446744073709551616)
    (hmn1 : 4611686018427387904 ≤ mn) (hmn2 : mn < 18446744073709551616) (hmx2 : mx < 18446744073709551616) (hod : od ≤ 1) :
    1 ≤ (pk m mn mx od e p).1 ∧ (pk m mn mx od e p).1 < 4611686018427387904 ∧ ((pk m mn mx od e p).2 = -p ∨ (pk m mn mx od e p).2 = -(p - 1)) := by
  have hi : rowOf p < 696 := by unfold rowOf; omega
  obtain ⟨t1, t2, t3⟩ := tab_at _ hi
  have hs1 : 1 ≤ cutOf e p := by unfold cutOf; omega
  have hs2 : cutOf e p ≤ 60 := by unfold cutOf; omega
  have u1 := usc_in mn (hiT (rowOf p)) (loT (rowOf p)) (cutOf e p) 1 (by omega) (by omega) hmn2 t1 t2 hs1 hs2
  have u3 := usc_in m (hiT (rowOf p)) (loT (rowOf p)) (cutOf e p) 2 (by omega) (by omega) hm2 t1 t2 hs1 hs2
  have u2 := usc_lt mx (hiT (rowOf p)) (loT (rowOf p)) (cutOf e p) hmx2 t2
  unfold pk uscE
  generalize usc mn _ _ _ = a1 at *
  generalize usc mx _ _ _ = a2 at *
  generalize usc m _ _ _ = a3 at *
  have d1 : 1 ≤ dMin a1 od ∧ dMin a1 od < 4611686018427387904 := by unfold dMin; omega
  have d2 : dMax a2 od < 4611686018427387904 := by unfold dMax; omega
  have d3 : 1 ≤ rnd a3 ∧ rnd a3 < 4611686018427387904 := by
    unfold rnd
    rw [Nat.mod_eq_of_lt (show a3 + 1 + a3 / 4 % 2 < 18446744073709551616 by omega)]
    omega
  unfold pickD
  generalize dMin a1 od = x at *
  generalize dMax a2 od = y at *
  generalize rnd a3 = z at *
  split
  · exact ⟨show 1 ≤ y / 10 by omega, show y / 10 < 4611686018427387904 by omega, Or.inr rfl⟩
  · split
    · exact ⟨d3.1, d3.2, Or.inl rfl⟩
    · exact ⟨d1.1, d1.2, Or.inl rfl⟩

theorem shortD_in (m : Nat) (e : Int) (hF : Fits m e) : 1 ≤ (shortD m e).1 ∧ (shortD m e).1 < 4611686018427387904 ∧ -400 ≤ (shortD m e).2 ∧ (shortD m e).2 ≤ 400 := by
  obtain ⟨hm1, hm2, hF⟩ := hF
  unfold shortD
  rcases hF with ⟨h1, h2, h4⟩ | ⟨z, hz1, hz2, rfl, h4⟩
  · rw [if_neg (by omega)]
    split
    · obtain ⟨a1, a2, a3, a4⟩ := pSkew_in e h1 h2
      obtain ⟨b1, b2, b3⟩ := pk_in m (m - 512) (m + 1024) 0 e (pSkew e) a1 a2 a3 a4 hm1 hm2 (by omega) (by omega) (by omega) (by omega)
      exact ⟨b1, b2, by omega, by omega⟩
    · obtain ⟨a1, a2, a3, a4⟩ := pFlat_in e h1 h2
      obtain ⟨b1, b2, b3⟩ := pk_in m (m - 1024) (m + 1024) (m / 2048 % 2) e (pFlat e) a1 a2 a3 a4 hm1 hm2 (by omega) (by omega) (by omega) (by omega)
      exact ⟨b1, b2, by omega, by omega⟩
  · obtain ⟨r1, r2, r3⟩ := room m z (by omega) (by omega) hm2 hm1 h4
    rw [if_pos (by omega), show (-1074 - (-1074 - (z : Int))).toNat = z from by omega]
    have hp : 2 ^ (z - 1) ≤ 4611686018427387904 := by
      have := Nat.pow_le_pow_right (n := 2) (by omega) (show z - 1 ≤ 62 by omega)
      simpa using this
    obtain ⟨b1, b2, b3⟩ := pk_in m (m - 2 ^ (z - 1)) (m + 2 ^ (z - 1)) (m / 2 ^ z % 2) (-1074 - (z : Int)) 324 (by omega) (by omega) (by omega) (by omega) hm1 hm2 (by omega) (Nat.lt_of_le_of_lt (Nat.sub_le _ _) hm2) r2 (by omega)
    exact ⟨b1, b2, by omega, by omega⟩

/-! ### The words -/
def exOf (b : Nat) : Nat := b / 4503599627370496 % 2048
def mantOf (b : Nat) : Nat := b % 4503599627370496
def e0Of (b : Nat) : Nat := if exOf b = 0 then 1 else exOf b
def m0Of (b : Nat) : Nat := if exOf b = 0 then mantOf b else mantOf b + 4503599627370496
def lenOf (b : Nat) : Nat := Lib.bitLen (m0Of b)
def m1Of (b : Nat) : Nat := m0Of b * 2 ^ (64 - lenOf b)
def e1Of (b : Nat) : Int := (e0Of b : Int) + -1023 - (64 - (lenOf b : Int)) - 52

theorem bitLen_in (x : Nat) (h1 : 1 ≤ x) (h2 : x < 18446744073709551616) : 1 ≤ Lib.bitLen x ∧ 2 ^ (Lib.bitLen x - 1) ≤ x ∧ x < 2 ^ Lib.bitLen x := Lib.bitLenAux_bounds 64 x (by simpa using h2) (by omega)

theorem len_top {x L k : Nat} (h : 2 ^ (L - 1) ≤ x) (hx : x < 2 ^ k) (h1 : 1 ≤ L) : L ≤ k := by
  have : L - 1 < k := (Nat.pow_lt_pow_iff_right (a := 2) (by omega)).1 (Nat.lt_of_le_of_lt h hx)
  omega

theorem word_in (b : Nat) (hx : exOf b ≠ 2047) (hm : m0Of b ≠ 0) : 1 ≤ m0Of b ∧ m0Of b < 9007199254740992 ∧ 1 ≤ lenOf b ∧ lenOf b ≤ 53 ∧ 1 ≤ e0Of b ∧ e0Of b ≤ 2046 ∧ Fits (m1Of b) (e1Of b) := by
  have hexl : exOf b < 2048 := by unfold exOf; omega
  have hml : mantOf b < 4503599627370496 := by unfold mantOf; omega
  have hM : m0Of b < 9007199254740992 := by unfold m0Of; split <;> omega
  have hE : 1 ≤ e0Of b ∧ e0Of b ≤ 2046 := by unfold e0Of; split <;> omega
  obtain ⟨l1, l2, l3⟩ := bitLen_in (m0Of b) (by omega) (by omega)
  have l4 : Lib.bitLen (m0Of b) ≤ 53 := len_top l2 (k := 53) (by simpa using hM) l1
  refine ⟨by omega, hM, l1, l4, hE.1, hE.2, ?_⟩
  unfold m1Of e1Of
  change 1 ≤ lenOf b at l1
  change 2 ^ (lenOf b - 1) ≤ _ at l2
  change _ < 2 ^ lenOf b at l3
  change lenOf b ≤ 53 at l4
  have hF : (exOf b = 0 ∧ e0Of b = 1 ∧ lenOf b ≤ 52) ∨ lenOf b = 53 := by
    by_cases h0 : exOf b = 0
    · left
      refine ⟨h0, by unfold e0Of; rw [if_pos h0], ?_⟩
      have e : m0Of b = mantOf b := by unfold m0Of; rw [if_pos h0]
      rw [e] at l2
      exact len_top l2 (k := 52) (by simpa using hml) l1
    · right
      have e : m0Of b = mantOf b + 4503599627370496 := by unfold m0Of; rw [if_neg h0]
      have : 52 < lenOf b := (Nat.pow_lt_pow_iff_right (a := 2) (by omega)).1 (Nat.lt_of_le_of_lt (show 2 ^ 52 ≤ m0Of b by rw [e]; omega) l3)
      omega
  generalize m0Of b = M at *
  generalize lenOf b = L at *
  generalize e0Of b = E at *
  have t1 : 2 ^ (L - 1) * 2 ^ (64 - L) = 9223372036854775808 := by rw [← Nat.pow_add, show L - 1 + (64 - L) = 63 from by omega]
  have t2 : 2 ^ L * 2 ^ (64 - L) = 18446744073709551616 := by rw [← Nat.pow_add, show L + (64 - L) = 64 from by omega]
  have t3 := Nat.mul_le_mul_right (2 ^ (64 - L)) l2
  have t4 := Nat.mul_lt_mul_of_pos_right l3 (show 0 < 2 ^ (64 - L) from Nat.pow_pos (by omega))
  rw [t1] at t3
  rw [t2] at t4
  refine ⟨t3, t4, ?_⟩
  rcases hF with ⟨_, h0, h1⟩ | rfl
  · right
    exact ⟨64 - L, by omega, by omega, by omega, Nat.mul_mod_left _ _⟩
  · left
    refine ⟨by omega, by omega, ?_⟩
    rw [show 2 ^ (64 - 53) = 2048 from rfl]
    omega
end Go.Proofs.Qxb6603897aDoor
