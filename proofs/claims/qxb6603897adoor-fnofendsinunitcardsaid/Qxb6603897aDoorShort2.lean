/-
  shortFloat at float64 as a plain function.
-/
import Derived.Test.Qxb6603897aDoorShort
namespace Go.Proofs.Qxb6603897aDoor
open Go.RowKit

theorem tab_len : Pinned.pow10Rows.length = 696 := by decide +kernel
theorem tab_all : (Pinned.pow10Rows.all fun r => decide (9223372036854775808 ≤ r.1) && decide (r.1 < 18446744073709551616) && decide (r.2 < 18446744073709551616)) = true := by decide +kernel
theorem tab_at (i : Nat) (h : i < 696) : 9223372036854775808 ≤ hiT i ∧ hiT i < 18446744073709551616 ∧ loT i < 18446744073709551616 := by
  have h' : i < Pinned.pow10Rows.length := by rw [tab_len]; exact h
  have hm : Pinned.pow10Rows.getD i (0, 0) ∈ Pinned.pow10Rows := by
    rw [List.getD_eq_getElem?_getD, List.getElem?_eq_getElem h']
    exact List.getElem_mem h'
  have := List.all_eq_true.1 tab_all _ hm
  simp only [Bool.and_eq_true, decide_eq_true_eq] at this
  exact ⟨this.1.1, this.1.2, this.2⟩

/-- The row of the table at the power p. -/
def rowOf (p : Int) : Nat := (p + 348).toNat
/-- How far the product is cut at the powers e of two and p of ten. -/
def cutOf (e p : Int) : Nat := (-(e + p * 108853 / 32768 + 3)).toNat
def uscE (x : Nat) (e p : Int) : Nat := usc x (hiT (rowOf p)) (loT (rowOf p)) (cutOf e p)
def pk (m mn mx od : Nat) (e p : Int) : Nat × Int := pickD (dMin (uscE mn e p) od) (dMax (uscE mx e p) od) (rnd (uscE m e p)) p
def pSkew (e : Int) : Int := -(((e + 11) * 631305 - 261663) / 2097152)
def pFlat (e : Int) : Int := -((e + 11) * 78913 / 262144)
/-- The digits and the power of ten of m·2^e, as shortFloat gives them. -/
def shortD (m : Nat) (e : Int) : Nat × Int :=
  if e < -1085 then pk m (m - 2 ^ ((-1074 - e).toNat - 1)) (m + 2 ^ ((-1074 - e).toNat - 1)) (m / 2 ^ (-1074 - e).toNat % 2) e 324
  else if m = 9223372036854775808 ∧ -1085 < e then pk m (m - 512) (m + 1024) 0 e (pSkew e)
  else pk m (m - 1024) (m + 1024) (m / 2048 % 2) e (pFlat e)

theorem pSkew_in (e : Int) (h1 : -1085 ≤ e) (h2 : e ≤ 960) : 0 ≤ pSkew e + 348 ∧ pSkew e + 348 < 696 ∧ 1 ≤ -(e + pSkew e * 108853 / 32768 + 3) ∧ -(e + pSkew e * 108853 / 32768 + 3) ≤ 60 := by
  unfold pSkew; omega
theorem pFlat_in (e : Int) (h1 : -1085 ≤ e) (h2 : e ≤ 960) : 0 ≤ pFlat e + 348 ∧ pFlat e + 348 < 696 ∧ 1 ≤ -(e + pFlat e * 108853 / 32768 + 3) ∧ -(e + pFlat e * 108853 / 32768 + 3) ≤ 60 := by
  unfold pFlat; omega
/-- The significands that come in: 64 bits, their low end clear. -/
def Fits (m : Nat) (e : Int) : Prop := 9223372036854775808 ≤ m ∧ m < 18446744073709551616 ∧ ((-1085 ≤ e ∧ e ≤ 960 ∧ m % 2048 = 0) ∨ ∃ z : Nat, 12 ≤ z ∧ z ≤ 63 ∧ e = -1074 - (z : Int) ∧ m % 2 ^ z = 0)

theorem room (m z : Nat) (hz : z < 64) (h1 : 1 ≤ z) (hm : m < 18446744073709551616) (hm1 : 9223372036854775808 ≤ m) (h : m % 2 ^ z = 0) : 2 ^ (z - 1) ≤ m ∧ m + 2 ^ (z - 1) < 18446744073709551616 ∧ 2 ^ (z - 1) < 9223372036854775808 := by
  have e1 : (2 : Nat) ^ z = 2 * 2 ^ (z - 1) := by rw [← Nat.pow_succ']; congr 1; omega
  have hp : (2 : Nat) ^ (z - 1) ≤ 2 ^ 62 := Nat.pow_le_pow_right (by omega) (by omega)
  have hp1 : 0 < (2 : Nat) ^ (z - 1) := Nat.pow_pos (by omega)
  obtain ⟨k, hk⟩ := Nat.dvd_of_mod_eq_zero h
  obtain ⟨j, hj⟩ : ∃ j, (18446744073709551616 : Nat) = 2 ^ z * j := ⟨2 ^ (64 - z), by rw [← Nat.pow_add]; rw [show z + (64 - z) = 64 from by omega]⟩
  have hkj : k < j := by
    rw [hk, hj] at hm
    exact Nat.lt_of_mul_lt_mul_left hm
  have : 2 ^ z * (k + 1) ≤ 2 ^ z * j := Nat.mul_le_mul_left _ hkj
  rw [Nat.mul_succ] at this
  omega

theorem and_one_i64 (a : Nat) (h : a < 9223372036854775808) : bits .and .i64 (a : Int) 1 = ((a % 2 : Nat) : Int) := and_one a h

theorem short_any (m : Nat) (e : Int) (w : World) (hF : Fits m e) (h3 : 3 < w.heap.size) (hT : PowTab w) :
    Calls Tryd.prog 42 #[.int .u64 m, .int .i64 e] w fun r w' => r = .returned (.tuple #[.int .u64 (shortD m e).1, .int .i64 (shortD m e).2]) ∧ Below w.heap.size w w' := by
  obtain ⟨hm1, hm2, hF⟩ := hF
  rcases hF with ⟨h1, h2, h4⟩ | ⟨z, hz1, hz2, rfl, h4⟩
  · have hx : m + 1024 < 18446744073709551616 := by omega
    have e0 : ¬ e < -1085 := by omega
    by_cases hs : m = 9223372036854775808 ∧ -1085 < e
    · obtain ⟨a1, a2, a3, a4⟩ := pSkew_in e h1 h2
      have ei : ((rowOf (pSkew e) : Nat) : Int) - 348 = pSkew e := by unfold rowOf; omega
      have es : ((cutOf e (pSkew e) : Nat) : Int) = -(e + pSkew e * 108853 / 32768 + 3) := by unfold cutOf; omega
      have hi : rowOf (pSkew e) < 696 := by omega
      have := short_skew m (m - 512) (m + 1024) (rowOf (pSkew e)) 0 _ _ _ _ _ e (cutOf e (pSkew e)) w (by omega) hm2 (by omega) (by omega) (by omega) hx (by omega) h2 (by rw [ei]; rfl)
        (by rw [show (m : Int) / 2048 = ((m / 2048 : Nat) : Int) from by omega, and_one_i64 _ (by omega)]; omega) (by omega) hi (by rw [ei, es]) (by omega) h3 hT ⟨(tab_at _ hi).2.1, (tab_at _ hi).2.2⟩ rfl rfl rfl rfl rfl
      refine this.mono ?_
      rintro r w' ⟨⟨d, p, hp, rfl⟩, hb⟩
      rw [ei] at hp
      have hS : shortD m e = (d, p) := by unfold shortD; rw [if_neg e0, if_pos hs]; exact hp
      rw [hS]
      exact ⟨rfl, hb⟩
    · obtain ⟨a1, a2, a3, a4⟩ := pFlat_in e h1 h2
      have ei : ((rowOf (pFlat e) : Nat) : Int) - 348 = pFlat e := by unfold rowOf; omega
      have es : ((cutOf e (pFlat e) : Nat) : Int) = -(e + pFlat e * 108853 / 32768 + 3) := by unfold cutOf; omega
      have hi : rowOf (pFlat e) < 696 := by omega
      by_cases hm : m = 9223372036854775808
      · have ee : e = -1085 := by omega
        have := short_edge m (m - 1024) (m + 1024) (rowOf (pFlat e)) (m / 2048 % 2) _ _ _ _ _ e (cutOf e (pFlat e)) w (by omega) hm2 (by omega) (by omega) (by omega) hx (by omega) (by omega) (by rw [ei]; rfl)
          (by rw [show (m : Int) / 2048 = ((m / 2048 : Nat) : Int) from by omega, and_one_i64 _ (by omega)]) (by omega) hi (by rw [ei, es]) (by omega) h3 hT ⟨(tab_at _ hi).2.1, (tab_at _ hi).2.2⟩ rfl rfl rfl rfl rfl
        refine this.mono ?_
        rintro r w' ⟨⟨d, p, hp, rfl⟩, hb⟩
        rw [ei] at hp
        have hS : shortD m e = (d, p) := by unfold shortD; rw [if_neg e0, if_neg hs]; exact hp
        rw [hS]
        exact ⟨rfl, hb⟩
      · have := short_normal m (m - 1024) (m + 1024) (rowOf (pFlat e)) (m / 2048 % 2) _ _ _ _ _ e (cutOf e (pFlat e)) w (by omega) hm2 (by omega) (by omega) (by omega) hx (by omega) h2 (by rw [ei]; rfl)
          (by rw [show (m : Int) / 2048 = ((m / 2048 : Nat) : Int) from by omega, and_one_i64 _ (by omega)]) (by omega) hi (by rw [ei, es]) (by omega) h3 hT ⟨(tab_at _ hi).2.1, (tab_at _ hi).2.2⟩ rfl rfl rfl rfl rfl
        refine this.mono ?_
        rintro r w' ⟨⟨d, p, hp, rfl⟩, hb⟩
        rw [ei] at hp
        have hS : shortD m e = (d, p) := by unfold shortD; rw [if_neg e0, if_neg hs]; exact hp
        rw [hS]
        exact ⟨rfl, hb⟩
  · obtain ⟨r1, r2, r3⟩ := room m z (by omega) (by omega) hm2 hm1 h4
    have e1 : (11 + (-1085 - (-1074 - (z : Int)))).toNat = z := by omega
    have e2 : (-1074 - (-1074 - (z : Int))).toNat = z := by omega
    have ei : ((rowOf 324 : Nat) : Int) - 348 = 324 := by decide
    have es : ((cutOf (-1074 - (z : Int)) 324 : Nat) : Int) = -((-1074 - (z : Int)) + 324 * 108853 / 32768 + 3) := by unfold cutOf; omega
    have ep : ((2 : Int) ^ (z - 1)) = ((2 ^ (z - 1) : Nat) : Int) := by simp
    have ez : ((m : Int) / 2 ^ z) = ((m / 2 ^ z : Nat) : Int) := by simp
    have h2z : 2 ≤ 2 ^ z := by have := Nat.pow_le_pow_right (n := 2) (by omega) (show 1 ≤ z by omega); omega
    have hmz : m / 2 ^ z < 9223372036854775808 := by
      rw [Nat.div_lt_iff_lt_mul (by omega)]
      omega
    have hw0 : m - 2 ^ (z - 1) < 18446744073709551616 := Nat.lt_of_le_of_lt (Nat.sub_le _ _) hm2
    have hw4 : m / 2 ^ z % 2 ≤ 1 := by omega
    have hw5 : cutOf (-1074 - (z : Int)) 324 < 64 := by omega
    have hw1 : IntKind.u64.wrap ((m : Int) - IntKind.u64.wrap (2 ^ ((11 + (-1085 - (-1074 - (z : Int)))).toNat - 1))) = ((m - 2 ^ (z - 1) : Nat) : Int) := by
      rw [e1, ep]
      generalize 2 ^ (z - 1) = y at *
      go_arith
    have hw2 : IntKind.u64.wrap ((m : Int) + IntKind.u64.wrap (2 ^ ((11 + (-1085 - (-1074 - (z : Int)))).toNat - 1))) = ((m + 2 ^ (z - 1) : Nat) : Int) := by
      rw [e1, ep]
      generalize 2 ^ (z - 1) = y at *
      go_arith
    have hw3 : bits .and .i64 (wrap64 ((m : Int) / 2 ^ (11 + (-1085 - (-1074 - (z : Int)))).toNat)) 1 = ((m / 2 ^ z % 2 : Nat) : Int) := by
      rw [e1, ez]
      generalize m / 2 ^ z = y at *
      rw [show wrap64 (y : Int) = (y : Int) from by go_arith]
      exact and_one_i64 _ hmz
    have hp : -(((-1074 - (z : Int)) + (11 + (-1085 - (-1074 - (z : Int))))) * 78913 / 262144) = ((rowOf 324 : Nat) : Int) - 348 := by rw [ei]; omega
    have hi : rowOf 324 < 696 := by decide
    have key : Calls Tryd.prog 42 #[.int .u64 m, .int .i64 (-1074 - (z : Int))] w fun r w' => (∃ d p, pk m (m - 2 ^ (z - 1)) (m + 2 ^ (z - 1)) (m / 2 ^ z % 2) (-1074 - (z : Int)) 324 = (d, p) ∧ r = .returned (.tuple #[.int .u64 d, .int .i64 p])) ∧ Below w.heap.size w w' := by
      cases hc : ((m : Int) == 9223372036854775808) with
      | true =>
        have := short_subT m (m - 2 ^ (z - 1)) (m + 2 ^ (z - 1)) (rowOf 324) (m / 2 ^ z % 2) _ _ _ _ _ (-1074 - (z : Int)) (cutOf (-1074 - (z : Int)) 324) w hc hm2 hw0 (by omega) (by omega) hw1 hw2 r2 hp hw3 hw4 hi (by rw [ei, es]) hw5 h3 hT ⟨(tab_at _ hi).2.1, (tab_at _ hi).2.2⟩ rfl rfl rfl rfl rfl
        rw [ei] at this
        exact this
      | false =>
        have := short_subF m (m - 2 ^ (z - 1)) (m + 2 ^ (z - 1)) (rowOf 324) (m / 2 ^ z % 2) _ _ _ _ _ (-1074 - (z : Int)) (cutOf (-1074 - (z : Int)) 324) w hc hm2 hw0 (by omega) (by omega) hw1 hw2 r2 hp hw3 hw4 hi (by rw [ei, es]) hw5 h3 hT ⟨(tab_at _ hi).2.1, (tab_at _ hi).2.2⟩ rfl rfl rfl rfl rfl
        rw [ei] at this
        exact this
    refine key.mono ?_
    rintro r w' ⟨⟨d, p, hp, rfl⟩, hb⟩
    have hS : shortD m (-1074 - (z : Int)) = (d, p) := by unfold shortD; rw [if_pos (by omega), e2]; exact hp
    rw [hS]
    exact ⟨rfl, hb⟩
end Go.Proofs.Qxb6603897aDoor
