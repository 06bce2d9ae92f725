/-
  The walk of uscale: a product of two words cut to an unrounded number.
-/
import Derived.Test.Qxb6603897aDoorSmall
import Derived.Test.Qxb6603897aDoorShelf
import Derived.Deep.QuietTactic
import Derived.BigQuiet
namespace Go.Proofs.Qxb6603897aDoor
open Go.RowKit

/-- The last bit set. -/
def odd1 (a : Nat) : Nat := a / 2 * 2 + 1
/-- What is left of the high word where the low words are taken off. -/
def lowH (H M M2 : Nat) : Nat := if M < M2 then (H + 18446744073709551615) % 18446744073709551616 else H
def stick (M M2 a : Nat) : Nat := if 1 < (M + 18446744073709551616 - M2) % 18446744073709551616 then odd1 a else a
/-- The unrounded product, cut at place s. -/
def usc (x hi lo s : Nat) : Nat :=
  if x * hi / 18446744073709551616 % 2 ^ s = 0 then
    stick (x * hi % 18446744073709551616) (x * lo / 18446744073709551616) (lowH (x * hi / 18446744073709551616) (x * hi % 18446744073709551616) (x * lo / 18446744073709551616) / 2 ^ s)
  else odd1 (x * hi / 18446744073709551616 / 2 ^ s)

theorem or_one (a : Nat) : a ||| 1 = odd1 a := by
  unfold odd1
  apply Nat.eq_of_testBit_eq
  intro i
  rw [Nat.testBit_or]
  cases i with
  | zero => simp
  | succ i =>
    have e1 : Nat.testBit 1 (i + 1) = false := by simp [Nat.testBit_succ]
    rw [e1, Bool.or_false, Nat.testBit_succ, Nat.testBit_succ]
    congr 1
    omega
theorem or_one_u64 (a : Nat) (h : a < 18446744073709551616) : bits .or .u64 (a : Int) 1 = (odd1 a : Int) := by
  have := bits_or_u64_nat a 1 (by omega) (by omega)
  rw [or_one] at this
  exact this
theorem or_zero_u64 (a : Nat) (h : a < 18446744073709551616) : bits .or .u64 (a : Int) 0 = (a : Int) := by
  have := bits_or_u64_nat a 0 (by omega) (by omega)
  rw [Nat.or_zero] at this
  exact this
theorem and63 : ∀ s : Fin 64, bits .and .i64 ((s.val : Nat) : Int) 63 = ((s.val : Nat) : Int) := by decide
theorem pow_cast (H s : Nat) : ((H : Int) / 2 ^ s) = ((H / 2 ^ s : Nat) : Int) := by simp
theorem cut_test (H s : Nat) (hH : H < 18446744073709551616) : (IntKind.u64.wrap ((H : Int) / 2 ^ s * 2 ^ s) != (H : Int)) = !decide (H % 2 ^ s = 0) := by
  have e : ((H : Int) / 2 ^ s * 2 ^ s) = ((H / 2 ^ s * 2 ^ s : Nat) : Int) := by simp
  have hle : H / 2 ^ s * 2 ^ s ≤ H := Nat.div_mul_le_self _ _
  have hd := Nat.div_add_mod H (2 ^ s)
  rw [Nat.mul_comm] at hd
  have ew : IntKind.u64.wrap ((H / 2 ^ s * 2 ^ s : Nat) : Int) = ((H / 2 ^ s * 2 ^ s : Nat) : Int) := by go_arith
  rw [e, ew]
  by_cases h : H % 2 ^ s = 0
  · rw [decide_eq_true h]
    have : H / 2 ^ s * 2 ^ s = H := by omega
    rw [this]; simp
  · rw [decide_eq_false h]
    have : ((H / 2 ^ s * 2 ^ s : Nat) : Int) ≠ (H : Int) := by omega
    rw [bne, beq_eq_false_iff_ne.2 this]

set_option maxHeartbeats 1000000 in
theorem uscale_any (x hi lo s g : Nat) (w : World) (hx : x < 18446744073709551616) (hh : hi < 18446744073709551616) (hl : lo < 18446744073709551616) (hs : s < 64)
    (c0 : w.cell? ⟨g, 0, none⟩ = some (.int .u64 hi)) (c1 : w.cell? ⟨g, 1, none⟩ = some (.int .u64 lo)) (c2 : w.cell? ⟨g, 2, none⟩ = some (.int .i64 s)) :
    Calls Tryd.prog 49 #[.int .u64 x, .pointer (some ⟨g, 0, none⟩)] w fun r w' => r = .returned (.int .u64 (usc x hi lo s)) ∧ ∃ q, w' = w.drewN q := by
  have HM1 := hid (Tryd.bits_Mul64 x hi hx hh w)
  have HM2 := hid (Tryd.bits_Mul64 x lo hx hl w)
  have h63 : bits .and .i64 (s : Int) 63 = s := and63 ⟨s, hs⟩
  have hH : x * hi / 18446744073709551616 < 18446744073709551616 := Nat.div_lt_of_lt_mul (Nat.mul_lt_mul'' hx hh)
  have hM : x * hi % 18446744073709551616 < 18446744073709551616 := Nat.mod_lt _ (by omega)
  have hM2 : x * lo / 18446744073709551616 < 18446744073709551616 := Nat.div_lt_of_lt_mul (Nat.mul_lt_mul'' hx hl)
  obtain ⟨U, hU⟩ : ∃ U, usc x hi lo s = U := ⟨_, rfl⟩
  rw [hU]
  unfold usc at hU
  generalize x * hi / 18446744073709551616 = H at *
  generalize x * hi % 18446744073709551616 = M at *
  generalize x * lo / 18446744073709551616 = M2 at *
  generalize x * lo % 18446744073709551616 = L2 at *
  have ht := cut_test H s hH
  have hdv : H / 2 ^ s < 18446744073709551616 := Nat.lt_of_le_of_lt (Nat.div_le_self _ _) hH
  by_cases h0 : H % 2 ^ s = 0
  · rw [if_pos h0] at hU
    rw [decide_eq_true h0] at ht
    have HU := hid hU
    clear hU h0
    obtain ⟨H', hH', hlow⟩ : ∃ H', H' < 18446744073709551616 ∧ lowH H M M2 = H' := ⟨_, by unfold lowH; split <;> omega, rfl⟩
    rw [hlow] at HU
    have hd2 : H' / 2 ^ s < 18446744073709551616 := Nat.lt_of_le_of_lt (Nat.div_le_self _ _) hH'
    have ho1 : bits .or .u64 ((H' : Int) / 2 ^ s) 1 = (odd1 (H' / 2 ^ s) : Int) := by rw [pow_cast]; exact or_one_u64 _ hd2
    have ho0 : bits .or .u64 ((H' : Int) / 2 ^ s) 0 = ((H' / 2 ^ s : Nat) : Int) := by rw [pow_cast]; exact or_zero_u64 _ hd2
    have hq : Hid (∃ q : Bool, decide (1 < IntKind.u64.wrap ((M : Int) - M2)) = q ∧ stick M M2 (H' / 2 ^ s) = if q then odd1 (H' / 2 ^ s) else H' / 2 ^ s) := by
      have e : IntKind.u64.wrap ((M : Int) - M2) = (((M + 18446744073709551616 - M2) % 18446744073709551616 : Nat) : Int) := by go_arith
      refine ⟨_, rfl, ?_⟩
      rw [e]
      unfold stick
      by_cases hc : 1 < (M + 18446744073709551616 - M2) % 18446744073709551616
      · rw [if_pos hc, if_pos (decide_eq_true (by omega))]
      · rw [if_neg hc, if_neg (by rw [decide_eq_false (by omega)]; simp)]
    obtain ⟨q, hq1, hq2⟩ := hq.out
    rw [hq2] at HU
    clear hq2 hq
    by_cases hb : M < M2
    · have hd : decide ((M : Int) < M2) = true := decide_eq_true (by omega)
      have hw : IntKind.u64.wrap ((H : Int) - 1) = (H' : Int) := by rw [← hlow]; unfold lowH; rw [if_pos hb]; go_arith
      clear hlow
      cases q
      ·
        go_enter Tryd.func49, Tryd.ntmps49
        go_wp2_with fail
        refine HM1.out.mono ?_
        rintro r w' ⟨rfl, rfl⟩
        go_wp2_with (first | (go_at_call 66; refine HM2.out.mono ?_; rintro r w' ⟨rfl, rfl⟩) | (go_at_call 67; refine (bool2_t _).mono ?_; rintro r w' ⟨rfl, rfl⟩))
        go_quiet ((go_at_call 67; exact Calls.quiet_of_same (bool2_f _)))
        go_wp2
        go_ret
        refine ⟨ret_int (by rw [← HU.out]; rfl), _, rfl⟩
      ·
        go_enter Tryd.func49, Tryd.ntmps49
        go_wp2_with fail
        refine HM1.out.mono ?_
        rintro r w' ⟨rfl, rfl⟩
        go_wp2_with (first | (go_at_call 66; refine HM2.out.mono ?_; rintro r w' ⟨rfl, rfl⟩) | (go_at_call 67; refine (bool2_t _).mono ?_; rintro r w' ⟨rfl, rfl⟩))
        go_quiet ((go_at_call 67; exact Calls.quiet_of_same (bool2_t _)))
        go_wp2
        go_ret
        refine ⟨ret_int (by rw [← HU.out]; rfl), _, rfl⟩
    · have hd : decide ((M : Int) < M2) = false := decide_eq_false (by omega)
      obtain rfl : H = H' := by rw [← hlow]; unfold lowH; rw [if_neg hb]
      have hw : IntKind.u64.wrap (H : Int) = (H : Int) := by go_arith
      have hwm : IntKind.u64.wrap ((M : Int) - M2) = (M : Int) - M2 := by go_arith
      rw [hwm] at hq1
      clear hlow hwm
      cases q
      ·
        go_enter Tryd.func49, Tryd.ntmps49
        go_wp2_with fail
        refine HM1.out.mono ?_
        rintro r w' ⟨rfl, rfl⟩
        go_wp2_with (first | (go_at_call 66; refine HM2.out.mono ?_; rintro r w' ⟨rfl, rfl⟩) | (go_at_call 67; refine (bool2_f _).mono ?_; rintro r w' ⟨rfl, rfl⟩))
        go_quiet ((go_at_call 67; exact Calls.quiet_of_same (bool2_f _)))
        go_wp2
        go_ret
        refine ⟨ret_int (by rw [← HU.out]; rfl), _, rfl⟩
      ·
        go_enter Tryd.func49, Tryd.ntmps49
        go_wp2_with fail
        refine HM1.out.mono ?_
        rintro r w' ⟨rfl, rfl⟩
        go_wp2_with (first | (go_at_call 66; refine HM2.out.mono ?_; rintro r w' ⟨rfl, rfl⟩) | (go_at_call 67; refine (bool2_f _).mono ?_; rintro r w' ⟨rfl, rfl⟩))
        go_quiet ((go_at_call 67; exact Calls.quiet_of_same (bool2_t _)))
        go_wp2
        go_ret
        refine ⟨ret_int (by rw [← HU.out]; rfl), _, rfl⟩
  · rw [decide_eq_false h0] at ht
    rw [if_neg h0] at hU
    have HU := hid hU
    clear hU h0
    have hor : bits .or .u64 ((H : Int) / 2 ^ s) 1 = (odd1 (H / 2 ^ s) : Int) := by rw [pow_cast]; exact or_one_u64 _ hdv
    go_enter Tryd.func49, Tryd.ntmps49
    go_wp2_with fail
    refine HM1.out.mono ?_
    rintro r w' ⟨rfl, rfl⟩
    go_wp2_with fail
    go_ret
    exact ⟨ret_int (by rw [← HU.out]), 0, rfl⟩
end Go.Proofs.Qxb6603897aDoor
