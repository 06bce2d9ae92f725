/-
  The walk of fmtEFG at 'f'.
-/
import Derived.Test.Qxb6603897aDoorOuts
namespace Go.Proofs.Qxb6603897aDoor
open Go.RowKit

def sgnT (neg : Bool) : List Int := if neg then [45] else []
def intT (D : List Int) (dp : Int) : List Int := if 0 < dp then D.take dp.toNat ++ List.replicate (dp.toNat - D.length) 48 else [48]
def fracT (D : List Int) (dp : Int) : List Int := if dp < D.length then 46 :: (List.replicate (-dp).toNat 48 ++ D.drop dp.toNat) else []

theorem int_len (D : List Int) (dp : Int) : (intT D dp).length ≤ dp.toNat + 1 := by
  unfold intT
  split
  · simp; omega
  · simp
theorem sgn_len (neg : Bool) : (sgnT neg).length ≤ 1 := by cases neg <;> decide

set_option maxRecDepth 20000 in
set_option maxHeartbeats 1000000 in
theorem efg_any (B sb : Nat) (D : List Int) (neg : Bool) (dp prec : Int) (v : Value) (w0 w : World) (hD : D.length ≤ 32) (hdp : -1000 ≤ dp ∧ dp ≤ 1000) (hprec : prec = if dp < D.length then D.length - dp else 0) (H : Outs B sb D w0 w v []) :
    Calls Tryd.prog 32 #[v, .bool neg, .slice (some ⟨sb, 0, none⟩) 32 32, .int .i64 dp, .int .i64 D.length, .int .i64 prec, .int .u8 102, .bool true] w fun r w' =>
      ∃ v', r = .returned v' ∧ Hid (Outs B sb D w0 w' v' (sgnT neg ++ intT D dp ++ fracT D dp)) := by
  obtain ⟨i0, hi, hz0, hz1, hz2⟩ := info_parts Tryd.info5
  have HO := hid H
  have HP := hid hprec
  clear H hprec
  go_enter Tryd.func32, Tryd.ntmps32
  go_upto_if 178 with fail
  go_cut [0] (fun v wc => Hid (Outs B sb D w0 wc v (sgnT neg)))
  case first =>
    cases neg
    · go_wp2_with fail
      go_meet
      case rel => exact HO
    · go_wp2_with (at_builtin; refine wpList_append_own_at _ rfl _ _ 37 rfl B 5 i0 (.int .u8 0) 1 1 Tryd.underlying37 hi hz0 hz1 hz2 rfl (by decide) _ _ _ rfl (HO.out.own.alloc _) ⟨w.heap.size, 0, none⟩ 1 1 [.int .u8 45] rfl rfl (cell_one_new _ _ _) (by simp [Value.oneCell']) (by unfold maxLen; simp) (by simp) (by have := HO.out.base; simp; omega) ?_; intro v' w1 hown' hgrow _ hv')
      go_meet
      case rel => exact HO.out.step hown' hgrow hv'
  case rest =>
    have H1 := hcut
    clear hcut HO
    go_upto_if 183 with fail
    go_cut [0] (fun v wc => Hid (Outs B sb D w0 wc v (sgnT neg ++ intT D dp)))
    case first =>
      have l1 := sgn_len neg
      by_cases hp : 0 < dp
      · obtain ⟨n, rfl⟩ : ∃ n : Nat, dp = n := ⟨dp.toNat, by omega⟩
        obtain ⟨m, hm⟩ : ∃ m : Nat, min D.length n = m := ⟨_, rfl⟩
        have hm1 : m ≤ D.length := by omega
        have hm2 : m ≤ n := by omega
        have EM := hid (show min (D.length : Int) (n : Int) = (m : Int) by omega)
        have ET := hid (show sgnT neg ++ D.take m ++ List.replicate (n - m) 48 = sgnT neg ++ intT D (n : Int) by
          rw [intT, if_pos hp, List.append_assoc, Int.toNat_natCast]
          rcases Nat.le_total D.length n with h | h
          · rw [show m = D.length from by omega, List.take_of_length_le (Nat.le_refl _), List.take_of_length_le h]
          · rw [show m = n from by omega, show n - n = n - D.length from by omega])
        clear hm
        have Q1 := hid (show Outs B sb D w0 wc u0 (sgnT neg ++ D.take 0) by rw [List.take_zero, List.append_nil]; exact H1.out)
        clear H1
        go_wp2_with fail
        rw [EM.out]
        simp only [Int.toNat_natCast]
        rw [show decide ((0 : Int) < (n : Int)) = true from decide_eq_true (by omega), show max (m : Int) 0 = (m : Int) from by omega]
        go_loopw [0, 191] (fun v i wr => ∃ k : Nat, k ≤ m ∧ i = .int .i64 k ∧ Hid (Outs B sb D w0 wr v (sgnT neg ++ D.take k))) (fun _ i _ => m - (intOf i).toNat)
        case atStart => exact ⟨0, Nat.zero_le _, rfl, Q1⟩
        case round =>
          obtain ⟨k, hk, rfl, HR⟩ := hrel
          have l2 : (sgnT neg ++ D.take k).length ≤ 40 := by simp; omega
          by_cases hlt : k < m
          · have c := HR.out.dig k (by omega)
            have ES := hid (take_snoc (show k < D.length by omega) (sgnT neg))
            generalize D.getD k 0 = cv at *
            go_wp2_with (at_builtin; refine wpList_append_own_at _ rfl _ _ 37 rfl B 5 i0 (.int .u8 0) 1 1 Tryd.underlying37 hi hz0 hz1 hz2 rfl (by decide) _ _ _ rfl (HR.out.own.alloc _) ⟨wr.heap.size, 0, none⟩ 1 1 [.int .u8 cv] rfl rfl (cell_one_new _ _ _) (by simp [Value.oneCell']) (by unfold maxLen; omega) (by omega) (by have := HR.out.base; simp; omega) ?_; intro v' w1 hown' hgrow _ hv')
            have R := HR.out.step hown' hgrow hv'
            rw [ES.out] at R
            go_roundw
            case rel => exact ⟨k + 1, by omega, by go_num, R⟩
            case measure => simp [intOf]; omega
          · obtain rfl : k = m := by omega
            have Q2 := hid (show Outs B sb D w0 wr u0 (sgnT neg ++ D.take k ++ List.replicate 0 48) by rw [List.replicate_zero, List.append_nil]; exact HR.out)
            go_wp2_with fail
            go_loopw [0, 203] (fun v i wr => ∃ j : Nat, j ≤ n - k ∧ i = .int .i64 j ∧ Hid (Outs B sb D w0 wr v (sgnT neg ++ D.take k ++ List.replicate j 48))) (fun _ i _ => n - k - (intOf i).toNat)
            case atStart => exact ⟨0, Nat.zero_le _, rfl, Q2⟩
            case round =>
              obtain ⟨j, hj, rfl, HR2⟩ := hrel
              have l3 : (sgnT neg ++ D.take k ++ List.replicate j 48).length ≤ 2000 := by simp; omega
              by_cases hlt : j < n - k
              · have ES := hid (rep_snoc (sgnT neg ++ D.take k) j)
                go_wp2_with (at_builtin; refine wpList_append_own_at _ rfl _ _ 37 rfl B 5 i0 (.int .u8 0) 1 1 Tryd.underlying37 hi hz0 hz1 hz2 rfl (by decide) _ _ _ rfl (HR2.out.own.alloc _) ⟨wr.heap.size, 0, none⟩ 1 1 [.int .u8 48] rfl rfl (cell_one_new _ _ _) (by simp [Value.oneCell']) (by unfold maxLen; omega) (by omega) (by have := HR2.out.base; simp; omega) ?_; intro v' w1 hown' hgrow _ hv')
                have R := HR2.out.step hown' hgrow hv'
                rw [ES.out] at R
                go_roundw
                case rel => exact ⟨j + 1, by omega, by go_num, R⟩
                case measure => simp [intOf]; omega
              · obtain rfl : j = n - k := by omega
                go_wp2_with fail
                go_meet
                case rel =>
                  rw [ET.out] at HR2
                  exact HR2
      · go_wp2_with (at_builtin; refine wpList_append_own_at _ rfl _ _ 37 rfl B 5 i0 (.int .u8 0) 1 1 Tryd.underlying37 hi hz0 hz1 hz2 rfl (by decide) _ _ _ rfl (H1.out.own.alloc _) ⟨wc.heap.size, 0, none⟩ 1 1 [.int .u8 48] rfl rfl (cell_one_new _ _ _) (by simp [Value.oneCell']) (by unfold maxLen; omega) (by omega) (by have := H1.out.base; simp; omega) ?_; intro v' w1 hown' hgrow _ hv')
        go_meet
        case rel =>
          rw [intT, if_neg (by omega)]
          exact H1.out.step hown' hgrow hv'
    case rest =>
      have H2 := hcut
      clear hcut H1
      have l1 := sgn_len neg
      have l2 := int_len D dp
      have EL := hid (show (sgnT neg ++ intT D dp).length ≤ 1100 by rw [List.length_append]; omega)
      by_cases hq : dp < D.length
      · obtain ⟨lz, elz⟩ : ∃ lz : Nat, (-dp).toNat = lz := ⟨_, rfl⟩
        obtain ⟨off, eoff⟩ : ∃ off : Nat, dp.toNat = off := ⟨_, rfl⟩
        obtain ⟨mid, emid⟩ : ∃ mid : Nat, D.length - off = mid := ⟨_, rfl⟩
        obtain ⟨pre, epre⟩ : ∃ pre, sgnT neg ++ intT D dp = pre := ⟨_, rfl⟩
        have EF := hid (show pre ++ [46] ++ List.replicate lz 48 ++ (D.drop off).take mid = sgnT neg ++ intT D dp ++ fracT D dp by
          rw [← epre, fracT, if_pos hq, elz, eoff, List.take_of_length_le (by rw [List.length_drop]; omega)]
          simp)
        have hpr : prec = D.length - dp := by have := HP.out; rw [if_pos hq] at this; exact this
        have hp0 : decide (0 < prec) = true := decide_eq_true (by omega)
        have E1 := hid (show min prec (max 0 (-dp)) = (lz : Int) by omega)
        have E2 := hid (show dp + (lz : Int) = (off : Int) by omega)
        have E3 := hid (show min (prec - (lz : Int)) (max 0 ((D.length : Int) - (off : Int))) = (mid : Int) by omega)
        have E4 := hid (show max 0 (prec - (lz : Int) - (mid : Int)) = 0 by omega)
        have hb1 : off + mid = D.length := by omega
        have hb2 : lz ≤ 1000 := by omega
        have hpr1 : 0 < prec ∧ prec ≤ 2000 := by omega
        rw [epre] at H2 EL
        clear hpr elz eoff emid hq HP epre
        have l3 := EL.out
        go_wp2_with (at_builtin; refine wpList_append_own_at _ rfl _ _ 37 rfl B 5 i0 (.int .u8 0) 1 1 Tryd.underlying37 hi hz0 hz1 hz2 rfl (by decide) _ _ _ rfl (H2.out.own.alloc _) ⟨wc.heap.size, 0, none⟩ 1 1 [.int .u8 46] rfl rfl (cell_one_new _ _ _) (by simp [Value.oneCell']) (by unfold maxLen; omega) (by omega) (by have := H2.out.base; simp; omega) ?_; intro v' w1 hown' hgrow _ hv')
        have Q3 := hid (show Outs B sb D w0 w1 v' (pre ++ [46] ++ List.replicate 0 48) by rw [List.replicate_zero, List.append_nil]; exact H2.out.step hown' hgrow hv')
        clear H2 hown' hgrow hv'
        rw [E1.out, E2.out, E3.out, E4.out]
        go_loopw [0, 240] (fun v i wr => ∃ j : Nat, j ≤ lz ∧ i = .int .i64 j ∧ Hid (Outs B sb D w0 wr v (pre ++ [46] ++ List.replicate j 48))) (fun _ i _ => lz - (intOf i).toNat)
        case atStart => exact ⟨0, Nat.zero_le _, rfl, Q3⟩
        case round =>
          obtain ⟨j, hj, rfl, HR⟩ := hrel
          have l4 : (pre ++ [46] ++ List.replicate j 48).length ≤ 5000 := by simp; omega
          by_cases hlt : j < lz
          · have ES := hid (rep_snoc (pre ++ [46]) j)
            go_wp2_with (at_builtin; refine wpList_append_own_at _ rfl _ _ 37 rfl B 5 i0 (.int .u8 0) 1 1 Tryd.underlying37 hi hz0 hz1 hz2 rfl (by decide) _ _ _ rfl (HR.out.own.alloc _) ⟨wr.heap.size, 0, none⟩ 1 1 [.int .u8 48] rfl rfl (cell_one_new _ _ _) (by simp [Value.oneCell']) (by unfold maxLen; omega) (by omega) (by have := HR.out.base; simp; omega) ?_; intro v' w1 hown' hgrow _ hv')
            have R := HR.out.step hown' hgrow hv'
            rw [ES.out] at R
            go_roundw
            case rel => exact ⟨j + 1, by omega, by go_num, R⟩
            case measure => simp [intOf]; omega
          · obtain rfl : j = lz := by omega
            have Q4 := hid (show Outs B sb D w0 wr u0 (pre ++ [46] ++ List.replicate j 48 ++ (D.drop off).take 0) by rw [List.take_zero, List.append_nil]; exact HR.out)
            clear HR
            go_wp2_with fail
            go_loopw [0, 247] (fun v i wr => ∃ k : Nat, k ≤ mid ∧ i = .int .i64 k ∧ Hid (Outs B sb D w0 wr v (pre ++ [46] ++ List.replicate j 48 ++ (D.drop off).take k))) (fun _ i _ => mid - (intOf i).toNat)
            case atStart => exact ⟨0, Nat.zero_le _, rfl, Q4⟩
            case round =>
              obtain ⟨k, hk, rfl, HR⟩ := hrel
              have l5 : (pre ++ [46] ++ List.replicate j 48 ++ (D.drop off).take k).length ≤ 9000 := by simp; omega
              by_cases hlt : k < mid
              · have c := HR.out.dig (off + k) (by omega)
                have ES := hid (drop_snoc (show off + k < D.length by omega) (pre ++ [46] ++ List.replicate j 48))
                generalize D.getD (off + k) 0 = cv at *
                go_wp2_with (at_builtin; refine wpList_append_own_at _ rfl _ _ 37 rfl B 5 i0 (.int .u8 0) 1 1 Tryd.underlying37 hi hz0 hz1 hz2 rfl (by decide) _ _ _ rfl (HR.out.own.alloc _) ⟨wr.heap.size, 0, none⟩ 1 1 [.int .u8 cv] rfl rfl (cell_one_new _ _ _) (by simp [Value.oneCell']) (by unfold maxLen; omega) (by omega) (by have := HR.out.base; simp; omega) ?_; intro v' w1 hown' hgrow _ hv')
                have R := HR.out.step hown' hgrow hv'
                rw [ES.out] at R
                go_roundw
                case rel => exact ⟨k + 1, by omega, by go_num, R⟩
                case measure => simp [intOf]; omega
              · obtain rfl : k = mid := by omega
                go_wp2_with fail
                go_loopw [0, 261] (fun v i wr => i = .int .i64 0 ∧ Hid (Outs B sb D w0 wr v (pre ++ [46] ++ List.replicate j 48 ++ (D.drop off).take k))) (fun _ i _ => 0)
                case atStart => exact ⟨rfl, HR⟩
                case round =>
                  obtain ⟨rfl, HR⟩ := hrel
                  rw [EF.out] at HR
                  go_wp2_with fail
                  go_ret
                  first | exact ⟨u0, rfl, HR⟩ | (rw [List.append_assoc] at HR; exact ⟨u0, rfl, HR⟩)
      · have hpr : prec = 0 := by have := HP.out; rw [if_neg hq] at this; exact this
        have EF := hid (show sgnT neg ++ intT D dp = sgnT neg ++ intT D dp ++ fracT D dp by rw [fracT, if_neg hq, List.append_nil])
        have H3 := H2
        rw [EF.out] at H3
        subst hpr
        clear EF H2
        go_wp2_with fail
        go_ret
        first | exact ⟨u0, rfl, H3⟩ | (rw [List.append_assoc] at H3; exact ⟨u0, rfl, H3⟩)
end Go.Proofs.Qxb6603897aDoor
