/-
  The walk of the law's own scan (zzRuneColumn), and the bounds on the length.
-/
import Derived.Test.Qxb6604505aFmtWidth2
namespace Go.Proofs.Qxb6604505aFmt
open Go.RowKit

set_option maxHeartbeats 400000 in
theorem bytesM_any (s : ByteArray) (o : Int) (w : World) (hs : s.size ≤ maxLen) :
    Calls Tryf.prog 30 #[.string s, .int .i64 o] w fun e w' => e = .returned (.bool (decide (s.size ≤ 1048576))) ∧ w' = w := by
  unfold maxLen at hs
  by_cases h : s.size ≤ 1048576
  all_goals
    go_enter Tryf.func30, Tryf.ntmps30
    go_wp2
    go_ret
    exact ⟨ret_bool (by simp [h]), rfl⟩

set_option maxHeartbeats 400000 in
theorem bytesS_any (s : ByteArray) (o : Int) (w : World) (hs : s.size ≤ maxLen) :
    Calls Tryf.prog 34 #[.string s, .int .i64 o] w fun e w' => e = .returned (.bool (decide (s.size ≤ 1048576))) ∧ w' = w := by
  unfold maxLen at hs
  by_cases h : s.size ≤ 1048576
  all_goals
    go_enter Tryf.func34, Tryf.ntmps34
    go_wp2
    go_ret
    exact ⟨ret_bool (by simp [h]), rfl⟩

/-- The scan stands at the first byte of a character; k characters of its line lie behind it. -/
def Scan (s : ByteArray) (p k : Nat) : Prop := pos s (ls s p) k = p
theorem scan_zero (s : ByteArray) : Scan s 0 0 := rfl
theorem scan_lf (s : ByteArray) (p : Nat) (h : bn s p = 10) : Scan s (p + wd s p) 0 := by
  have e := wd_ascii s p (by omega)
  unfold Scan
  rw [e, ls_lf s p h]; rfl
theorem scan_on (s : ByteArray) (p k : Nat) (hk : Scan s p k) (h : bn s p ≠ 10) : Scan s (p + wd s p) (k + 1) := by
  unfold Scan at *
  rw [ls_char s p (p + wd s p) h (by omega) (Nat.le_refl _)]
  show pos s (ls s p) k + wd s (pos s (ls s p) k) = _
  rw [hk]
theorem scan_out (s : ByteArray) (p k off : Nat) (hk : Scan s p k) (h1 : p ≤ off) (h2 : off < p + wd s p) : At s (ls s off) off k := by
  unfold Scan at hk
  rw [ls_in s p off h1 h2]
  refine ⟨by omega, ?_⟩
  show off < pos s (ls s p) k + wd s (pos s (ls s p) k)
  rw [hk]; exact h2
theorem scan_len (s : ByteArray) (p k : Nat) (hk : Scan s p k) : k ≤ p := by
  unfold Scan at hk
  have := pos_ge s (ls s p) k
  omega

set_option maxHeartbeats 1000000 in
theorem scan_any (s : ByteArray) (off : Nat) (w : World) (hs : s.size ≤ 1048576) (ho : off ≤ s.size) :
    Calls Tryf.prog 33 #[.string s, .int .i64 off] w fun e w' => (∃ k, e = .returned (.int .i64 (k + 1 : Nat)) ∧ At s (ls s off) off k) ∧ w' = w := by
  have hb := get_bt s
  go_enter Tryf.func33, Tryf.ntmps33
  go_wp2
  go_loop [5, 6] (fun c i => ∃ p k : Nat, p ≤ off ∧ i = .int .i64 p ∧ c = .int .i64 ((k : Int) + 1) ∧ Hid (Scan s p k)) (fun _ i => s.size - (intOf i).toNat)
  case atStart => exact ⟨0, 0, Nat.zero_le _, rfl, rfl, scan_zero s⟩
  case round =>
    obtain ⟨p, k, hp, rfl, rfl, H⟩ := hrel
    have hkp := scan_len s p k H.out
    by_cases hlt : p < s.size
    · have hw1 := wd_pos s p
      have hw2 := wd_end s p hlt
      have CW : Hid (∀ w1, Calls Tryf.prog 45 #[.string s, .int .i64 p] w1 fun e w' => e = .returned (.int .i64 (wd s p)) ∧ w' = w1) := fun w1 => width_any s p w1 hs hlt
      by_cases hin : off < p + wd s p
      · have X : Hid (At s (ls s off) off k) := scan_out s p k off H.out hp hin
        go_wp2_with (go_at_call 45; refine (CW.out _).mono ?_; rintro e w' ⟨rfl, rfl⟩)
        go_ret
        exact ⟨⟨k, ret_int (by omega), X.out⟩, rfl⟩
      · cases h10 : (bt s p == 10)
        · have h10' : bn s p ≠ 10 := by unfold bt at h10; simp at h10; omega
          have S : Hid (Scan s (p + wd s p) (k + 1)) := scan_on s p k H.out h10'
          clear h10'
          go_wp2_with (go_at_call 45; refine (CW.out _).mono ?_; rintro e w' ⟨rfl, rfl⟩)
          go_round
          case rel => exact ⟨p + wd s p, k + 1, by omega, by go_num, by go_num, S⟩
          case measure => simp [intOf]; omega
        · have h10' : bn s p = 10 := by unfold bt at h10; simp at h10; omega
          have S : Hid (Scan s (p + wd s p) 0) := scan_lf s p h10'
          clear h10'
          go_wp2_with (go_at_call 45; refine (CW.out _).mono ?_; rintro e w' ⟨rfl, rfl⟩)
          go_round
          case rel => exact ⟨p + wd s p, 0, by omega, by go_num, by go_num, S⟩
          case measure => simp [intOf]; omega
    · have X : Hid (At s (ls s off) off k) := scan_out s p k off H.out hp (by have := wd_pos s p; omega)
      go_wp2
      go_ret
      exact ⟨⟨k, ret_int (by omega), X.out⟩, rfl⟩

end Go.Proofs.Qxb6604505aFmt
