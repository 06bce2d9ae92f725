/-
  The walk of the law's own automaton (zzHostScan), and the bound on the length.
-/
import Derived.Test.Qxb6604198aDoorRows
import Derived.Test.Qxb6604198aDoorPlain
import Derived.WalkKit
import Derived.WalkSpells
import Derived.WalkLawsBesides
namespace Go.Proofs.Qxb6604198aDoor
open Go.RowKit

theorem ret_bool {a b : Bool} (h : a = b) : Ending.returned (.bool a) = .returned (.bool b) := by rw [h]
theorem hid {p : Prop} (h : p) : Hid p := h

set_option maxHeartbeats 400000 in
theorem bytes_any (s : ByteArray) (w : World) (hs : s.size ≤ maxLen) :
    Calls Tryd.prog 4 #[.string s] w fun e w' => e = .returned (.bool (decide (s.size ≤ 1048576))) ∧ w' = w := by
  unfold maxLen at hs
  by_cases h : s.size ≤ 1048576
  all_goals
    go_enter Tryd.func4, Tryd.ntmps4
    go_wp2
    go_ret
    exact ⟨ret_bool (by simp [h]), rfl⟩

def resH (s : ByteArray) : Bool := decide (s.size ≤ 253) && hostB (bs s)
theorem res_empty (s : ByteArray) (h : ¬ 0 < s.size) : resH s = false := by
  have e : bs s = [] := by have := bs_drop_end s 0 (by omega); rwa [List.drop_zero] at this
  unfold resH; rw [e]
  have : hostB [] = false := by decide
  rw [this]; simp
theorem res_long (s : ByteArray) (h : 253 < s.size) : resH s = false := by
  unfold resH; rw [decide_eq_false (by omega)]; rfl
theorem res_aut (s : ByteArray) (h : s.size ≤ 253) : resH s = autB 0 46 (bs s) := by
  unfold resH; rw [decide_eq_true h, agree]; rfl

theorem aut_dot_bad (r : Nat) (prev c : Int) (l : List Int) (h : (c == 46) = true) (hb : r = 0 ∨ (prev == 45) = true) : autB r prev (c :: l) = false := by
  have e : c = 46 := by simpa using h
  rw [autB, if_pos e]
  rcases hb with hb | hb
  · simp [hb]
  · simp at hb; simp [hb]
theorem aut_dot (r : Nat) (prev c : Int) (l : List Int) (h : (c == 46) = true) (h1 : r ≠ 0) (h2 : (prev == 45) = false) : autB r prev (c :: l) = autB 0 c l := by
  have e : c = 46 := by simpa using h
  simp at h2
  rw [autB, if_pos e]; simp [h1, h2]
theorem aut_bad (r : Nat) (prev c : Int) (l : List Int) (h : (c == 46) = false) (hb : okB c = false ∨ (r = 0 ∧ c = 45) ∨ ¬ r + 1 ≤ 63) : autB r prev (c :: l) = false := by
  simp at h
  rw [autB, if_neg h]
  rcases hb with hb | hb | hb
  · simp [hb]
  · simp [hb.1, hb.2]
  · rw [decide_eq_false hb]; simp
theorem aut_on (r : Nat) (prev c : Int) (l : List Int) (h : (c == 46) = false) (h1 : okB c = true) (h2 : ¬ (r = 0 ∧ c = 45)) (h3 : r + 1 ≤ 63) : autB r prev (c :: l) = autB (r + 1) c l := by
  simp at h
  rw [autB, if_neg h, h1, decide_eq_true h3]
  have : (decide (r = 0) && decide (c = 45)) = false := by
    cases e : (decide (r = 0) && decide (c = 45)) with
    | false => rfl
    | true => simp at e; exact absurd e h2
  rw [this]; rfl

theorem cls (c : Int) (h : okB c = false) : (c < 48 ∧ (c == 45) = false) ∨ (57 < c ∧ c < 97 ∧ (c == 45) = false) ∨ (122 < c ∧ (c == 45) = false) := by
  simp only [okB, lowB, digB, Bool.or_eq_false_iff, Bool.and_eq_false_iff, decide_eq_false_iff_not] at h
  obtain ⟨⟨h1, h2⟩, h3⟩ := h
  have h4 : (c == 45) = false := beq_eq_false_iff_ne.2 h3
  by_cases a : c < 48
  · exact .inl ⟨a, h4⟩
  by_cases b : c < 97
  · exact .inr (.inl ⟨by omega, b, h4⟩)
  · exact .inr (.inr ⟨by omega, h4⟩)
theorem cls2 (c : Int) (h : okB c = true) : (97 ≤ c ∧ c ≤ 122 ∧ (c == 45) = false) ∨ (48 ≤ c ∧ c ≤ 57 ∧ (c == 45) = false) ∨ (c < 48 ∧ (c == 45) = true) := by
  simp only [okB, lowB, digB, Bool.or_eq_true, Bool.and_eq_true, decide_eq_true_eq] at h
  rcases h with (h | h) | h
  · exact .inl ⟨h.1, h.2, beq_eq_false_iff_ne.2 (by omega)⟩
  · exact .inr (.inl ⟨h.1, h.2, beq_eq_false_iff_ne.2 (by omega)⟩)
  · exact .inr (.inr ⟨by omega, beq_iff_eq.2 h⟩)

set_option maxHeartbeats 2000000 in
theorem scan_any (s : ByteArray) (w : World) (hs : s.size ≤ maxLen) :
    Calls Tryd.prog 6 #[.string s] w fun e w' => e = .returned (.bool (resH s)) ∧ w' = w := by
  unfold maxLen at hs
  have hb := get_bt s
  by_cases h0 : 0 < s.size
  case neg =>
    have X := hid (res_empty s h0)
    have hz : ((s.size : Int) == 0) = true := beq_iff_eq.2 (by omega)
    go_enter Tryd.func6, Tryd.ntmps6
    go_wp2
    go_ret
    exact ⟨ret_bool X.out.symm, rfl⟩
  have hz : ((s.size : Int) == 0) = false := beq_eq_false_iff_ne.2 (by omega)
  by_cases h253 : s.size ≤ 253
  case neg =>
    have X := hid (res_long s (by omega))
    go_enter Tryd.func6, Tryd.ntmps6
    go_wp2
    go_ret
    exact ⟨ret_bool X.out.symm, rfl⟩
  have R := hid (res_aut s h253)
  go_enter Tryd.func6, Tryd.ntmps6
  go_wp2
  go_loop [3, 4, 5] (fun r p i => ∃ (k run : Nat) (prev : Int), k ≤ s.size ∧ run ≤ 63 ∧ i = .int .i64 k ∧ r = .int .i64 run ∧ p = .int .u8 prev ∧ Hid (autB 0 46 (bs s) = autB run prev ((bs s).drop k))) (fun _ _ i => s.size - (intOf i).toNat)
  case atStart => exact ⟨0, 0, 46, Nat.zero_le _, by omega, rfl, rfl, rfl, by rw [List.drop_zero]; exact rfl⟩
  case round =>
    obtain ⟨k, run, prev, hk, hr, rfl, rfl, rfl, H⟩ := hrel
    by_cases hlt : k < s.size
    · have D := hid (bs_drop s k hlt)
      cases c46 : (bt s k == 46)
      · cases ho : okB (bt s k)
        · have X := hid (show resH s = false by rw [R.out, H.out, D.out]; exact aut_bad _ _ _ _ c46 (.inl ho))
          rcases cls (bt s k) ho with ⟨hl, c45⟩ | ⟨hl, hl2, c45⟩ | ⟨hl, c45⟩
          · have d1 : decide (97 ≤ bt s k) = false := decide_eq_false (by omega)
            have d2 : decide (48 ≤ bt s k) = false := decide_eq_false (by omega)
            go_wp2
            go_ret
            exact ⟨ret_bool X.out.symm, rfl⟩
          · have d1 : decide (97 ≤ bt s k) = false := decide_eq_false (by omega)
            have d2 : decide (48 ≤ bt s k) = true := decide_eq_true (by omega)
            have d3 : decide (bt s k ≤ 57) = false := decide_eq_false (by omega)
            go_wp2
            go_ret
            exact ⟨ret_bool X.out.symm, rfl⟩
          · have d1 : decide (97 ≤ bt s k) = true := decide_eq_true (by omega)
            have d4 : decide (bt s k ≤ 122) = false := decide_eq_false (by omega)
            have d2 : decide (48 ≤ bt s k) = true := decide_eq_true (by omega)
            have d3 : decide (bt s k ≤ 57) = false := decide_eq_false (by omega)
            go_wp2
            go_ret
            exact ⟨ret_bool X.out.symm, rfl⟩
        · by_cases hbad : (run = 0 ∧ bt s k = 45) ∨ ¬ run + 1 ≤ 63
          · have X := hid (show resH s = false by rw [R.out, H.out, D.out]; exact aut_bad _ _ _ _ c46 (.inr hbad))
            rcases hbad with ⟨hr0, h45⟩ | h63
            · subst hr0
              have c45 : (bt s k == 45) = true := beq_iff_eq.2 h45
              have hl : bt s k < 48 := by omega
              clear h45
              go_wp2
              go_ret
              exact ⟨ret_bool X.out.symm, rfl⟩
            · have hr0 : ((run : Int) == 0) = false := beq_eq_false_iff_ne.2 (by omega)
              rcases cls2 (bt s k) ho with ⟨hl, hl2, c45⟩ | ⟨hl, hl2, c45⟩ | ⟨hl, c45⟩
              all_goals
                go_wp2
                go_ret
                exact ⟨ret_bool X.out.symm, rfl⟩
          · have h63 : run + 1 ≤ 63 := by omega
            have H2 := hid (show autB 0 46 (bs s) = autB (run + 1) (bt s k) ((bs s).drop (k + 1)) by rw [H.out, D.out]; exact aut_on _ _ _ _ c46 ho (fun h => hbad (.inl h)) h63)
            rcases cls2 (bt s k) ho with ⟨hl, hl2, c45⟩ | ⟨hl, hl2, c45⟩ | ⟨hl, c45⟩
            · clear hbad
              go_wp2
              all_goals
                go_round
                case rel => exact ⟨k + 1, run + 1, _, by omega, by omega, by go_num, by go_num, rfl, H2⟩
                case measure => simp [intOf]; omega
            · clear hbad
              go_wp2
              all_goals
                go_round
                case rel => exact ⟨k + 1, run + 1, _, by omega, by omega, by go_num, by go_num, rfl, H2⟩
                case measure => simp [intOf]; omega
            · have hr0 : ((run : Int) == 0) = false := beq_eq_false_iff_ne.2 (fun e => hbad (.inl ⟨by omega, by simpa using c45⟩))
              clear hbad
              go_wp2
              go_round
              case rel => exact ⟨k + 1, run + 1, _, by omega, by omega, by go_num, by go_num, rfl, H2⟩
              case measure => simp [intOf]; omega
      · by_cases hr0 : run = 0
        · have X := hid (show resH s = false by rw [R.out, H.out, D.out]; exact aut_dot_bad _ _ _ _ c46 (.inl hr0))
          subst hr0
          go_wp2
          go_ret
          exact ⟨ret_bool X.out.symm, rfl⟩
        · have hrz : ((run : Int) == 0) = false := beq_eq_false_iff_ne.2 (by omega)
          cases p45 : (prev == 45)
          · have H2 := hid (show autB 0 46 (bs s) = autB 0 (bt s k) ((bs s).drop (k + 1)) by rw [H.out, D.out]; exact aut_dot _ _ _ _ c46 hr0 p45)
            clear hr0
            go_wp2
            go_round
            case rel => exact ⟨k + 1, 0, _, by omega, by omega, by go_num, by go_num, rfl, H2⟩
            case measure => simp [intOf]; omega
          · have X := hid (show resH s = false by rw [R.out, H.out, D.out]; exact aut_dot_bad _ _ _ _ c46 (.inr p45))
            clear hr0
            go_wp2
            go_ret
            exact ⟨ret_bool X.out.symm, rfl⟩
    · have E := hid (show resH s = (decide (0 < run) && !decide (prev = 45)) by rw [R.out, H.out, bs_drop_end s k (by omega)]; rfl)
      by_cases hr0 : 0 < run
      · cases p45 : (prev == 45)
        · have X := hid (show (prev != 45) = resH s by rw [E.out, decide_eq_true hr0]; simp at p45; simp [p45])
          go_wp2
          go_ret
          exact ⟨ret_bool X.out, rfl⟩
        · have X := hid (show (prev != 45) = resH s by rw [E.out]; simp at p45; simp [p45])
          go_wp2
          go_ret
          exact ⟨ret_bool X.out, rfl⟩
      · have X := hid (show resH s = false by rw [E.out, decide_eq_false hr0]; rfl)
        go_wp2
        go_ret
        exact ⟨ret_bool X.out.symm, rfl⟩
end Go.Proofs.Qxb6604198aDoor
