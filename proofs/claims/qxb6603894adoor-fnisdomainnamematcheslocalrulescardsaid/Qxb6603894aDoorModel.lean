/-
  The walk of the law's own one-pass rule (zzModelHostName).
-/
import Derived.Test.Qxb6603894aDoorSmall
namespace Go.Proofs.Qxb6603894aDoor
open Go.RowKit

theorem runB_pos : ∀ (l : List Int) (r : Nat), l ≠ [] → lst l ≠ 46 → 1 ≤ runB r l
  | [], _, h, _ => absurd rfl h
  | [a], r, _, h => by
    have h' : ¬ a = 46 := h
    simp [runB, h']
  | a :: b :: t, r, _, h => by
    rw [lst_cons a _ (by simp)] at h
    rw [runB]
    split
    · exact runB_pos (b :: t) 0 (by simp) h
    · exact runB_pos (b :: t) (r + 1) (by simp) h

def resB (s : ByteArray) : Bool := decide (s.size ≤ 253) && modB (bs s)
theorem res_empty (s : ByteArray) (h : ¬ 0 < s.size) : resB s = false := by
  have e : bs s = [] := by have := bs_drop_end s 0 (by omega); rwa [List.drop_zero] at this
  unfold resB; rw [e]; simp [modB]
theorem res_long (s : ByteArray) (h : 253 < s.size) : resB s = false := by
  unfold resB; rw [decide_eq_false (by omega)]; rfl
theorem res_head (s : ByteArray) (h : endB (bt s 0) = true) : resB s = false := by
  unfold resB modB; rw [hd_bs, h]; simp
theorem res_last (s : ByteArray) (h0 : 0 < s.size) (h : endB (bt s (s.size - 1)) = true) : resB s = false := by
  unfold resB modB; rw [lst_bs s h0, h]; simp
theorem res_scan (s : ByteArray) (h : scanB 0 (bs s) = false) : resB s = false := by
  unfold resB modB; rw [h]; simp
theorem res_pairs (s : ByteArray) (h : pairsB (bs s) = false) : resB s = false := by
  unfold resB modB; rw [h]; simp
theorem res_end (s : ByteArray) (h0 : 0 < s.size) (h1 : s.size ≤ 253) (h2 : endB (bt s 0) = false) (h3 : endB (bt s (s.size - 1)) = false) (h4 : scanB 0 (bs s) = true) (h5 : pairsB (bs s) = true) :
    resB s = alphaB (bt s (s.size - runB 0 (bs s))) := by
  have e : (bs s).isEmpty = false := by simpa using bs_ne s h0
  unfold resB modB
  rw [hd_bs, lst_bs s h0, h2, h3, h4, h5, e, bs_length, bs_getD, decide_eq_true h1]
  simp

theorem end_of {c : Int} (h : c = 46 ∨ c = 45) : endB c = true := by unfold endB; rcases h with h | h <;> simp [h]
theorem end_no {c : Int} (h1 : (c == 46) = false) (h2 : (c == 45) = false) : endB c = false := by unfold endB; simp at h1 h2; simp [h1, h2]

set_option maxHeartbeats 1000000 in
theorem model_ends (s : ByteArray) (w : World) (hs : s.size ≤ maxLen) (h : s.size = 0 ∨ 253 < s.size ∨ endB (bt s 0) = true ∨ endB (bt s (s.size - 1)) = true) :
    Calls Tryd.prog 6 #[.string s] w fun e w' => e = .returned (.bool (resB s)) ∧ w' = w := by
  unfold maxLen at hs
  have hb := get_bt s
  by_cases h0 : 0 < s.size
  case neg =>
    have X : Hid (resB s = false) := res_empty s h0
    clear h
    go_enter Tryd.func6, Tryd.ntmps6
    go_wp2
    go_ret
    exact ⟨ret_bool X.out.symm, rfl⟩
  by_cases h253 : s.size ≤ 253
  case neg =>
    have X : Hid (resB s = false) := res_long s (by omega)
    clear h
    go_enter Tryd.func6, Tryd.ntmps6
    go_wp2
    go_ret
    exact ⟨ret_bool X.out.symm, rfl⟩
  have X : Hid (resB s = false) := by
    rcases h with h | h | h | h
    · omega
    · omega
    · exact res_head s h
    · exact res_last s h0 h
  have Y : endB (bt s 0) = true ∨ endB (bt s (s.size - 1)) = true := by
    rcases h with h | h | h | h
    · omega
    · omega
    · exact .inl h
    · exact .inr h
  clear h
  unfold endB at Y
  cases h1 : (bt s 0 == 46) <;> cases h2 : (bt s 0 == 45) <;> cases h3 : (bt s (s.size - 1) == 46) <;> cases h4 : (bt s (s.size - 1) == 45)
  all_goals try (exfalso; simp at h1 h2 h3 h4; simp [h1, h2, h3, h4] at Y; done)
  all_goals
    clear Y
    go_enter Tryd.func6, Tryd.ntmps6
    go_wp2
    go_ret
    exact ⟨ret_bool X.out.symm, rfl⟩

theorem scan_dot (r : Nat) (c : Int) (l : List Int) (h : (c == 46) = true) : scanB r (c :: l) = scanB 0 l ∧ runB r (c :: l) = runB 0 l := by
  have : c = 46 := by simpa using h
  simp [scanB, runB, this]
theorem scan_bad (r : Nat) (c : Int) (l : List Int) (h : (c == 46) = false) (h1 : alnumB c = false) (h2 : (c == 45) = false) : scanB r (c :: l) = false := by
  simp at h h2
  simp [scanB, okB, h, h1, h2]
theorem scan_long (r : Nat) (c : Int) (l : List Int) (h : (c == 46) = false) (h1 : ¬ r + 1 ≤ 63) : scanB r (c :: l) = false := by
  simp at h
  rw [scanB, if_neg h, decide_eq_false h1]; simp
theorem scan_step (r : Nat) (c : Int) (l : List Int) (h : (c == 46) = false) (h1 : alnumB c = true ∨ (c == 45) = true) (h2 : r + 1 ≤ 63) : scanB r (c :: l) = scanB (r + 1) l ∧ runB r (c :: l) = runB (r + 1) l := by
  simp at h
  have ho : okB c = true := by
    unfold okB
    rcases h1 with h1 | h1
    · simp [h1]
    · simp at h1; simp [h1]
  simp [scanB, runB, h, ho]
  omega

theorem pair_ok (p q : Int) (l : List Int) (h : badB p q = false) : pairsB (p :: q :: l) = pairsB (q :: l) := by rw [pairsB, h]; rfl
theorem pair_bad (p q : Int) (l : List Int) (h : badB p q = true) : pairsB (p :: q :: l) = false := by rw [pairsB, h]; rfl
theorem pairs_short (l : List Int) (h : l.length ≤ 1) : pairsB l = true := by
  match l, h with
  | [], _ => rfl
  | [_], _ => rfl

set_option maxHeartbeats 1000000 in
theorem model_main (s : ByteArray) (w : World) (hs : s.size ≤ 253) (h0 : 0 < s.size) (h1 : (bt s 0 == 46) = false) (h2 : (bt s 0 == 45) = false) (h3 : (bt s (s.size - 1) == 46) = false) (h4 : (bt s (s.size - 1) == 45) = false) :
    Calls Tryd.prog 6 #[.string s] w fun e w' => e = .returned (.bool (resB s)) ∧ w' = w := by
  have hb := get_bt s
  go_enter Tryd.func6, Tryd.ntmps6
  go_wp2
  go_loop [4, 5, 6] (fun r d i => ∃ k run : Nat, k ≤ s.size ∧ run ≤ 63 ∧ run ≤ k ∧ i = .int .i64 k ∧ r = .int .i64 run ∧ d = .int .i64 ((k : Int) - 1 - run) ∧ Hid (scanB 0 (bs s) = scanB run ((bs s).drop k) ∧ runB 0 (bs s) = runB run ((bs s).drop k))) (fun _ _ i => s.size - (intOf i).toNat)
  case atStart => exact ⟨0, 0, Nat.zero_le _, by omega, by omega, rfl, rfl, rfl, by rw [List.drop_zero]; exact ⟨rfl, rfl⟩⟩
  case round =>
    obtain ⟨k, run, hk, hr63, hrk, rfl, rfl, rfl, H⟩ := hrel
    by_cases hlt : k < s.size
    · have D : Hid ((bs s).drop k = bt s k :: (bs s).drop (k + 1)) := bs_drop s k hlt
      cases c46 : (bt s k == 46)
      · cases ca : alnumB (bt s k)
        · cases c45 : (bt s k == 45)
          · have X : Hid (resB s = false) := res_scan s (by rw [H.out.1, D.out]; exact scan_bad _ _ _ c46 ca c45)
            go_wp2_with (go_at_call 8; refine (alnum_any _ _).mono ?_; rintro e w' ⟨rfl, rfl⟩)
            go_ret
            exact ⟨ret_bool X.out.symm, rfl⟩
          · by_cases h63 : run + 1 ≤ 63
            · have ST := scan_step run (bt s k) ((bs s).drop (k + 1)) c46 (.inr c45) h63
              have H2 : Hid (scanB 0 (bs s) = scanB (run + 1) ((bs s).drop (k + 1)) ∧ runB 0 (bs s) = runB (run + 1) ((bs s).drop (k + 1))) := ⟨by rw [H.out.1, D.out, ST.1], by rw [H.out.2, D.out, ST.2]⟩
              clear ST
              go_wp2_with (go_at_call 8; refine (alnum_any _ _).mono ?_; rintro e w' ⟨rfl, rfl⟩)
              go_round
              case rel => exact ⟨k + 1, run + 1, by omega, by omega, by omega, by go_num, by go_num, by go_num, H2⟩
              case measure => simp [intOf]; omega
            · have X : Hid (resB s = false) := res_scan s (by rw [H.out.1, D.out]; exact scan_long _ _ _ c46 h63)
              go_wp2_with (go_at_call 8; refine (alnum_any _ _).mono ?_; rintro e w' ⟨rfl, rfl⟩)
              go_ret
              exact ⟨ret_bool X.out.symm, rfl⟩
        · by_cases h63 : run + 1 ≤ 63
          · have ST := scan_step run (bt s k) ((bs s).drop (k + 1)) c46 (.inl ca) h63
            have H2 : Hid (scanB 0 (bs s) = scanB (run + 1) ((bs s).drop (k + 1)) ∧ runB 0 (bs s) = runB (run + 1) ((bs s).drop (k + 1))) := ⟨by rw [H.out.1, D.out, ST.1], by rw [H.out.2, D.out, ST.2]⟩
            clear ST
            go_wp2_with (go_at_call 8; refine (alnum_any _ _).mono ?_; rintro e w' ⟨rfl, rfl⟩)
            go_round
            case rel => exact ⟨k + 1, run + 1, by omega, by omega, by omega, by go_num, by go_num, by go_num, H2⟩
            case measure => simp [intOf]; omega
          · have X : Hid (resB s = false) := res_scan s (by rw [H.out.1, D.out]; exact scan_long _ _ _ c46 h63)
            go_wp2_with (go_at_call 8; refine (alnum_any _ _).mono ?_; rintro e w' ⟨rfl, rfl⟩)
            go_ret
            exact ⟨ret_bool X.out.symm, rfl⟩
      · have ST := scan_dot run (bt s k) ((bs s).drop (k + 1)) c46
        have H2 : Hid (scanB 0 (bs s) = scanB 0 ((bs s).drop (k + 1)) ∧ runB 0 (bs s) = runB 0 ((bs s).drop (k + 1))) := ⟨by rw [H.out.1, D.out, ST.1], by rw [H.out.2, D.out, ST.2]⟩
        clear ST
        go_wp2_with (go_at_call 8; refine (alnum_any _ _).mono ?_; rintro e w' ⟨rfl, rfl⟩)
        go_round
        case rel => exact ⟨k + 1, 0, by omega, by omega, by omega, by go_num, by go_num, by go_num, H2⟩
        case measure => simp [intOf]; omega
    · obtain rfl : k = s.size := by omega
      have E : Hid (scanB 0 (bs s) = true ∧ runB 0 (bs s) = run) := by
        have e := bs_drop_end s s.size (Nat.le_refl _)
        exact ⟨by rw [H.out.1, e]; rfl, by rw [H.out.2, e]; rfl⟩
      have hrun : 1 ≤ run := by
        have := runB_pos (bs s) 0 (bs_ne s h0) (by rw [lst_bs s h0]; simpa using h3)
        rw [E.out.2] at this
        exact this
      clear H hlt
      go_wp2
      go_loop [8] (fun i => ∃ k : Nat, k ≤ s.size ∧ i = .int .i64 k ∧ Hid (pairsB (bs s) = pairsB ((bs s).drop k))) (fun i => s.size - (intOf i).toNat)
      case atStart => exact ⟨0, Nat.zero_le _, rfl, by rw [List.drop_zero]; exact rfl⟩
      case round =>
        obtain ⟨k, hk2, rfl, H⟩ := hrel
        by_cases hlt : k + 1 < s.size
        · have D : Hid ((bs s).drop k = bt s k :: bt s (k + 1) :: (bs s).drop (k + 2)) := by
            have e1 := bs_drop s k (by omega)
            have e2 := bs_drop s (k + 1) hlt
            rw [e2] at e1; exact e1
          have D2 : Hid ((bs s).drop (k + 1) = bt s (k + 1) :: (bs s).drop (k + 2)) := bs_drop s (k + 1) hlt
          cases hbad : badB (bt s k) (bt s (k + 1))
          · have H2 : Hid (pairsB (bs s) = pairsB ((bs s).drop (k + 1))) := by rw [Hid, H.out, D.out, D2.out]; exact pair_ok _ _ _ hbad
            cases p46 : (bt s k == 46) <;> cases p45 : (bt s k == 45) <;> cases q46 : (bt s (k + 1) == 46) <;> cases q45 : (bt s (k + 1) == 45)
            all_goals try (exfalso; simp at p46 p45 q46 q45; simp [badB, p46, p45, q46, q45] at hbad; done)
            all_goals
              clear hbad
              go_wp2
              go_round
              case rel => exact ⟨k + 1, by omega, by go_num, H2⟩
              case measure => simp [intOf]; omega
          · have X : Hid (resB s = false) := res_pairs s (by rw [H.out, D.out]; exact pair_bad _ _ _ hbad)
            cases p46 : (bt s k == 46) <;> cases p45 : (bt s k == 45) <;> cases q46 : (bt s (k + 1) == 46) <;> cases q45 : (bt s (k + 1) == 45)
            all_goals try (exfalso; simp at p46 p45 q46 q45; simp [badB, p46, p45, q46, q45] at hbad; done)
            all_goals
              clear hbad
              go_wp2
              go_ret
              exact ⟨ret_bool X.out.symm, rfl⟩
        · have X : Hid (resB s = alphaB (bt s (s.size - runB 0 (bs s)))) := res_end s h0 hs (end_no h1 h2) (end_no h3 h4) E.out.1 (by rw [H.out]; exact pairs_short _ (by rw [List.length_drop, bs_length]; omega))
          have Y : Hid (resB s = alphaB (bt s (s.size - run))) := by rw [Hid, X.out, E.out.2]
          have Z : Hid (((s.size : Int) - 1 - (run : Int) + 1).toNat = s.size - run) := by rw [Hid]; omega
          go_wp2_with (go_at_call 9; refine (alpha_any _ _).mono ?_; rintro e w' ⟨rfl, rfl⟩)
          go_ret
          exact ⟨ret_bool (by rw [Y.out, Z.out]), rfl⟩

theorem model_any (s : ByteArray) (w : World) (hs : s.size ≤ maxLen) :
    Calls Tryd.prog 6 #[.string s] w fun e w' => e = .returned (.bool (resB s)) ∧ w' = w := by
  by_cases h : s.size = 0 ∨ 253 < s.size ∨ endB (bt s 0) = true ∨ endB (bt s (s.size - 1)) = true
  · exact model_ends s w hs h
  · have a1 : ¬ s.size = 0 := fun x => h (.inl x)
    have a2 : ¬ 253 < s.size := fun x => h (.inr (.inl x))
    have a3 : ¬ endB (bt s 0) = true := fun x => h (.inr (.inr (.inl x)))
    have a4 : ¬ endB (bt s (s.size - 1)) = true := fun x => h (.inr (.inr (.inr x)))
    have f1 : ∀ c : Int, ¬ endB c = true → (c == 46) = false := fun c hc => by
      cases e : (c == 46) with
      | false => rfl
      | true => exact absurd (end_of (.inl (by simpa using e))) hc
    have f2 : ∀ c : Int, ¬ endB c = true → (c == 45) = false := fun c hc => by
      cases e : (c == 45) with
      | false => rfl
      | true => exact absurd (end_of (.inr (by simpa using e))) hc
    exact model_main s w (by omega) (by omega) (f1 _ a3) (f2 _ a3) (f1 _ a4) (f2 _ a4)

end Go.Proofs.Qxb6603894aDoor
