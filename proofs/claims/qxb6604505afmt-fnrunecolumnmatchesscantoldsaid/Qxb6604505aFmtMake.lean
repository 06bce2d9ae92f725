/-
  The walk of zzLines: the starts of the lines, appended one by one; the law's Lines laid in memory.
-/
import Derived.Test.Qxb6604505aFmtLines
namespace Go.Proofs.Qxb6604505aFmt
open Go.RowKit

theorem Tryf.info3 : (Tryf.prog.info? 3).map (fun i => (i.zero, i.size, i.bytes)) = some (some (.int .i64 0), 1, 8) := by kernel_rfl

set_option maxHeartbeats 400000 in
theorem newLines_any (s : ByteArray) (b n c : Nat) (w : World) :
    Calls Tryf.prog 43 #[.string s, .slice (some ⟨b, 0, none⟩) n c] w fun e w' => e = .returned (.pointer (some ⟨w.heap.size, 0, none⟩)) ∧ w' = w.alloc (.cells #[.string s, .slice (some ⟨b, 0, none⟩) n c, .string ByteArray.empty, .slice none 0 0] 84) := by
  go_enter Tryf.func43, Tryf.ntmps43
  go_wp2
  go_ret
  exact ⟨rfl, rfl⟩

theorem own_block {w : World} {B e : Nat} {v : Value} {n : Nat} {xs : List Value} (h : w.ownsRow B e 1 v n xs) : ∀ k, v.ownBlock = some k → B ≤ k := by
  intro k hk
  rcases h.2 with ⟨rfl, _⟩ | ⟨g, cap, cur, rfl, hg, _⟩
  · cases hk
  · cases hk; exact hg
theorem own_form {w : World} {B e : Nat} {v : Value} {n : Nat} {xs : List Value} (h : w.ownsRow B e 1 v (n + 1) xs) : ∃ g cap, v = .slice (some ⟨g, 0, none⟩) (n + 1) cap := by
  rcases h.2 with ⟨_, h0⟩ | ⟨g, cap, cur, rfl, _⟩
  · cases h0
  · exact ⟨g, cap, rfl⟩
theorem own_size {w : World} {B e g c : Nat} {n : Nat} {xs : List Value} (h : w.ownsRow B e 1 (.slice (some ⟨g, 0, none⟩) n c) n xs) : g < w.heap.size := by
  rcases h.2 with ⟨h0, _⟩ | ⟨g', cap, cur, e, _, hh, _⟩
  · cases h0
  · cases e; exact (Array.getElem?_eq_some_iff.1 hh).1
theorem own_next {w' : World} {B : Nat} {v' : Value} {s : ByteArray} {k : Nat} (h10 : bn s k = 10)
    (h : w'.ownsRow B 3 1 v' ((stL s k).length + 1) ((stL s k).map (Value.int .i64) ++ [.int .i64 ((k : Int) + 1)])) :
    w'.ownsRow B 3 1 v' (stL s (k + 1)).length ((stL s (k + 1)).map (Value.int .i64)) := by
  have e : stL s (k + 1) = stL s k ++ [((k + 1 : Nat) : Int)] := by rw [stL, if_pos h10]
  rw [e, List.length_append, List.map_append]
  exact h

set_option maxHeartbeats 1000000 in
theorem lines_any (s : ByteArray) (w : World) (hs : s.size ≤ 1048576) :
    Calls Tryf.prog 31 #[.string s] w fun e w' => ∃ g b c, e = .returned (.pointer (some ⟨g, 0, none⟩)) ∧ LinesAt w' g b c s ∧ Below w.heap.size w w' := by
  have hb := get_bt s
  obtain ⟨i0, hi, hz0, hz1, hz2⟩ := info_parts Tryf.info3
  go_enter Tryf.func31, Tryf.ntmps31
  go_wp2
  go_loopw [3, 4] (fun v i wr => ∃ k : Nat, k ≤ s.size ∧ i = .int .i64 k ∧ wr.ownsRow w.heap.size 3 1 v (stL s k).length ((stL s k).map (Value.int .i64)) ∧ Below w.heap.size w wr) (fun _ i _ => s.size - (intOf i).toNat)
  case atStart => exact ⟨0, Nat.zero_le _, rfl, World.ownsRow_lit w #[.int .i64 0] 1 (Nat.le_refl _) (by decide) rfl, (Below.refl _ _).alloc (Nat.le_refl _) _⟩
  case round =>
    obtain ⟨k, hk, rfl, hown, hB⟩ := hrel
    have hlen := stL_len s k
    have hsz := hB.size
    by_cases hlt : k < s.size
    · cases h10 : (bt s k == 10)
      · have e : stL s (k + 1) = stL s k := by rw [stL, if_neg (by unfold bt at h10; simp at h10; omega)]
        have R : Hid (wr.ownsRow w.heap.size 3 1 u3 (stL s (k + 1)).length ((stL s (k + 1)).map (Value.int .i64))) := by rw [Hid, e]; exact hown
        clear e hown
        go_wp2
        go_roundw
        case rel => exact ⟨k + 1, by omega, by go_num, R.out, hB⟩
        case measure => simp [intOf]; omega
      · have h10' : Hid (bn s k = 10) := by unfold bt at h10; simp at h10; rw [Hid]; omega
        go_wp2_with (at_builtin; refine wpList_append_own _ rfl _ _ 22 rfl w.heap.size 3 i0 (.int .i64 0) 1 8 Tryf.underlying22 hi hz0 hz1 hz2 rfl (by decide) _ _ _ rfl (hown.alloc _) ⟨wr.heap.size, 0, none⟩ 1 1 [.int .i64 ((k : Int) + 1)] rfl rfl (cell_one_new _ _ _) (by simp [Value.oneCell']) (by unfold maxLen; omega) (by omega) (by simp; omega) ?_; intro v' w1 hown' hgrow _)
        have hB1 : Below w.heap.size w w1 := (hB.alloc hsz _).grown hgrow (by simp; omega) (own_block hown)
        have R := own_next h10'.out hown'
        go_roundw
        case rel => exact ⟨k + 1, by omega, by go_num, R, hB1⟩
        case measure => simp [intOf]; omega
    · obtain rfl : k = s.size := by omega
      obtain ⟨m, hm⟩ : ∃ m, (stL s s.size).length = m + 1 := ⟨(stL s s.size).length - 1, by omega⟩
      have hown2 := hown
      rw [hm] at hown2
      obtain ⟨g, cap, hv⟩ := own_form hown2
      rw [← hm] at hv
      clear hown2 hm
      subst hv
      have hg := own_block hown g rfl
      have hgs := own_size hown
      have HN := hid fun w1 => newLines_any s g (stL s s.size).length cap w1
      have HO := hid hown
      clear hown
      go_wp2_with (go_at_call 43; refine (HN.out _).mono ?_; rintro e w' ⟨rfl, rfl⟩)
      go_ret
      refine ⟨wr.heap.size, g, cap, rfl, ⟨by simp, by simp; omega, by simp, by simp, fun j hj => ?_⟩, hB.alloc hsz _⟩
      rw [World.cell?_alloc_lt _ _ _ hgs, HO.out.cellAt j (by omega)]
      simp [List.getD_eq_getElem?_getD, hj]
end Go.Proofs.Qxb6604505aFmt
