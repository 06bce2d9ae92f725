/-
  The walks of the law's own width of a character (zzWidth), one class of lead bytes a theorem.
-/
import Derived.Test.Qxb6604505aFmtRows
import Derived.Test.Qxb6604505aFmtPlain
import Derived.WalkKit
import Derived.WalkSpells
import Derived.WalkLawsBesides
import Derived.Handy
namespace Go.Proofs.Qxb6604505aFmt
open Go.RowKit

theorem ret_bool {a b : Bool} (h : a = b) : Ending.returned (.bool a) = .returned (.bool b) := by rw [h]
theorem ret_int {k : IntKind} {a b : Int} (h : a = b) : Ending.returned (.int k a) = .returned (.int k b) := by rw [h]
theorem nb (s : ByteArray) (i : Nat) (c : Int) (h : bt s i < c ∨ c < bt s i) : (bt s i == c) = false := by
  simp; omega
theorem yb (s : ByteArray) (i : Nat) (c : Int) (h : bt s i ≤ c ∧ c ≤ bt s i) : (bt s i == c) = true := by
  simp; omega

/-- Two bytes. -/
theorem wd_two (s : ByteArray) (i lo hi : Nat) (h : i < s.size) (e1 : sz0 (bn s i) = 2) (e2 : lo0 (bn s i) = lo) (e3 : hi0 (bn s i) = hi) :
    ((s.size : Int) < i + 2 → (wd s i : Int) = 1) ∧ (bt s (i + 1) < lo → (wd s i : Int) = 1) ∧ ((hi : Int) < bt s (i + 1) → (wd s i : Int) = 1) ∧ ((i : Int) + 2 ≤ s.size → lo ≤ bt s (i + 1) → bt s (i + 1) ≤ hi → (wd s i : Int) = 2) := by
  have e := wd_wz s i h
  unfold wz at e
  rw [e1, e2, e3] at e
  unfold bt
  repeat' split at e
  all_goals omega
/-- Three bytes. -/
theorem wd_three (s : ByteArray) (i lo hi : Nat) (h : i < s.size) (e1 : sz0 (bn s i) = 3) (e2 : lo0 (bn s i) = lo) (e3 : hi0 (bn s i) = hi) :
    ((s.size : Int) < i + 3 → (wd s i : Int) = 1) ∧ (bt s (i + 1) < lo → (wd s i : Int) = 1) ∧ ((hi : Int) < bt s (i + 1) → (wd s i : Int) = 1) ∧ (bt s (i + 2) < 128 → (wd s i : Int) = 1) ∧ (191 < bt s (i + 2) → (wd s i : Int) = 1) ∧
    ((i : Int) + 3 ≤ s.size → lo ≤ bt s (i + 1) → bt s (i + 1) ≤ hi → 128 ≤ bt s (i + 2) → bt s (i + 2) ≤ 191 → (wd s i : Int) = 3) := by
  have e := wd_wz s i h
  unfold wz at e
  rw [e1, e2, e3] at e
  unfold bt
  repeat' split at e
  all_goals omega
/-- Four bytes. -/
theorem wd_four (s : ByteArray) (i lo hi : Nat) (h : i < s.size) (e1 : sz0 (bn s i) = 4) (e2 : lo0 (bn s i) = lo) (e3 : hi0 (bn s i) = hi) :
    ((s.size : Int) < i + 4 → (wd s i : Int) = 1) ∧ (bt s (i + 1) < lo → (wd s i : Int) = 1) ∧ ((hi : Int) < bt s (i + 1) → (wd s i : Int) = 1) ∧ (bt s (i + 2) < 128 → (wd s i : Int) = 1) ∧ (191 < bt s (i + 2) → (wd s i : Int) = 1) ∧
    (bt s (i + 3) < 128 → (wd s i : Int) = 1) ∧ (191 < bt s (i + 3) → (wd s i : Int) = 1) ∧
    ((i : Int) + 4 ≤ s.size → lo ≤ bt s (i + 1) → bt s (i + 1) ≤ hi → 128 ≤ bt s (i + 2) → bt s (i + 2) ≤ 191 → 128 ≤ bt s (i + 3) → bt s (i + 3) ≤ 191 → (wd s i : Int) = 4) := by
  have e := wd_wz s i h
  unfold wz at e
  rw [e1, e2, e3] at e
  unfold bt
  repeat' split at e
  all_goals omega

set_option maxRecDepth 100000 in
set_option maxHeartbeats 2000000 in
theorem width_ascii (s : ByteArray) (i : Nat) (w : World) (_hs : s.size ≤ 1048576) (hi : i < s.size) (h1 : 0 ≤ bt s i) (h2 : bt s i ≤ 127) :
    Calls Tryf.prog 45 #[.string s, .int .i64 i] w fun e w' => e = .returned (.int .i64 (wd s i)) ∧ w' = w := by
  have hb := get_bt s
  have t0 := nb s i 224 (by omega)
  have t1 := nb s i 237 (by omega)
  have t2 := nb s i 238 (by omega)
  have t3 := nb s i 239 (by omega)
  have t4 := nb s i 240 (by omega)
  have t5 := nb s i 244 (by omega)
  have X : Hid ((wd s i : Int) = 1) := by
    unfold bt at h1 h2
    rw [Hid, wd_wz s i hi]
    unfold wz
    rw [if_pos (by unfold sz0; (repeat' split) <;> omega)]
    rfl
  go_enter Tryf.func45, Tryf.ntmps45
  go_wp2
  all_goals
    go_ret
    exact ⟨ret_int X.out.symm, rfl⟩

set_option maxRecDepth 100000 in
set_option maxHeartbeats 2000000 in
theorem width_low (s : ByteArray) (i : Nat) (w : World) (_hs : s.size ≤ 1048576) (hi : i < s.size) (h1 : 128 ≤ bt s i) (h2 : bt s i ≤ 193) :
    Calls Tryf.prog 45 #[.string s, .int .i64 i] w fun e w' => e = .returned (.int .i64 (wd s i)) ∧ w' = w := by
  have hb := get_bt s
  have t0 := nb s i 224 (by omega)
  have t1 := nb s i 237 (by omega)
  have t2 := nb s i 238 (by omega)
  have t3 := nb s i 239 (by omega)
  have t4 := nb s i 240 (by omega)
  have t5 := nb s i 244 (by omega)
  have X : Hid ((wd s i : Int) = 1) := by
    unfold bt at h1 h2
    rw [Hid, wd_wz s i hi]
    unfold wz
    rw [if_pos (by unfold sz0; (repeat' split) <;> omega)]
    rfl
  go_enter Tryf.func45, Tryf.ntmps45
  go_wp2
  all_goals
    go_ret
    exact ⟨ret_int X.out.symm, rfl⟩

set_option maxRecDepth 100000 in
set_option maxHeartbeats 2000000 in
theorem width_C2 (s : ByteArray) (i : Nat) (w : World) (_hs : s.size ≤ 1048576) (hi : i < s.size) (h1 : 194 ≤ bt s i) (h2 : bt s i ≤ 223) :
    Calls Tryf.prog 45 #[.string s, .int .i64 i] w fun e w' => e = .returned (.int .i64 (wd s i)) ∧ w' = w := by
  have hb := get_bt s
  have t0 := nb s i 224 (by omega)
  have t1 := nb s i 237 (by omega)
  have t2 := nb s i 238 (by omega)
  have t3 := nb s i 239 (by omega)
  have t4 := nb s i 240 (by omega)
  have t5 := nb s i 244 (by omega)
  have X := wd_two s i 128 191 hi (by unfold bt at h1 h2; unfold sz0; (repeat' split) <;> omega) (by unfold bt at h1 h2; unfold lo0; (repeat' split) <;> omega) (by unfold bt at h1 h2; unfold hi0; (repeat' split) <;> omega)
  have Y : Hid _ := X
  clear X
  go_enter Tryf.func45, Tryf.ntmps45
  go_wp2
  all_goals first
    | (go_ret; refine ⟨ret_int ?_, rfl⟩; have X := Y.out; omega)
    | go_rounds 1
  all_goals
    go_ret
    refine ⟨ret_int ?_, rfl⟩
    have X := Y.out
    omega

set_option maxRecDepth 100000 in
set_option maxHeartbeats 2000000 in
theorem width_E0 (s : ByteArray) (i : Nat) (w : World) (_hs : s.size ≤ 1048576) (hi : i < s.size) (h1 : 224 ≤ bt s i) (h2 : bt s i ≤ 224) :
    Calls Tryf.prog 45 #[.string s, .int .i64 i] w fun e w' => e = .returned (.int .i64 (wd s i)) ∧ w' = w := by
  have hb := get_bt s
  have t0 := yb s i 224 (by omega)
  have t1 := nb s i 237 (by omega)
  have t2 := nb s i 238 (by omega)
  have t3 := nb s i 239 (by omega)
  have t4 := nb s i 240 (by omega)
  have t5 := nb s i 244 (by omega)
  have X := wd_three s i 160 191 hi (by unfold bt at h1 h2; unfold sz0; (repeat' split) <;> omega) (by unfold bt at h1 h2; unfold lo0; (repeat' split) <;> omega) (by unfold bt at h1 h2; unfold hi0; (repeat' split) <;> omega)
  have Y : Hid _ := X
  clear X
  go_enter Tryf.func45, Tryf.ntmps45
  go_wp2
  all_goals first
    | (go_ret; refine ⟨ret_int ?_, rfl⟩; have X := Y.out; omega)
    | go_rounds 2
  all_goals
    go_ret
    refine ⟨ret_int ?_, rfl⟩
    have X := Y.out
    omega

set_option maxRecDepth 100000 in
set_option maxHeartbeats 2000000 in
theorem width_E1 (s : ByteArray) (i : Nat) (w : World) (_hs : s.size ≤ 1048576) (hi : i < s.size) (h1 : 225 ≤ bt s i) (h2 : bt s i ≤ 236) :
    Calls Tryf.prog 45 #[.string s, .int .i64 i] w fun e w' => e = .returned (.int .i64 (wd s i)) ∧ w' = w := by
  have hb := get_bt s
  have t0 := nb s i 224 (by omega)
  have t1 := nb s i 237 (by omega)
  have t2 := nb s i 238 (by omega)
  have t3 := nb s i 239 (by omega)
  have t4 := nb s i 240 (by omega)
  have t5 := nb s i 244 (by omega)
  have X := wd_three s i 128 191 hi (by unfold bt at h1 h2; unfold sz0; (repeat' split) <;> omega) (by unfold bt at h1 h2; unfold lo0; (repeat' split) <;> omega) (by unfold bt at h1 h2; unfold hi0; (repeat' split) <;> omega)
  have Y : Hid _ := X
  clear X
  go_enter Tryf.func45, Tryf.ntmps45
  go_wp2
  all_goals first
    | (go_ret; refine ⟨ret_int ?_, rfl⟩; have X := Y.out; omega)
    | go_rounds 2
  all_goals
    go_ret
    refine ⟨ret_int ?_, rfl⟩
    have X := Y.out
    omega

set_option maxRecDepth 100000 in
set_option maxHeartbeats 2000000 in
theorem width_ED (s : ByteArray) (i : Nat) (w : World) (_hs : s.size ≤ 1048576) (hi : i < s.size) (h1 : 237 ≤ bt s i) (h2 : bt s i ≤ 237) :
    Calls Tryf.prog 45 #[.string s, .int .i64 i] w fun e w' => e = .returned (.int .i64 (wd s i)) ∧ w' = w := by
  have hb := get_bt s
  have t0 := nb s i 224 (by omega)
  have t1 := yb s i 237 (by omega)
  have t2 := nb s i 238 (by omega)
  have t3 := nb s i 239 (by omega)
  have t4 := nb s i 240 (by omega)
  have t5 := nb s i 244 (by omega)
  have X := wd_three s i 128 159 hi (by unfold bt at h1 h2; unfold sz0; (repeat' split) <;> omega) (by unfold bt at h1 h2; unfold lo0; (repeat' split) <;> omega) (by unfold bt at h1 h2; unfold hi0; (repeat' split) <;> omega)
  have Y : Hid _ := X
  clear X
  go_enter Tryf.func45, Tryf.ntmps45
  go_wp2
  all_goals first
    | (go_ret; refine ⟨ret_int ?_, rfl⟩; have X := Y.out; omega)
    | go_rounds 2
  all_goals
    go_ret
    refine ⟨ret_int ?_, rfl⟩
    have X := Y.out
    omega

end Go.Proofs.Qxb6604505aFmt
