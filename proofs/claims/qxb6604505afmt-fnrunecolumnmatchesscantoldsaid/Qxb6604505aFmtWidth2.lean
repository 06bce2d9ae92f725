/-
  The walks of zzWidth, the further classes of lead bytes; the one contract.
-/
import Derived.Test.Qxb6604505aFmtWidth
namespace Go.Proofs.Qxb6604505aFmt
open Go.RowKit

set_option maxRecDepth 100000 in
set_option maxHeartbeats 2000000 in
theorem width_EE (s : ByteArray) (i : Nat) (w : World) (_hs : s.size ≤ 1048576) (hi : i < s.size) (h1 : 238 ≤ bt s i) (h2 : bt s i ≤ 238) :
    Calls Tryf.prog 45 #[.string s, .int .i64 i] w fun e w' => e = .returned (.int .i64 (wd s i)) ∧ w' = w := by
  have hb := get_bt s
  have t0 := nb s i 224 (by omega)
  have t1 := nb s i 237 (by omega)
  have t2 := yb s i 238 (by omega)
  have t3 := nb s i 239 (by omega)
  have t4 := nb s i 240 (by omega)
  have t5 := nb s i 244 (by omega)
  have X := wd_three s i 128 191 hi (by unfold bt at h1 h2; unfold sz0; (repeat' split) <;> omega) (by unfold bt at h1 h2; unfold lo0; (repeat' split) <;> omega) (by unfold bt at h1 h2; unfold hi0; (repeat' split) <;> omega)
  have Y : Hid _ := X
  clear X
  go_enter Tryf.func45, Tryf.ntmps45
  go_wp2
  all_goals first
    | (go_ret; refine ⟨ret_int ?_, rfl⟩; have X := Y.out; omega)
    | go_rounds 2
  all_goals
    go_ret
    refine ⟨ret_int ?_, rfl⟩
    have X := Y.out
    omega

set_option maxRecDepth 100000 in
set_option maxHeartbeats 2000000 in
theorem width_EF (s : ByteArray) (i : Nat) (w : World) (_hs : s.size ≤ 1048576) (hi : i < s.size) (h1 : 239 ≤ bt s i) (h2 : bt s i ≤ 239) :
    Calls Tryf.prog 45 #[.string s, .int .i64 i] w fun e w' => e = .returned (.int .i64 (wd s i)) ∧ w' = w := by
  have hb := get_bt s
  have t0 := nb s i 224 (by omega)
  have t1 := nb s i 237 (by omega)
  have t2 := nb s i 238 (by omega)
  have t3 := yb s i 239 (by omega)
  have t4 := nb s i 240 (by omega)
  have t5 := nb s i 244 (by omega)
  have X := wd_three s i 128 191 hi (by unfold bt at h1 h2; unfold sz0; (repeat' split) <;> omega) (by unfold bt at h1 h2; unfold lo0; (repeat' split) <;> omega) (by unfold bt at h1 h2; unfold hi0; (repeat' split) <;> omega)
  have Y : Hid _ := X
  clear X
  go_enter Tryf.func45, Tryf.ntmps45
  go_wp2
  all_goals first
    | (go_ret; refine ⟨ret_int ?_, rfl⟩; have X := Y.out; omega)
    | go_rounds 2
  all_goals
    go_ret
    refine ⟨ret_int ?_, rfl⟩
    have X := Y.out
    omega

set_option maxRecDepth 100000 in
set_option maxHeartbeats 2000000 in
theorem width_F0 (s : ByteArray) (i : Nat) (w : World) (_hs : s.size ≤ 1048576) (hi : i < s.size) (h1 : 240 ≤ bt s i) (h2 : bt s i ≤ 240) :
    Calls Tryf.prog 45 #[.string s, .int .i64 i] w fun e w' => e = .returned (.int .i64 (wd s i)) ∧ w' = w := by
  have hb := get_bt s
  have t0 := nb s i 224 (by omega)
  have t1 := nb s i 237 (by omega)
  have t2 := nb s i 238 (by omega)
  have t3 := nb s i 239 (by omega)
  have t4 := yb s i 240 (by omega)
  have t5 := nb s i 244 (by omega)
  have X := wd_four s i 144 191 hi (by unfold bt at h1 h2; unfold sz0; (repeat' split) <;> omega) (by unfold bt at h1 h2; unfold lo0; (repeat' split) <;> omega) (by unfold bt at h1 h2; unfold hi0; (repeat' split) <;> omega)
  have Y : Hid _ := X
  clear X
  go_enter Tryf.func45, Tryf.ntmps45
  go_wp2
  all_goals first
    | (go_ret; refine ⟨ret_int ?_, rfl⟩; have X := Y.out; omega)
    | go_rounds 3
  all_goals
    go_ret
    refine ⟨ret_int ?_, rfl⟩
    have X := Y.out
    omega

set_option maxRecDepth 100000 in
set_option maxHeartbeats 2000000 in
theorem width_F1 (s : ByteArray) (i : Nat) (w : World) (_hs : s.size ≤ 1048576) (hi : i < s.size) (h1 : 241 ≤ bt s i) (h2 : bt s i ≤ 243) :
    Calls Tryf.prog 45 #[.string s, .int .i64 i] w fun e w' => e = .returned (.int .i64 (wd s i)) ∧ w' = w := by
  have hb := get_bt s
  have t0 := nb s i 224 (by omega)
  have t1 := nb s i 237 (by omega)
  have t2 := nb s i 238 (by omega)
  have t3 := nb s i 239 (by omega)
  have t4 := nb s i 240 (by omega)
  have t5 := nb s i 244 (by omega)
  have X := wd_four s i 128 191 hi (by unfold bt at h1 h2; unfold sz0; (repeat' split) <;> omega) (by unfold bt at h1 h2; unfold lo0; (repeat' split) <;> omega) (by unfold bt at h1 h2; unfold hi0; (repeat' split) <;> omega)
  have Y : Hid _ := X
  clear X
  go_enter Tryf.func45, Tryf.ntmps45
  go_wp2
  all_goals first
    | (go_ret; refine ⟨ret_int ?_, rfl⟩; have X := Y.out; omega)
    | go_rounds 3
  all_goals
    go_ret
    refine ⟨ret_int ?_, rfl⟩
    have X := Y.out
    omega

set_option maxRecDepth 100000 in
set_option maxHeartbeats 2000000 in
theorem width_F4 (s : ByteArray) (i : Nat) (w : World) (_hs : s.size ≤ 1048576) (hi : i < s.size) (h1 : 244 ≤ bt s i) (h2 : bt s i ≤ 244) :
    Calls Tryf.prog 45 #[.string s, .int .i64 i] w fun e w' => e = .returned (.int .i64 (wd s i)) ∧ w' = w := by
  have hb := get_bt s
  have t0 := nb s i 224 (by omega)
  have t1 := nb s i 237 (by omega)
  have t2 := nb s i 238 (by omega)
  have t3 := nb s i 239 (by omega)
  have t4 := nb s i 240 (by omega)
  have t5 := yb s i 244 (by omega)
  have X := wd_four s i 128 143 hi (by unfold bt at h1 h2; unfold sz0; (repeat' split) <;> omega) (by unfold bt at h1 h2; unfold lo0; (repeat' split) <;> omega) (by unfold bt at h1 h2; unfold hi0; (repeat' split) <;> omega)
  have Y : Hid _ := X
  clear X
  go_enter Tryf.func45, Tryf.ntmps45
  go_wp2
  all_goals first
    | (go_ret; refine ⟨ret_int ?_, rfl⟩; have X := Y.out; omega)
    | go_rounds 3
  all_goals
    go_ret
    refine ⟨ret_int ?_, rfl⟩
    have X := Y.out
    omega

set_option maxRecDepth 100000 in
set_option maxHeartbeats 2000000 in
theorem width_hi (s : ByteArray) (i : Nat) (w : World) (_hs : s.size ≤ 1048576) (hi : i < s.size) (h1 : 245 ≤ bt s i) (h2 : bt s i ≤ 255) :
    Calls Tryf.prog 45 #[.string s, .int .i64 i] w fun e w' => e = .returned (.int .i64 (wd s i)) ∧ w' = w := by
  have hb := get_bt s
  have t0 := nb s i 224 (by omega)
  have t1 := nb s i 237 (by omega)
  have t2 := nb s i 238 (by omega)
  have t3 := nb s i 239 (by omega)
  have t4 := nb s i 240 (by omega)
  have t5 := nb s i 244 (by omega)
  have X : Hid ((wd s i : Int) = 1) := by
    unfold bt at h1 h2
    rw [Hid, wd_wz s i hi]
    unfold wz
    rw [if_pos (by unfold sz0; (repeat' split) <;> omega)]
    rfl
  go_enter Tryf.func45, Tryf.ntmps45
  go_wp2
  all_goals
    go_ret
    exact ⟨ret_int X.out.symm, rfl⟩

theorem width_any (s : ByteArray) (i : Nat) (w : World) (hs : s.size ≤ 1048576) (hi : i < s.size) :
    Calls Tryf.prog 45 #[.string s, .int .i64 i] w fun e w' => e = .returned (.int .i64 (wd s i)) ∧ w' = w := by
  have h0 := bt_nonneg s i
  have h255 := bt_le s i
  by_cases c0 : bt s i ≤ 127
  · exact width_ascii s i w hs hi h0 c0
  by_cases c1 : bt s i ≤ 193
  · exact width_low s i w hs hi (by omega) c1
  by_cases c2 : bt s i ≤ 223
  · exact width_C2 s i w hs hi (by omega) c2
  by_cases c3 : bt s i ≤ 224
  · exact width_E0 s i w hs hi (by omega) c3
  by_cases c4 : bt s i ≤ 236
  · exact width_E1 s i w hs hi (by omega) c4
  by_cases c5 : bt s i ≤ 237
  · exact width_ED s i w hs hi (by omega) c5
  by_cases c6 : bt s i ≤ 238
  · exact width_EE s i w hs hi (by omega) c6
  by_cases c7 : bt s i ≤ 239
  · exact width_EF s i w hs hi (by omega) c7
  by_cases c8 : bt s i ≤ 240
  · exact width_F0 s i w hs hi (by omega) c8
  by_cases c9 : bt s i ≤ 243
  · exact width_F1 s i w hs hi (by omega) c9
  by_cases c10 : bt s i ≤ 244
  · exact width_F4 s i w hs hi (by omega) c10
  · exact width_hi s i w hs hi (by omega) h255

end Go.Proofs.Qxb6604505aFmt
