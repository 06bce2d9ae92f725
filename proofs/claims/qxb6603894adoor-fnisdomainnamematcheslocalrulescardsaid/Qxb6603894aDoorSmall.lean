/-
  The small walks: the classes of bytes and the bound on the length.
-/
import Derived.Test.Qxb6603894aDoorRows
import Derived.Test.Qxb6603894aDoorPlain
import Derived.WalkKit
import Derived.WalkSpells
import Derived.WalkLawsBesides
namespace Go.Proofs.Qxb6603894aDoor
open Go.RowKit

theorem ret_bool {a b : Bool} (h : a = b) : Ending.returned (.bool a) = .returned (.bool b) := by rw [h]

set_option maxHeartbeats 400000 in
theorem alpha_any (c : Int) (w : World) :
    Calls Tryd.prog 9 #[.int .u8 c] w fun e w' => e = .returned (.bool (alphaB c)) ∧ w' = w := by
  by_cases h1 : 97 ≤ c <;> by_cases h2 : c ≤ 122 <;> by_cases h3 : 65 ≤ c <;> by_cases h4 : c ≤ 90 <;> (try omega)
  all_goals
    go_enter Tryd.func9, Tryd.ntmps9
    go_wp2
    go_ret
    exact ⟨ret_bool (by simp [alphaB, *]), rfl⟩

set_option maxHeartbeats 400000 in
theorem letter_any (c : Int) (w : World) :
    Calls Tryd.prog 11 #[.int .u8 c] w fun e w' => e = .returned (.bool (alphaB c)) ∧ w' = w := by
  by_cases h1 : 97 ≤ c <;> by_cases h2 : c ≤ 122 <;> by_cases h3 : 65 ≤ c <;> by_cases h4 : c ≤ 90 <;> (try omega)
  all_goals
    go_enter Tryd.func11, Tryd.ntmps11
    go_wp2
    go_ret
    exact ⟨ret_bool (by simp [alphaB, *]), rfl⟩

set_option maxHeartbeats 400000 in
theorem digit_any (c : Int) (w : World) :
    Calls Tryd.prog 12 #[.int .u8 c] w fun e w' => e = .returned (.bool (digitB c)) ∧ w' = w := by
  by_cases h1 : 48 ≤ c <;> by_cases h2 : c ≤ 57 <;> (try omega)
  all_goals
    go_enter Tryd.func12, Tryd.ntmps12
    go_wp2
    go_ret
    exact ⟨ret_bool (by simp [digitB, *]), rfl⟩

set_option maxHeartbeats 400000 in
theorem alnum_any (c : Int) (w : World) :
    Calls Tryd.prog 8 #[.int .u8 c] w fun e w' => e = .returned (.bool (alnumB c)) ∧ w' = w := by
  cases ha : alphaB c <;> by_cases h1 : 48 ≤ c <;> by_cases h2 : c ≤ 57 <;> (try omega)
  all_goals
    go_enter Tryd.func8, Tryd.ntmps8
    go_wp2_with (go_at_call 9; refine (alpha_any _ _).mono ?_; rintro e w' ⟨rfl, rfl⟩)
    go_ret
    exact ⟨ret_bool (by simp [alnumB, digitB, *]), rfl⟩

set_option maxHeartbeats 400000 in
theorem bytes_any (s : ByteArray) (w : World) (hs : s.size ≤ maxLen) :
    Calls Tryd.prog 4 #[.string s] w fun e w' => e = .returned (.bool (decide (s.size ≤ 1048576))) ∧ w' = w := by
  unfold maxLen at hs
  by_cases h : s.size ≤ 1048576
  all_goals
    go_enter Tryd.func4, Tryd.ntmps4
    go_wp2
    go_ret
    exact ⟨ret_bool (by simp [h]), rfl⟩

end Go.Proofs.Qxb6603894aDoor
