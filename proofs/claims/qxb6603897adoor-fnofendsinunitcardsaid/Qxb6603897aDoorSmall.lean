/-
  The small walks of the library's float text: the two logarithms, the unrounded numbers.
-/
import Derived.Test.Qxb6603897aDoorRows
import Derived.WalkKit
import Derived.WalkSpells
import Derived.WalkLawsBesides
import Derived.PlainAid
import Derived.Handy
namespace Go.Proofs.Qxb6603897aDoor
open Go.RowKit

theorem hid {p : Prop} (h : p) : Hid p := h
theorem ret_bool {a b : Bool} (h : a = b) : Ending.returned (.bool a) = .returned (.bool b) := by rw [h]
theorem ret_int {k : IntKind} {a b : Int} (h : a = b) : Ending.returned (.int k a) = .returned (.int k b) := by rw [h]

set_option maxHeartbeats 400000 in
theorem log10Pow2_any (x : Int) (w : World) (h1 : -100000 ≤ x) (h2 : x ≤ 100000) :
    Calls Tryd.prog 37 #[.int .i64 x] w fun e w' => e = .returned (.int .i64 (x * 78913 / 262144)) ∧ w' = w := by
  go_enter Tryd.func37, Tryd.ntmps37
  go_wp2
  go_ret
  exact ⟨rfl, rfl⟩
set_option maxHeartbeats 400000 in
theorem skewed_any (x : Int) (w : World) (h1 : -100000 ≤ x) (h2 : x ≤ 100000) :
    Calls Tryd.prog 46 #[.int .i64 x] w fun e w' => e = .returned (.int .i64 ((x * 631305 - 261663) / 2097152)) ∧ w' = w := by
  go_enter Tryd.func46, Tryd.ntmps46
  go_wp2
  go_ret
  exact ⟨rfl, rfl⟩
set_option maxHeartbeats 400000 in
theorem log2Pow10_any (x : Int) (w : World) (h1 : -100000 ≤ x) (h2 : x ≤ 100000) :
    Calls Tryd.prog 48 #[.int .i64 x] w fun e w' => e = .returned (.int .i64 (x * 108853 / 32768)) ∧ w' = w := by
  go_enter Tryd.func48, Tryd.ntmps48
  go_wp2
  go_ret
  exact ⟨rfl, rfl⟩
set_option maxHeartbeats 400000 in
theorem bool2_t (w : World) :
    Calls Tryd.prog 67 #[.bool true] w fun e w' => e = .returned (.int .u64 1) ∧ w' = w := by
  go_enter Tryd.func67, Tryd.ntmps67
  go_wp2
  go_ret
  exact ⟨rfl, rfl⟩
set_option maxHeartbeats 400000 in
theorem bool2_f (w : World) :
    Calls Tryd.prog 67 #[.bool false] w fun e w' => e = .returned (.int .u64 0) ∧ w' = w := by
  go_enter Tryd.func67, Tryd.ntmps67
  go_wp2
  go_ret
  exact ⟨rfl, rfl⟩
set_option maxHeartbeats 400000 in
theorem ceil_any (u : Int) (w : World) :
    Calls Tryd.prog 51 #[.int .u64 u] w fun e w' => e = .returned (.int .u64 ((u + 3) % 18446744073709551616 / 4)) ∧ w' = w := by
  go_enter Tryd.func51, Tryd.ntmps51
  go_wp2
  go_ret
  exact ⟨ret_int rfl, rfl⟩
set_option maxHeartbeats 400000 in
theorem floor_any (u : Int) (w : World) (h1 : 0 ≤ u) (h2 : u ≤ 18446744073709551615) :
    Calls Tryd.prog 52 #[.int .u64 u] w fun e w' => e = .returned (.int .u64 (u / 4)) ∧ w' = w := by
  go_enter Tryd.func52, Tryd.ntmps52
  go_wp2
  go_ret
  exact ⟨rfl, rfl⟩
set_option maxHeartbeats 400000 in
theorem nudge_any (u d : Int) (w : World) :
    Calls Tryd.prog 50 #[.int .u64 u, .int .i64 d] w fun e w' => e = .returned (.int .u64 ((u + d) % 18446744073709551616)) ∧ w' = w := by
  go_enter Tryd.func50, Tryd.ntmps50
  go_wp2
  go_ret
  exact ⟨ret_int (by go_arith), rfl⟩
set_option maxHeartbeats 400000 in
theorem round_any (u : Int) (w : World) (h1 : 0 ≤ u) (h2 : u ≤ 18446744073709551615) :
    Calls Tryd.prog 53 #[.int .u64 u] w fun e w' => e = .returned (.int .u64 ((u + 1 + u / 4 % 2) % 18446744073709551616 / 4)) ∧ w' = w := by
  have ha : bits .and .u64 (u / 4) 1 = u / 4 % 2 := and_one_u64 _ (by omega) (by omega)
  go_enter Tryd.func53, Tryd.ntmps53
  go_wp2
  go_ret
  exact ⟨ret_int (by go_arith), rfl⟩

/-! ### The table of powers of ten -/
def hiT (i : Nat) : Nat := (Pinned.pow10Rows.getD i (0, 0)).1
def loT (i : Nat) : Nat := (Pinned.pow10Rows.getD i (0, 0)).2
def PowTab (w : World) : Prop := ∀ i, i < 696 → w.cell? ⟨3, i * 2, none⟩ = some (.int .u64 (hiT i)) ∧ w.cell? ⟨3, i * 2 + 1, none⟩ = some (.int .u64 (loT i))

set_option maxHeartbeats 400000 in
theorem prescale_any (i : Nat) (e lp : Int) (w : World) (hi : i < 696) (h3 : 3 < w.heap.size) (he : -100000 ≤ e ∧ e ≤ 100000) (hl : -100000 ≤ lp ∧ lp ≤ 100000) (hT : PowTab w) :
    Calls Tryd.prog 47 #[.pointer (some ⟨w.heap.size, 0, none⟩), .int .i64 e, .int .i64 ((i : Int) - 348), .int .i64 lp] (w.alloc (.cells #[.int .u64 0, .int .u64 0, .int .i64 0] 84)) fun r w' =>
      r = .returned (.tuple #[]) ∧ w' = w.alloc (.cells #[.int .u64 (hiT i), .int .u64 (loT i), .int .i64 (-(e + lp + 3))] 84) := by
  obtain ⟨t1, t2⟩ := hT i hi
  clear hT
  generalize hiT i = a at *
  generalize loT i = b at *
  go_enter Tryd.func47, Tryd.ntmps47
  go_wp2
  go_end0
  exact ⟨rfl, rfl⟩
end Go.Proofs.Qxb6603897aDoor
