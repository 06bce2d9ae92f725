/-
  The walks of ranged and span.
-/
import Derived.Test.Qxb6603897aDoorBlank
namespace Go.Proofs.Qxb6603897aDoor
open Go.RowKit

set_option maxHeartbeats 1000000 in
theorem ranged_any (p1 p2 : Option Addr) (x1 x2 : Bool) (w : World) :
    Calls Tryd.prog 14 #[.agg #[.pointer p1, .pointer p2, .bool x1, .bool x2]] w fun r w' => r = .returned (.bool (p1.isSome && p2.isSome && !x1 && !x2)) ∧ Below w.heap.size w w' := by
  cases p1 <;> cases p2 <;> cases x1 <;> cases x2 <;>
  · go_enter Tryd.func14, Tryd.ntmps14
    go_wp2
    go_ret
    exact ⟨rfl, (Below.refl _ _).alloc (Nat.le_refl _) _⟩
end Go.Proofs.Qxb6603897aDoor
