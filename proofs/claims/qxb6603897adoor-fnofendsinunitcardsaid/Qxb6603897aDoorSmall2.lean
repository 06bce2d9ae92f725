/-
  qb1Bounds and ZZspan.
-/
import Derived.Test.Qxb6603897aDoorSpan3
namespace Go.Proofs.Qxb6603897aDoor
open Go.RowKit

theorem results_cell1 {fn : Func} {p : Tmp} {ty : TypeId} (h : fn.results = #[.cell p ty]) (tmps : Array Value) (P : Program) (w : World) :
    (results fn tmps).run P w = ((asAddr (tmps.getD p undef)).run P w).andThen fun a w₁ => (loadVar ty a).run P w₁ := by
  simp only [results, h]
  simp [Sem.run_bind, Result.andThen]

set_option maxHeartbeats 1000000 in
theorem bounds_any (p1 p2 : Option Addr) (x1 x2 : Bool) (w : World) :
    Calls Tryd.prog 7 #[.pointer p1, .pointer p2, .bool x1, .bool x2] w fun r w' => r = .returned (.agg #[.pointer p1, .pointer p2, .bool x1, .bool x2]) ∧ Below w.heap.size w w' := by
  go_enter Tryd.func7, Tryd.ntmps7
  go_wp2
  (try simp only [Exit.inBlock, Exit.then])
  refine bodyPost_ret (v := .agg #[.pointer p1, .pointer p2, .bool x1, .bool x2]) ?_ rfl ⟨rfl, ?_⟩
  · rw [results_cell1 rfl]
    go_simp
  · exact (Below.refl _ _).alloc (Nat.le_refl _) _

set_option maxHeartbeats 1000000 in
theorem zzspan_of (p1 p2 : Option Addr) (x1 x2 : Bool) (w : World) (s : ByteArray)
    (h : ∀ wx, Below w.heap.size w wx → Calls Tryd.prog 12 #[.agg #[.pointer p1, .pointer p2, .bool x1, .bool x2]] wx fun r w' => r = .returned (.string s) ∧ Below wx.heap.size wx w') :
    Calls Tryd.prog 6 #[.agg #[.pointer p1, .pointer p2, .bool x1, .bool x2]] w fun r w' => r = .returned (.string s) ∧ Below w.heap.size w w' := by
  have HH := hid h
  clear h
  go_enter Tryd.func6, Tryd.ntmps6
  go_wp2_with fail
  go_at_call 12
  have hb := (Below.refl w.heap.size w).alloc (Nat.le_refl _) (.cells #[.pointer p1, .pointer p2, .bool x1, .bool x2] 27)
  refine (HH.out _ hb).mono ?_
  rintro r w' ⟨rfl, hb'⟩
  go_wp2
  go_ret
  exact ⟨rfl, hb.trans (hb'.mono hb.size)⟩
end Go.Proofs.Qxb6603897aDoor
