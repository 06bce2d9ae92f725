/-
  A row of bytes that is appended to, apart from the row of digits.
-/
import Derived.Test.Qxb6603897aDoorDigits
import Derived.Maps.AppendAt
import Derived.Deep.DeepCutAuto
namespace Go.Proofs.Qxb6603897aDoor
open Go.RowKit

theorem Tryd.info5 : (Tryd.prog.info? 5).map (fun i => (i.zero, i.size, i.bytes)) = some (some (.int .u8 0), 1, 1) := by kernel_rfl

structure Outs (B sb : Nat) (D : List Int) (w wr : World) (v : Value) (xs : List Int) : Prop where
  own : wr.ownsRow B 5 1 v xs.length (xs.map (Value.int .u8))
  apart : v.ownBlock ≠ some sb
  below : Below B w wr
  base : B ≤ wr.heap.size
  lt : sb < wr.heap.size
  dig : ∀ j, j < D.length → wr.cell? ⟨sb, j, none⟩ = some (.int .u8 (D.getD j 0))

theorem own_block {w : World} {B e : Nat} {v : Value} {n : Nat} {xs : List Value} (h : w.ownsRow B e 1 v n xs) : ∀ k, v.ownBlock = some k → B ≤ k := by
  intro k hk
  rcases h.2 with ⟨rfl, _⟩ | ⟨g, cap, cur, rfl, hg, _⟩
  · cases hk
  · cases hk; exact hg

theorem Outs.step {B sb : Nat} {D : List Int} {w wr w1 : World} {v v' : Value} {xs : List Int} (h : Outs B sb D w wr v xs) {o : Obj} {c : Int}
    (hown : w1.ownsRow B 5 1 v' (xs.length + 1) (xs.map (Value.int .u8) ++ [.int .u8 c])) (hg : (wr.alloc o).grownBy w1 v.ownBlock)
    (hv : v'.ownBlock = v.ownBlock ∨ v'.ownBlock = some (wr.alloc o).heap.size) : Outs B sb D w w1 v' (xs ++ [c]) where
  own := by rw [List.length_append, List.map_append]; exact hown
  apart := by
    have hl := h.lt
    rcases hv with e | e
    · rw [e]; exact h.apart
    · rw [e]; intro hh; injection hh with hh; simp at hh; omega
  below := (h.below.alloc h.base o).grown hg (Nat.le_trans h.base (by simp)) (own_block h.own)
  base := Nat.le_trans h.base (Nat.le_trans (by simp) hg.size)
  lt := Nat.lt_of_lt_of_le h.lt (Nat.le_trans (by simp) hg.size)
  dig := fun j hj => by
    refine hg.cell (a := ⟨sb, j, none⟩) ?_ (fun e => h.apart e.symm)
    rw [World.cell?_alloc_lt _ _ _ h.lt]
    exact h.dig j hj

theorem take_snoc {D : List Int} {k : Nat} (h : k < D.length) (p : List Int) : (p ++ D.take k) ++ [D.getD k 0] = p ++ D.take (k + 1) := by
  rw [List.append_assoc, List.take_add_one, List.getD_eq_getElem?_getD, List.getElem?_eq_getElem h]
  rfl
theorem rep_snoc (p : List Int) (k : Nat) : (p ++ List.replicate k 48) ++ [48] = p ++ List.replicate (k + 1) 48 := by
  rw [List.append_assoc, List.replicate_succ']
theorem drop_snoc {D : List Int} {o k : Nat} (h : o + k < D.length) (p : List Int) : (p ++ (D.drop o).take k) ++ [D.getD (o + k) 0] = p ++ (D.drop o).take (k + 1) := by
  have := take_snoc (D := D.drop o) (k := k) (by simp; omega) p
  rw [← this]
  congr 2
  simp [List.getD_eq_getElem?_getD, List.getElem?_drop]
end Go.Proofs.Qxb6603897aDoor
