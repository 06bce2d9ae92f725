/-
  The two tables, out of what the rows list.
-/
import Derived.Test.Qxb6603897aDoorNumber
import Derived.Test.Qxb6603897aDoorRows
import Derived.Lib.LaidU8
namespace Go.Proofs.Qxb6603897aDoor
open Go.RowKit

theorem glob3 : Tryd.prog.globalNamed "internal/strconv.pow10Tab" = some 3 := by kernel_rfl
theorem ty3 : (Tryd.prog.globals[3]?).map (·.type) = some 103 := by kernel_rfl
theorem ty2 : (Tryd.prog.globals[2]?).map (·.type) = some 93 := by kernel_rfl
theorem cells35 : Tryd.prog.cellsOf 35 = 1 := by kernel_rfl
theorem cells93 : Tryd.prog.cellsOf 93 = 20 := by kernel_rfl
theorem cells102 : Tryd.prog.cellsOf 102 = 2 := by kernel_rfl
theorem under93 : Tryd.prog.underlying 93 = some (.array 20 35) := by kernel_rfl
theorem under103 : Tryd.prog.underlying 103 = some (.array 696 102) := by kernel_rfl
theorem dig_data : (Rows.laid_internal_strconv_uint64pow10 : DataW Unit) = Lib.tabData .u64 Lib.pow10Tab := by kernel_rfl
theorem rows_len : Pinned.pow10Rows.length = 696 := by kernel_rfl

theorem tabs_of {W : World} (hp : Lib.VarReads Tryd.prog W "internal/strconv.pow10Tab" Rows.laid_internal_strconv_pow10Tab)
    (hd : Lib.VarReads Tryd.prog W "internal/strconv.uint64pow10" Rows.laid_internal_strconv_uint64pow10) : Tabs W := by
  have hpow : PowTab W := by
    intro i hi
    obtain ⟨g, t, cs, fuel, p, hg, hty, hvar, hd⟩ := hp
    obtain rfl := Option.some.inj (glob3.symm.trans hg)
    obtain rfl := Option.some.inj (ty3.symm.trans hty)
    obtain ⟨fuel', d, q, hdi, he⟩ := Lib.array_elem under103 hd i hi
    have hr : Pinned.pow10Rows[i]? = some (hiT i, loT i) := by
      have hl : i < Pinned.pow10Rows.length := by rw [rows_len]; exact hi
      unfold hiT loT
      rw [List.getD_eq_getElem?_getD, List.getElem?_eq_getElem hl]
      rfl
    rw [List.getElem?_map, hr] at hdi
    simp only [Option.map_some, Option.some.injEq] at hdi
    subst hdi
    rw [cells102] at he
    have hcs := Lib.ints_of_struct (zs := [(hiT i : Int), (loT i : Int)]) Tryd.underlying102 (fun j f hj => by
      match j, hj with
      | 0, hj => simp at hj; subst hj; exact ⟨Tryd.underlying35, rfl, cells35⟩
      | 1, hj => simp at hj; subst hj; exact ⟨Tryd.underlying35, rfl, cells35⟩
      | j + 2, hj => simp at hj) (by rw [cells102]; rfl) he
    have e0 := congrArg (·[0]?) hcs
    have e1 := congrArg (·[1]?) hcs
    simp only [List.getElem?_take, List.getElem?_drop] at e0 e1
    constructor
    · rw [World.var?_cell hg hvar (i * 2), ← Array.getElem?_toList]
      simpa using e0
    · rw [World.var?_cell hg hvar (i * 2 + 1), ← Array.getElem?_toList]
      simpa using e1
  refine ⟨World.block_lt_of_cell? W ⟨3, 0 * 2, none⟩ (hpow 0 (by omega)).1, hpow, ?_⟩
  obtain ⟨g, t, cs, fuel, p, hg, hty, hvar, hd⟩ := hd
  obtain rfl := Option.some.inj (Tryd.glob2.symm.trans hg)
  obtain rfl := Option.some.inj (ty2.symm.trans hty)
  rw [dig_data] at hd
  have hcs := Lib.cells_of_tab under93 Tryd.underlying35 cells35 cells93 hd
  unfold Lib.TabIs
  rw [hvar, ← hcs]
end Go.Proofs.Qxb6603897aDoor
