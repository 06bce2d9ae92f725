/-
  The library's iterator over the pieces of a string (strings.SplitSeq's closure) at a separator of one byte: it keeps the rest of the string in a box of its own.
-/
import Derived.RangeFuncNested
import Derived.RangeFuncBound
import Derived.RangeFuncCalls
import Derived.RangeFuncLeaves
import Derived.Shelf.Abstract
import Derived.Shelf.RegionOpen
import Derived.WalkKit
import Derived.OwnWalkIn
import Derived.TacticsInMore
import Derived.LoopNIn
import Derived.LoopIn
import Derived.WalkSpells
import Derived.Test.Qxb6604198aDoorShelf
import Derived.Test.Qxb6604198aDoorScan
namespace Go.Proofs.Qxb6604198aDoor
open Go.RowKit Go.Shelf
attribute [local go_sem] Oper.semAt_some

/-! ### The plain part: where the first dot stands -/
theorem index_miss : ∀ (l : List UInt8), Lib.indexByte l 46 = -1 → splitI (l.map fun b => (b.toNat : Int)) = [l.map fun b => (b.toNat : Int)]
  | [], _ => rfl
  | b :: l, h => by
    unfold Lib.indexByte at h
    by_cases hb : b == 46
    · rw [if_pos hb] at h; cases h
    · rw [if_neg hb] at h
      have hl : Lib.indexByte l 46 = -1 := by
        by_cases h' : Lib.indexByte l 46 == -1
        · exact beq_iff_eq.1 h'
        · rw [if_neg h'] at h
          have := Lib.indexByte_ge l 46
          omega
      have hn : ¬ ((b.toNat : Int) = 46) := fun e => hb (beq_iff_eq.2 (UInt8.toNat_inj.1 (by have : (46 : UInt8).toNat = 46 := rfl; omega)))
      rw [List.map_cons, splitI, if_neg hn, index_miss l hl]
theorem index_hit : ∀ (l : List UInt8) (i : Nat), Lib.indexByte l 46 = i → i < l.length ∧ splitI (l.map fun b => (b.toNat : Int)) = (l.take i).map (fun b => (b.toNat : Int)) :: splitI ((l.drop (i + 1)).map fun b => (b.toNat : Int))
  | [], i, h => by unfold Lib.indexByte at h; omega
  | b :: l, i, h => by
    unfold Lib.indexByte at h
    by_cases hb : b == 46
    · rw [if_pos hb] at h
      obtain rfl : i = 0 := by omega
      have hn : (b.toNat : Int) = 46 := by have := beq_iff_eq.1 hb; subst this; rfl
      rw [List.map_cons, splitI, if_pos hn]
      exact ⟨by simp, by simp⟩
    · rw [if_neg hb] at h
      have hge := Lib.indexByte_ge l 46
      have h' : ¬ (Lib.indexByte l 46 == -1) = true := fun e => by rw [if_pos e] at h; omega
      rw [if_neg h'] at h
      have h'' : Lib.indexByte l 46 ≠ -1 := fun e => h' (beq_iff_eq.2 e)
      obtain ⟨j, hj⟩ : ∃ j : Nat, Lib.indexByte l 46 = j := ⟨(Lib.indexByte l 46).toNat, by omega⟩
      obtain rfl : i = j + 1 := by omega
      obtain ⟨h1, h2⟩ := index_hit l j hj
      have hn : ¬ ((b.toNat : Int) = 46) := fun e => hb (beq_iff_eq.2 (UInt8.toNat_inj.1 (by have : (46 : UInt8).toNat = 46 := rfl; omega)))
      rw [List.map_cons, splitI, if_neg hn, h2]
      exact ⟨by simp; omega, by simp⟩
theorem piece_last (x : ByteArray) (h : Lib.indexByte x.data.toList 46 = -1) : splitI (bs x) = [bs x] := index_miss _ h
theorem piece_next (x : ByteArray) (i : Nat) (h : Lib.indexByte x.data.toList 46 = i) : i < x.size ∧ splitI (bs x) = bs (x.extract 0 i) :: splitI (bs (x.extract (i + 1) x.size)) := by
  obtain ⟨h1, h2⟩ := index_hit _ i h
  refine ⟨by rw [Lib.size_eq]; exact h1, ?_⟩
  unfold bs
  rw [h2, Lib.extract_from_zero, Lib.extract_to_end]

/-- What is left in the iterator's box. -/
def leftOf (B : Nat) (w : World) : Nat := match w.cell? ⟨B, 0, none⟩ with
  | some (.string x) => x.size
  | _ => 0

set_option maxRecDepth 100000 in
set_option maxHeartbeats 1000000 in
theorem seq_in (n l B n₀ : Nat) (hn : 2 ≤ n) (s : ByteArray) (hs : s.size ≤ 253) (J Jx : List ByteArray → World → Prop)
    (hJs : ∀ pre W v, J pre W → J pre (W.setCell ⟨B, 0, none⟩ v))
    (hY : ∀ pre x W, J pre W → YieldAt Fence.wide (n - 1) Tryd.prog l #[.string x] W fun e W' => (e = .returned (.bool true) ∧ J (pre ++ [x]) W' ∧ Below n₀ W W') ∨ (e = .returned (.bool false) ∧ Jx (pre ++ [x]) W'))
    (W : World) (hB : B + 2 < n₀) (hc0 : W.cell? ⟨B, 0, none⟩ = some (.string s)) (hf : W.frozen? ⟨B, 0, none⟩ = false) (hc1 : W.cell? ⟨B + 1, 0, none⟩ = some (.string ⟨#[46]⟩)) (hc2 : W.cell? ⟨B + 2, 0, none⟩ = some (.int .i64 0)) (h0 : J [] W) :
    CallsIn Fence.wide n Tryd.prog 9 #[.func (.yield l) #[] #[], .pointer (some ⟨B + 1, 0, none⟩), .pointer (some ⟨B, 0, none⟩), .pointer (some ⟨B + 2, 0, none⟩)] W fun e W' => (∃ v, e = .returned v) ∧
      ((∃ pre, pre.map bs = splitI (bs s) ∧ J pre W') ∨ (∃ pre t, pre.map bs ++ t = splitI (bs s) ∧ Jx pre W')) := by
  refine callsIn_of_wp Tryd.func9 rfl trivial ?_ rfl
  simp only [Tryd.ntmps9, List.size_toArray, List.length_cons, List.length_nil, Nat.reduceAdd, Nat.reduceSub, Array.replicate_succ, Array.replicate_zero, List.push_toArray, List.append_toArray, List.nil_append, List.cons_append]
  gi_wp2
  gi_loopw [7] (fun _ wr => ∃ (x : ByteArray) (pre : List ByteArray), x.size ≤ 253 ∧ wr.cell? ⟨B, 0, none⟩ = some (.string x) ∧ wr.frozen? ⟨B, 0, none⟩ = false ∧ wr.cell? ⟨B + 1, 0, none⟩ = some (.string ⟨#[46]⟩) ∧ wr.cell? ⟨B + 2, 0, none⟩ = some (.int .i64 0) ∧ pre.map bs ++ splitI (bs x) = splitI (bs s) ∧ J pre wr)
    (fun _ wr => leftOf B wr)
  case atStart => exact ⟨s, [], hs, hc0, hf, hc1, hc2, rfl, h0⟩
  case round =>
    obtain ⟨x, pre, hx, k0, kf, k1, k2, hp, hJ⟩ := hrel
    have HP := hid hp
    have HJ := hid hJ
    clear hp hJ
    have HI := hid fun w1 => (callsIn_wide (n := n - 1)).2 (Tryd.strings_Index_one x 46 w1)
    clear hc0 hf hc1 hc2 h0
    by_cases hm : Lib.indexByte x.data.toList 46 = -1
    · rw [hm] at HI
      have HL := hid (piece_last x hm)
      clear hm
      obtain ⟨fn, tmps, assign, body, hy, hR⟩ := hY pre x wr HJ.out
      have HR := hid hR
      clear hR
      gi_wp2_with fail
      refine ⟨trivial, fun _ => by omega, ?_⟩
      refine (HI.out _).mono ?_
      rintro e w' ⟨rfl, rfl⟩
      gi_wp2
      refine ⟨fun _ => by omega, ?_⟩
      refine HR.out.mono ?_
      rintro e W3 (⟨rfl, hJ3, _⟩ | ⟨rfl, hJx3⟩)
      · have HE := hid (show (pre ++ [x]).map bs = splitI (bs s) by rw [List.map_append, ← HP.out, HL.out]; rfl)
        have HJ3 := hid hJ3
        clear hJ3
        gi_wp2
        go_end0
        exact ⟨⟨_, rfl⟩, .inl ⟨_, HE.out, HJ3.out⟩⟩
      · have HE := hid (show (pre ++ [x]).map bs ++ [] = splitI (bs s) by rw [List.append_nil, List.map_append, ← HP.out, HL.out]; rfl)
        have HJ3 := hid hJx3
        clear hJx3
        gi_wp2
        go_end0
        exact ⟨⟨_, rfl⟩, .inr ⟨_, _, HE.out, HJ3.out⟩⟩
    · have hge := Lib.indexByte_ge x.data.toList 46
      obtain ⟨i, hi⟩ : ∃ i : Nat, Lib.indexByte x.data.toList 46 = i := ⟨(Lib.indexByte x.data.toList 46).toNat, by omega⟩
      rw [hi] at HI
      obtain ⟨hix, hsp⟩ := piece_next x i hi
      have HL := hid hsp
      clear hm hge hi hsp
      obtain ⟨fn, tmps, assign, body, hy, hR⟩ := hY pre (x.extract 0 i) wr HJ.out
      have HR := hid hR
      clear hR
      gi_wp2_with fail
      refine ⟨trivial, fun _ => by omega, ?_⟩
      refine (HI.out _).mono ?_
      rintro e w' ⟨rfl, rfl⟩
      gi_wp2
      refine ⟨fun _ => by omega, ?_⟩
      refine HR.out.mono ?_
      rintro e W3 (⟨rfl, hJ3, hk3⟩ | ⟨rfl, hJx3⟩)
      · have m0 := (hk3.cell (p := ⟨B, 0, none⟩) (by show B < n₀; omega)).trans k0
        have mf := (hk3.frozen (p := ⟨B, 0, none⟩) (by show B < n₀; omega)).trans kf
        have m1 := (hk3.cell (p := ⟨B + 1, 0, none⟩) (by show B + 1 < n₀; omega)).trans k1
        have m2 := (hk3.cell (p := ⟨B + 2, 0, none⟩) (by show B + 2 < n₀; omega)).trans k2
        have HE := hid (show (pre ++ [x.extract 0 i]).map bs ++ splitI (bs (x.extract (i + 1) x.size)) = splitI (bs s) by rw [List.map_append, ← HP.out, HL.out]; simp)
        have HJ3 := hid hJ3
        have hz : (x.extract (i + 1) x.size).size = x.size - (i + 1) := by rw [ByteArray.size_extract]; omega
        have HZ := hid hz
        have HM := hid (show leftOf B w' = x.size by unfold leftOf; rw [k0])
        clear hJ3 hk3 hz k0 kf k1 k2
        gi_wp2
        have g0 : (W3.setCell ⟨B, 0, none⟩ (.string (x.extract (i + 1) x.size))).cell? ⟨B, 0, none⟩ = some (.string (x.extract (i + 1) x.size)) := World.cell?_setCell_same _ _ _ m0
        have g1 : (W3.setCell ⟨B, 0, none⟩ (.string (x.extract (i + 1) x.size))).cell? ⟨B + 1, 0, none⟩ = some (.string ⟨#[46]⟩) := (World.cell?_setCell_other _ _ _ _ (fun e => by have := congrArg Addr.block e; simp at this)).trans m1
        have g2 : (W3.setCell ⟨B, 0, none⟩ (.string (x.extract (i + 1) x.size))).cell? ⟨B + 2, 0, none⟩ = some (.int .i64 0) := (World.cell?_setCell_other _ _ _ _ (fun e => by have := congrArg Addr.block e; simp at this)).trans m2
        refine ⟨⟨x.extract (i + 1) x.size, pre ++ [x.extract 0 i], by rw [HZ.out]; omega, g0, by rw [World.frozen?_setCell]; exact mf, g1, g2, HE.out, hJs _ _ _ HJ3.out⟩, ?_⟩
        rw [HM.out]
        unfold leftOf
        rw [g0]
        show (x.extract (i + 1) x.size).size < x.size
        rw [HZ.out]; omega
      · have HE := hid (show (pre ++ [x.extract 0 i]).map bs ++ splitI (bs (x.extract (i + 1) x.size)) = splitI (bs s) by rw [List.map_append, ← HP.out, HL.out]; simp)
        have HJ3 := hid hJx3
        clear hJx3
        gi_wp2
        refine bodyPost_ret (results_none rfl _ _ _) rfl ?_
        exact ⟨⟨_, rfl⟩, .inr ⟨_, _, HE.out, HJ3.out⟩⟩
end Go.Proofs.Qxb6604198aDoor
