/-
  The walks of the lines: count, Position, RuneColumn.
-/
import Derived.Test.Qxb6604505aFmtRows
import Derived.Test.Qxb6604505aFmtPlain
import Derived.Test.Qxb6604505aFmtShelf
import Derived.WalkKit
import Derived.WalkSpells
import Derived.WalkLawsBesides
namespace Go.Proofs.Qxb6604505aFmt
open Go.RowKit

theorem hid {p : Prop} (h : p) : Hid p := h
/-- The lines of s lie at block g, their starts at block b. -/
def LinesAt (w : World) (g b c : Nat) (s : ByteArray) : Prop :=
  g < w.heap.size ∧ b < w.heap.size ∧ w.cell? ⟨g, 0, none⟩ = some (.string s) ∧ w.cell? ⟨g, 1, none⟩ = some (.slice (some ⟨b, 0, none⟩) (stL s s.size).length c) ∧
  ∀ j, j < (stL s s.size).length → w.cell? ⟨b, j, none⟩ = some (.int .i64 ((stL s s.size).getD j 0))
theorem LinesAt.below {w w' : World} {g b c : Nat} {s : ByteArray} (h : LinesAt w g b c s) (hb : Below w.heap.size w w') : LinesAt w' g b c s :=
  ⟨Nat.lt_of_lt_of_le h.1 hb.size, Nat.lt_of_lt_of_le h.2.1 hb.size, (hb.cell (p := ⟨g, 0, none⟩) h.1).trans h.2.2.1, (hb.cell (p := ⟨g, 1, none⟩) h.1).trans h.2.2.2.1,
    fun j hj => (hb.cell (p := ⟨b, j, none⟩) h.2.1).trans (h.2.2.2.2 j hj)⟩

set_option maxHeartbeats 400000 in
theorem runeLen_any (r : Int) (w : World) :
    Calls Tryf.prog 53 #[.int .i32 r] w fun e w' => (∃ u : Int, e = .returned (.int .i64 u)) ∧ w' = w := by
  by_cases h1 : 0 ≤ r <;> by_cases h2 : r < 55296 <;> by_cases h3 : 57344 ≤ r <;> by_cases h4 : r < 65536 <;> by_cases h5 : r ≤ 1114111 <;> (try omega)
  all_goals
    go_enter Tryf.func53, Tryf.ntmps53
    go_wp2
    go_ret
    exact ⟨⟨_, rfl⟩, rfl⟩

set_option maxHeartbeats 1000000 in
theorem count_any (g st off : Nat) (s : ByteArray) (w : World) (hs : s.size ≤ 1048576) (ho : off ≤ s.size) (hst : st ≤ off) (hg : g < w.heap.size) (hc0 : w.cell? ⟨g, 0, none⟩ = some (.string s)) (hT : Lib.Utf8Tabs 1 2 w) :
    Calls Tryf.prog 44 #[.pointer (some ⟨g, 0, none⟩), .int .i64 st, .int .i64 off] w fun e w' => (∃ (k : Nat) (u : Int), e = .returned (.tuple #[.int .i64 k, .int .i64 u]) ∧ At s st off k) ∧ Below w.heap.size w w' := by
  have HT : Hid (Lib.Utf8Tabs 1 2 w) := hT
  have HC : Hid (w.cell? ⟨g, 0, none⟩ = some (.string s)) := hc0
  clear hT hc0
  go_enter Tryf.func44, Tryf.ntmps44
  go_wp2
  go_loopw [6, 7, 8] (fun c u i wr => ∃ (k : Nat) (uu : Int), pos s st k ≤ off ∧ i = .int .i64 (pos s st k) ∧ c = .int .i64 k ∧ u = .int .i64 uu ∧ Below w.heap.size w wr) (fun _ _ i _ => off - (intOf i).toNat)
  case atStart => exact ⟨0, 0, hst, rfl, rfl, rfl, Below.refl _ _⟩
  case round =>
    obtain ⟨k, uu, hp, rfl, rfl, rfl, hB⟩ := hrel
    have hcell : wr.cell? ⟨g, 0, none⟩ = some (.string s) := (hB.cell (p := ⟨g, 0, none⟩) hg).trans HC.out
    have hge := pos_ge s st k
    have P1 : Hid (pos s st (k + 1) = pos s st k + wd s (pos s st k)) := rfl
    have AT : Hid (off < pos s st (k + 1) → At s st off k) := fun h => ⟨hp, h⟩
    generalize hq : pos s st k = p at *
    clear hq
    by_cases hlt : p < off
    · have hD := Tryf.utf8_DecodeRuneInString (s.extract p s.size) wr (Utf8Tabs_below HT.out hB)
      rw [decodeGo_drop s p (by omega)] at hD
      generalize (Lib.decodeGo (s.extract p s.size)).1 = R at hD
      have HD := hid hD
      clear hD
      have hw1 := wd_pos s p
      have hw2 := wd_end s p (by omega)
      by_cases hin : off < p + wd s p
      · have X : Hid (At s st off k) := AT.out (by rw [P1.out]; exact hin)
        go_wp2_with (go_at_call 52; refine HD.out.mono ?_; rintro e w1 ⟨rfl, hb1⟩)
        go_ret2
        exact ⟨⟨k, _, rfl, X.out⟩, hB.trans (hb1.mono hB.size)⟩
      · have hnext : Hid (pos s st (k + 1) ≤ off) := by rw [Hid, P1.out]; omega
        have hkp : k ≤ off := by omega
        go_wp2_with (first
          | (go_at_call 52; refine HD.out.mono ?_; rintro e w1 ⟨rfl, hb1⟩)
          | (go_at_call 53; refine (runeLen_any _ _).mono ?_; rintro e w' ⟨⟨uz, rfl⟩, rfl⟩))
        go_roundw
        case rel => exact ⟨k + 1, _, hnext.out, by rw [P1.out]; go_num, by go_num, rfl, hB.trans (hb1.mono hB.size)⟩
        case measure => simp [intOf]; omega
    · have X : Hid (At s st off k) := AT.out (by rw [P1.out]; have := wd_pos s p; omega)
      go_wp2
      go_ret2
      exact ⟨⟨k, _, rfl, X.out⟩, hB⟩

set_option maxHeartbeats 1000000 in
theorem position_any (g b c off : Nat) (s : ByteArray) (w : World) (hs : s.size ≤ 1048576) (ho : off ≤ s.size) (hL : LinesAt w g b c s) :
    Calls Tryf.prog 35 #[.pointer (some ⟨g, 0, none⟩), .int .i64 off] w fun e w' => e = .returned (.tuple #[.int .i64 (((stL s off).length - 1 : Nat) + 1), .int .i64 ((off : Int) - ls s off + 1)]) ∧ Below w.heap.size w w' := by
  obtain ⟨hg, hbz, hc0, hc1, hcs⟩ := hL
  obtain ⟨F1, F2, F3⟩ := search_line s s.size off ho
  have hn := stL_len s s.size
  have hso : (stL s s.size).Pairwise (· ≤ ·) := (stL_sorted s s.size).imp fun h => Int.le_of_lt h
  have hcell : w.cell? ⟨b, (stL s off).length - 1, none⟩ = some (.int .i64 (ls s off)) := by rw [hcs _ F3, F2]
  have hS := Tryf.slices_BinarySearch_int b 0 (stL s s.size).length c (stL s s.size) off w (Nat.le_refl _) (by omega) (fun j hj => by rw [Nat.zero_add]; exact hcs j hj) (by rw [List.take_length]; exact hso)
  rw [List.take_length] at hS
  have hls := ls_le s off
  generalize (stL s s.size).countP (· < (off : Int)) = C at hS F1
  generalize (stL s s.size).contains (off : Int) = B at hS F1
  generalize (stL s s.size).length = n at *
  generalize (stL s off).length - 1 = M at *
  generalize ls s off = q at *
  clear hso hcs F2
  have HS := hid hS
  clear hS
  cases B
  · obtain rfl : C = M + 1 := by simp at F1; omega
    clear F1
    go_enter Tryf.func35, Tryf.ntmps35
    go_wp2_with (go_at_call 47; refine HS.out.mono ?_; rintro e w1 ⟨rfl, ⟨dr, rfl⟩⟩)
    go_region
    all_goals (try go_wp2)
    all_goals go_ret2
    all_goals exact ⟨rfl, (below_drewN (Below.refl _ _) _).drew⟩
  · obtain rfl : C = M := by simp at F1; omega
    clear F1
    go_enter Tryf.func35, Tryf.ntmps35
    go_wp2_with (go_at_call 47; refine HS.out.mono ?_; rintro e w1 ⟨rfl, ⟨dr, rfl⟩⟩)
    go_region
    all_goals (try go_wp2)
    all_goals go_ret2
    all_goals exact ⟨rfl, (below_drewN (Below.refl _ _) _).drew⟩

set_option maxHeartbeats 1000000 in
theorem runeColumn_any (g b c off : Nat) (s : ByteArray) (w : World) (hs : s.size ≤ 1048576) (ho : off ≤ s.size) (hL : LinesAt w g b c s) (hT : Lib.Utf8Tabs 1 2 w) :
    Calls Tryf.prog 32 #[.pointer (some ⟨g, 0, none⟩), .int .i64 off] w fun e w' => (∃ k : Nat, e = .returned (.int .i64 ((k : Int) + 1)) ∧ At s (ls s off) off k) ∧ Below w.heap.size w w' := by
  have HP := hid (position_any g b c off s w hs ho hL)
  obtain ⟨F1, F2, F3⟩ := search_line s s.size off ho
  have hn := stL_len s s.size
  have hls := ls_le s off
  have HK := hid fun (w1 : World) (hb1 : Below w.heap.size w w1) => count_any g (ls s off) off s w1 hs ho hls (hL.below hb1).1 (hL.below hb1).2.2.1 (Utf8Tabs_below hT hb1)
  have HL := hid fun (w1 : World) (hb1 : Below w.heap.size w w1) => hL.below hb1
  have HC : Hid (∀ (w1 : World), Below w.heap.size w w1 → w1.cell? ⟨b, (stL s off).length - 1, none⟩ = some (.int .i64 (ls s off))) := fun w1 hb1 => by
    rw [(hL.below hb1).2.2.2.2 _ F3, F2]
  clear F1 F2 hL hT
  generalize (stL s off).length - 1 = M at *
  go_enter Tryf.func32, Tryf.ntmps32
  go_wp2_with fail
  refine HP.out.mono ?_
  rintro e w1 ⟨rfl, hb1⟩
  have hc1 := (HL.out w1 hb1).2.2.2.1
  have hcM := HC.out w1 hb1
  have HK1 := hid (HK.out w1 hb1)
  clear HL HC HK
  go_wp2_with fail
  refine HK1.out.mono ?_
  rintro e w2 ⟨⟨k, u, rfl, hat⟩, hb2⟩
  have HAT := hid hat
  clear hat
  have hkb : k ≤ off := by have := pos_ge s (ls s off) k; have := HAT.out.1; omega
  go_wp2
  go_ret
  exact ⟨⟨k, rfl, HAT.out⟩, hb1.trans (hb2.mono hb1.size)⟩
end Go.Proofs.Qxb6604505aFmt
