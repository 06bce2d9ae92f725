/-
  The two laws' walks out of the contracts.
-/
import Derived.Test.Qxb6604505aFmtMake
import Derived.Test.Qxb6604505aFmtScan
namespace Go.Proofs.Qxb6604505aFmt
open Go.RowKit

set_option maxHeartbeats 1000000 in
theorem lawM_any (s : ByteArray) (o : Int) (w : World) (hs : s.size ≤ maxLen) (hT : Lib.Utf8Tabs 1 2 w) :
    Calls Tryf.prog 7 #[.string s, .int .i64 o] w fun e w' => e = .returned (.bool true) ∧ Below w.heap.size w w' := by
  have HB0 := fun w1 => bytesM_any s o w1 hs
  unfold maxLen at hs
  by_cases hbig : s.size ≤ 1048576
  case neg =>
    rw [decide_eq_false hbig] at HB0
    have HB := hid HB0
    clear HB0 hT
    go_enter Tryf.func7, Tryf.ntmps7
    go_wp2_with (go_at_call 30; refine (HB.out _).mono ?_; rintro e w' ⟨rfl, rfl⟩)
    go_ret
    exact ⟨rfl, Below.refl _ _⟩
  rw [decide_eq_true hbig] at HB0
  have HB := hid HB0
  clear HB0
  by_cases h0 : o < 0
  · clear hT
    go_enter Tryf.func7, Tryf.ntmps7
    go_wp2_with (go_at_call 30; refine (HB.out _).mono ?_; rintro e w' ⟨rfl, rfl⟩)
    go_ret
    exact ⟨rfl, Below.refl _ _⟩
  by_cases h1 : (s.size : Int) < o
  · clear hT
    go_enter Tryf.func7, Tryf.ntmps7
    go_wp2_with (go_at_call 30; refine (HB.out _).mono ?_; rintro e w' ⟨rfl, rfl⟩)
    go_ret
    exact ⟨rfl, Below.refl _ _⟩
  obtain ⟨off, rfl⟩ : ∃ off : Nat, o = off := ⟨o.toNat, by omega⟩
  have ho : off ≤ s.size := by omega
  have HL := hid (lines_any s w hbig)
  have HR := hid fun (w1 : World) (g b c : Nat) (hL : LinesAt w1 g b c s) (hT1 : Lib.Utf8Tabs 1 2 w1) => runeColumn_any g b c off s w1 hbig ho hL hT1
  have HS := hid fun (w1 : World) => scan_any s off w1 hbig ho
  have HT := hid hT
  clear hT
  go_enter Tryf.func7, Tryf.ntmps7
  go_wp2_with (go_at_call 30; refine (HB.out _).mono ?_; rintro e w' ⟨rfl, rfl⟩)
  refine HL.out.mono ?_
  rintro e w1 ⟨g, b, c, rfl, hL, hb1⟩
  have HR1 := hid (HR.out w1 g b c hL (Utf8Tabs_below HT.out hb1))
  clear hL HR
  go_wp2_with fail
  refine HR1.out.mono ?_
  rintro e w2 ⟨⟨k, rfl, hk⟩, hb2⟩
  have HK := hid hk
  clear hk HR1
  go_wp2_with fail
  refine (HS.out _).mono ?_
  rintro e w3 ⟨⟨k', rfl, hk'⟩, rfl⟩
  obtain rfl := HK.out.same hk'
  have hq : (((k : Int) + 1) == ((k + 1 : Nat) : Int)) = true := by simp
  clear hk' HK
  go_wp2
  go_ret
  exact ⟨ret_bool (by simp), hb1.trans (hb2.mono hb1.size)⟩

theorem runeColumn_next (g b c off : Nat) (s : ByteArray) (w : World) (hs : s.size ≤ 1048576) (ho : off < s.size) (hL : LinesAt w g b c s) (hT : Lib.Utf8Tabs 1 2 w) :
    Calls Tryf.prog 32 #[.pointer (some ⟨g, 0, none⟩), .int .i64 ((off : Int) + 1)] w fun e w' => (∃ k : Nat, e = .returned (.int .i64 ((k : Int) + 1)) ∧ At s (ls s (off + 1)) (off + 1) k) ∧ Below w.heap.size w w' := by
  have h := runeColumn_any g b c (off + 1) s w hs ho hL hT
  rw [show ((off + 1 : Nat) : Int) = (off : Int) + 1 from by omega] at h
  exact h

set_option maxRecDepth 100000 in
set_option maxHeartbeats 2000000 in
theorem lawS_any (s : ByteArray) (o : Int) (w : World) (hs : s.size ≤ maxLen) (hT : Lib.Utf8Tabs 1 2 w) :
    Calls Tryf.prog 8 #[.string s, .int .i64 o] w fun e w' => e = .returned (.bool true) ∧ Below w.heap.size w w' := by
  have HB0 := fun w1 => bytesS_any s o w1 hs
  unfold maxLen at hs
  by_cases hbig : s.size ≤ 1048576
  case neg =>
    rw [decide_eq_false hbig] at HB0
    have HB := hid HB0
    clear HB0 hT
    go_enter Tryf.func8, Tryf.ntmps8
    go_wp2_with (go_at_call 34; refine (HB.out _).mono ?_; rintro e w' ⟨rfl, rfl⟩)
    go_ret
    exact ⟨rfl, Below.refl _ _⟩
  rw [decide_eq_true hbig] at HB0
  have HB := hid HB0
  clear HB0
  by_cases h0 : o < 0
  · clear hT
    go_enter Tryf.func8, Tryf.ntmps8
    go_wp2_with (go_at_call 34; refine (HB.out _).mono ?_; rintro e w' ⟨rfl, rfl⟩)
    go_ret
    exact ⟨rfl, Below.refl _ _⟩
  by_cases h1 : (s.size : Int) < o
  · clear hT
    go_enter Tryf.func8, Tryf.ntmps8
    go_wp2_with (go_at_call 34; refine (HB.out _).mono ?_; rintro e w' ⟨rfl, rfl⟩)
    go_ret
    exact ⟨rfl, Below.refl _ _⟩
  obtain ⟨off, rfl⟩ : ∃ off : Nat, o = off := ⟨o.toNat, by omega⟩
  have ho : off ≤ s.size := by omega
  have hb := get_bt s
  have HL := hid (lines_any s w hbig)
  have HR := hid fun (w1 : World) (g b c : Nat) (hL : LinesAt w1 g b c s) (hT1 : Lib.Utf8Tabs 1 2 w1) => runeColumn_any g b c off s w1 hbig ho hL hT1
  have HN := hid fun (w1 : World) (g b c : Nat) (hlt : off < s.size) (hL : LinesAt w1 g b c s) (hT1 : Lib.Utf8Tabs 1 2 w1) => runeColumn_next g b c off s w1 hbig hlt hL hT1
  have HP := hid fun (w1 : World) (g b c : Nat) (hL : LinesAt w1 g b c s) => position_any g b c off s w1 hbig ho hL
  have HT := hid hT
  clear hT
  go_enter Tryf.func8, Tryf.ntmps8
  go_wp2_with (go_at_call 34; refine (HB.out _).mono ?_; rintro e w' ⟨rfl, rfl⟩)
  refine HL.out.mono ?_
  rintro e w1 ⟨g, b, c, rfl, hL1, hb1⟩
  have HL1 := hid hL1
  clear hL1
  go_wp2_with fail
  refine (HR.out w1 g b c HL1.out (Utf8Tabs_below HT.out hb1)).mono ?_
  rintro e w2 ⟨⟨k, rfl, hk⟩, hb2⟩
  have HK := hid hk
  have hkl := col_le s off k hk
  have hls := ls_le s off
  clear hk
  have hb12 := hb1.trans (hb2.mono hb1.size)
  go_wp2_with fail
  refine (HP.out w2 g b c (HL1.out.below hb2)).mono ?_
  rintro e w3 ⟨rfl, hb3⟩
  have hb13 := hb12.trans (hb3.mono hb12.size)
  have HL3 := hid ((HL1.out.below hb2).below hb3)
  have hz : off = 0 → ((k : Int) + 1 != 1) = false := fun h => by simp; omega
  cases hoz : ((off : Int) == 0)
  all_goals
    by_cases hlt : off < s.size
    · cases h10 : (bt s off == 10)
      · have h10' : Hid (bn s off ≠ 10) := by unfold bt at h10; simp at h10; rw [Hid]; omega
        by_cases ha : bt s off < 128
        · have ha' : Hid (bn s off < 128) := by unfold bt at ha; rw [Hid]; omega
          clear hz
          go_wp2_with fail
          refine (HN.out w3 g b c hlt HL3.out (Utf8Tabs_below HT.out hb13)).mono ?_
          rintro e w4 ⟨⟨k', rfl, hk'⟩, hb4⟩
          obtain rfl := step_ascii s off k k' h10'.out ha'.out HK.out hk'
          clear hk'
          have hkz : k ≤ s.size := by omega
          go_wp2
          go_ret
          exact ⟨ret_bool (by simp), hb13.trans (hb4.mono hb13.size)⟩
        · clear hz
          go_wp2_with fail
          refine (HN.out w3 g b c hlt HL3.out (Utf8Tabs_below HT.out hb13)).mono ?_
          rintro e w4 ⟨⟨k', rfl, hk'⟩, hb4⟩
          have hor := step_any s off k k' h10'.out HK.out hk'
          clear hk'
          have hkz : k ≤ s.size := by omega
          rcases hor with rfl | rfl
          · have q1 : (((k' : Int) + 1) == ((k' : Int) + 1)) = true := by simp
            go_wp2
            go_ret
            exact ⟨ret_bool (by simp), hb13.trans (hb4.mono hb13.size)⟩
          · have q1 : (((k + 1 : Nat) : Int) + 1 == (k : Int) + 1) = false := beq_eq_false_iff_ne.2 (by omega)
            go_wp2
            go_ret
            exact ⟨ret_bool (by simp), hb13.trans (hb4.mono hb13.size)⟩
      · have h10' : Hid (bn s off = 10) := by unfold bt at h10; simp at h10; rw [Hid]; omega
        clear hz
        go_wp2_with fail
        refine (HN.out w3 g b c hlt HL3.out (Utf8Tabs_below HT.out hb13)).mono ?_
        rintro e w4 ⟨⟨k', rfl, hk'⟩, hb4⟩
        obtain rfl := step_lf s off k' h10'.out hk'
        clear hk'
        go_wp2
        go_ret
        exact ⟨ret_bool (by simp), hb13.trans (hb4.mono hb13.size)⟩
    · clear hz
      go_wp2
      go_ret
      exact ⟨rfl, hb13⟩
end Go.Proofs.Qxb6604505aFmt
