/-
  The walk of setDigits: the digits laid into the row, the zeros at the end taken off.
-/
import Derived.Test.Qxb6603897aDoorShort2
import Derived.Lib.ItoaLen
namespace Go.Proofs.Qxb6603897aDoor
open Go.RowKit Go.Lib Go.Sort

/-- The byte of the digit of u at place t from the left. -/
def dI (u t : Nat) : Int := ((48 + u / 10 ^ (nDigits u - 1 - t) % 10 : Nat) : Int)
/-- How many of the first k digits are left where the zeros at the end are taken off. -/
def strip (u : Nat) : Nat → Nat
  | 0 => 0
  | k + 1 => if dI u k == 48 then strip u k else k + 1
abbrev encB : UInt8 → Value := fun b => Value.int .u8 (b.toNat : Int)

theorem dg_int (u j : Nat) : ((dg u j).toNat : Int) = ((48 + u / 10 ^ j % 10 : Nat) : Int) := by
  unfold dg
  have : 48 + u / 10 ^ j % 10 < 256 := by omega
  rw [UInt8.toNat_ofNat']
  omega

set_option maxHeartbeats 400000 in
theorem setDigits_any (b d : Nat) (p : Int) (w : World) (h2 : d < 18446744073709551616) (hp : -1000 ≤ p ∧ p ≤ 1000) (hH : Holds encB w b 0 (Array.replicate 32 (0 : UInt8))) :
    Calls Tryd.prog 35 #[.slice (some ⟨b, 0, none⟩) 32 32, .int .u64 d, .int .i64 p, .int .i64 (nDigits d)] w fun r w' =>
      r = .returned (.tuple #[.int .i64 (nDigits d + p), .int .i64 (strip d (nDigits d))]) ∧ (∃ (n : Nat) (dk : Array UInt8), w' = (putRow encB w b 0 dk).drewN n) ∧ ∀ j, j < nDigits d → w'.cell? ⟨b, j, none⟩ = some (.int .u8 (dI d j)) := by
  have hn := nDigits_le20 d h2
  have hn1 := nDigits_pos d
  have hlt := lt_pow_nDigits d
  have hH' : Holds encB w b 0 (Array.replicate (nDigits d) (0 : UInt8)) := fun j hj => by
    have hj' : j < nDigits d := by simpa using hj
    have := hH j (by simp; omega)
    rw [getElem!_pos _ j hj]
    rw [getElem!_pos _ j (by simp; omega)] at this
    simpa using this
  have HF := hid (Tryd.internal_strconv_formatBase10 b 0 32 d (Array.replicate (nDigits d) (0 : UInt8)) w hH' (by simpa using hlt) h2 (by simp; omega))
  clear hlt hH
  have HH := hid hH'
  clear hH'
  have ez : (Array.replicate (nDigits d) (0 : UInt8)).size = nDigits d := by simp
  rw [ez] at HF
  clear ez
  go_enter Tryd.func35, Tryd.ntmps35
  go_wp2_with fail
  refine HF.out.mono ?_
  rintro r W ⟨rfl, n, v', dk, hW, hfmt⟩
  have hcell : Hid (∀ j, j < nDigits d → W.cell? ⟨b, j, none⟩ = some (.int .u8 (dI d j))) := fun j hj => by
    rw [hW]
    have := cell?_putRow encB w b 0 _ dk HH.out (by rw [hfmt.size]; simp) j (by rw [hfmt.size]; exact hj)
    rw [Nat.zero_add] at this
    rw [show ((putRow encB w b 0 dk).drewN n).cell? ⟨b, j, none⟩ = (putRow encB w b 0 dk).cell? ⟨b, j, none⟩ from rfl, this, hfmt.done j (Nat.zero_le _) hj]
    show some (Value.int .u8 ((dg d (nDigits d - 1 - j)).toNat : Int)) = _
    rw [dg_int]
    rfl
  have HW := hid (show ∃ (n : Nat) (dk : Array UInt8), W = (putRow encB w b 0 dk).drewN n from ⟨n, dk, hW⟩)
  clear hW hfmt HF HH
  go_wp2
  go_loop [3] (fun i => ∃ k : Nat, k ≤ nDigits d ∧ i = .int .i64 k ∧ Hid (strip d k = strip d (nDigits d))) (fun i => (RowKit.intOf i).toNat)
  case atStart => exact ⟨nDigits d, Nat.le_refl _, rfl, rfl⟩
  case round =>
    obtain ⟨k, hk, rfl, hs⟩ := hrel
    match k, hk, hs with
    | 0, hk, hs =>
      go_wp2
      go_ret2
      have e : strip d (nDigits d) = 0 := hs.out.symm
      rw [e]
      exact ⟨rfl, HW.out, hcell.out⟩
    | k + 1, hk, hs =>
      have c := hcell.out k (by omega)
      cases hz : (dI d k == 48)
      · have e : Hid (strip d (nDigits d) = k + 1) := by rw [Hid, ← hs.out, strip, hz]; rfl
        go_wp2
        go_ret2
        rw [e.out]
        exact ⟨rfl, HW.out, hcell.out⟩
      · have e : Hid (strip d k = strip d (nDigits d)) := by rw [Hid, ← hs.out, strip, hz]; rfl
        go_wp2
        go_round
        case rel => exact ⟨k, by omega, by go_num, e⟩
        case measure => simp [RowKit.intOf]
end Go.Proofs.Qxb6603897aDoor
