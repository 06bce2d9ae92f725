/-
  The walk of ftoa64 at 'f', shortest.
-/
import Derived.Test.Qxb6603897aDoorEfg
import Derived.Test.Qxb6603897aDoorRange
namespace Go.Proofs.Qxb6603897aDoor
open Go.RowKit

structure Tabs (w : World) : Prop where
  h3 : 3 < w.heap.size
  pow : PowTab w
  dig : Lib.TabIs Tryd.prog w "internal/strconv.uint64pow10" .u64 Lib.pow10Tab
theorem Tryd.glob2 : Tryd.prog.globalNamed "internal/strconv.uint64pow10" = some 2 := by kernel_rfl
theorem Tabs.below {w w' : World} {B : Nat} (h : Tabs w) (hb : Below B w w') (hB : 4 ≤ B) : Tabs w' where
  h3 := Nat.lt_of_lt_of_le h.h3 hb.size
  pow := fun i hi => by
    rw [hb.cell (p := ⟨3, i * 2, none⟩) (show 3 < B by omega), hb.cell (p := ⟨3, i * 2 + 1, none⟩) (show 3 < B by omega)]
    exact h.pow i hi
  dig := by
    have := h.dig
    unfold Lib.TabIs World.var? at *
    rw [Tryd.glob2, Option.bind_some] at *
    rw [hb.block 2 (by omega)]
    exact this

theorem Tabs.drew {w : World} (h : Tabs w) : Tabs w.drew := ⟨h.h3, h.pow, h.dig⟩
theorem Outs.drew {B sb : Nat} {D : List Int} {w wr : World} {v : Value} {xs : List Int} (h : Outs B sb D w wr v xs) : Outs B sb D w wr.drew v xs := ⟨h.own, h.apart, h.below.drew, h.base, h.lt, h.dig⟩
theorem holds_drew {w : World} {b : Nat} {d : Array UInt8} (h : Sort.Holds encB w b 0 d) : Sort.Holds encB w.drew b 0 d := h

def digs (d : Nat) : List Int := (List.range (strip d (Lib.nDigits d))).map (dI d)
theorem digs_len (d : Nat) : (digs d).length = strip d (Lib.nDigits d) := by simp [digs]
theorem strip_le (d : Nat) : ∀ k, strip d k ≤ k
  | 0 => Nat.le_refl _
  | k + 1 => by
    unfold strip
    split
    · exact Nat.le_succ_of_le (strip_le d k)
    · exact Nat.le_refl _
theorem digs_at (d j : Nat) (h : j < (digs d).length) : (digs d).getD j 0 = dI d j := by
  rw [digs_len] at h
  simp [digs, List.getD_eq_getElem?_getD, h]
def finT (neg : Bool) (d : Nat) (p : Int) : List Int := sgnT neg ++ intT (digs d) ((Lib.nDigits d : Int) + p) ++ fracT (digs d) ((Lib.nDigits d : Int) + p)
def negOf (b : Nat) : Bool := ((b : Int) / 9223372036854775808 != 0)

theorem putRow_block {w : World} {b k n : Nat} {dk : Array UInt8} (h : k ≠ b) : ((Sort.putRow encB w b 0 dk).drewN n).heap[k]? = w.heap[k]? := by
  show (Sort.putRow encB w b 0 dk).heap[k]? = _
  simp [Sort.putRow, Sort.mapBlock, Array.getElem?_modify, Ne.symm h]

theorem outs_start {B : Nat} {v : Value} {w0 w1 W2 : World} {n : Nat} {o : Obj} {dk : Array UInt8} {D : List Int} (hown : w1.ownsRow B 5 1 v 0 []) (hlt : ∀ k, v.ownBlock = some k → k < w1.heap.size) (hB : Below B w0 w1) (hBs : B ≤ w1.heap.size)
    (hb2 : Below (w1.heap.size + 1) (w1.alloc o) W2) (hc : ∀ j, j < D.length → ((Sort.putRow encB W2 w1.heap.size 0 dk).drewN n).cell? ⟨w1.heap.size, j, none⟩ = some (.int .u8 (D.getD j 0))) :
    Outs B w1.heap.size D w0 ((Sort.putRow encB W2 w1.heap.size 0 dk).drewN n) v [] := by
  have hsz : ((Sort.putRow encB W2 w1.heap.size 0 dk).drewN n).heap.size = W2.heap.size := Sort.size_putRow encB W2 w1.heap.size 0 dk
  have hs2 : w1.heap.size + 1 ≤ W2.heap.size := by have := hb2.size; simpa using this
  have hblk : ∀ k, k < w1.heap.size → ((Sort.putRow encB W2 w1.heap.size 0 dk).drewN n).heap[k]? = w1.heap[k]? := fun k hk => by
    rw [putRow_block (by omega), hb2.block k (by omega), Below.heap_alloc _ _ _ hk]
  have hbel : Below w1.heap.size w1 ((Sort.putRow encB W2 w1.heap.size 0 dk).drewN n) := ⟨hb2.os, hb2.tape, hb2.output, by rw [hsz]; omega, hblk⟩
  refine ⟨?_, ?_, hB.trans (hbel.mono hBs), by rw [hsz]; omega, by rw [hsz]; omega, hc⟩
  · refine ⟨hown.1, ?_⟩
    rcases hown.2 with h | ⟨g, cap, cur, rfl, h1, h2, h3⟩
    · exact Or.inl h
    · exact Or.inr ⟨g, cap, cur, rfl, h1, by rw [hblk g (hlt g rfl)]; exact h2, h3⟩
  · intro h
    exact absurd (hlt _ h) (by omega)

theorem buf_holds {w1 W2 : World} (hb2 : Below (w1.heap.size + 1) (w1.alloc (.cells (Array.replicate 32 (.int .u8 0)) 66)) W2) : Sort.Holds encB W2 w1.heap.size 0 (Array.replicate 32 (0 : UInt8)) := fun j hj => by
  have hj' : j < 32 := by simpa using hj
  rw [hb2.cell (p := ⟨w1.heap.size, 0 + j, none⟩) (by show w1.heap.size < _; omega), hb2.frozen (p := ⟨w1.heap.size, 0 + j, none⟩) (by show w1.heap.size < _; omega)]
  refine ⟨?_, World.frozen?_alloc_new _ _ _ _⟩
  rw [World.cell?_alloc_new, getElem!_pos _ j hj]
  simp [hj']

theorem and_mask64 (a : Nat) (ha : a < 18446744073709551616) : bits .and .u64 (a : Int) 4503599627370495 = ((a % 4503599627370496 : Nat) : Int) := by
  have := bits_and_u64_nat a 4503599627370495 ha (by omega)
  rw [show (4503599627370495 : Nat) = 2 ^ 52 - 1 from rfl, Nat.and_two_pow_sub_one_eq_mod] at this
  exact this
theorem i64_and2047 (n : Int) : bits .and .i64 n 2047 = n % 2048 := by
  have hc : (BitVec.ofInt 64 2047).toNat = 2 ^ 11 - 1 := by decide
  have key : (BitVec.ofInt 64 n &&& BitVec.ofInt 64 2047).toNat = (n % ((2 ^ 64 : Nat) : Int)).toNat % 2 ^ 11 := by
    rw [BitVec.toNat_and, BitVec.toNat_ofInt, hc, Nat.and_two_pow_sub_one_eq_mod]
  show IntKind.i64.wrap ((BitVec.ofInt 64 n &&& BitVec.ofInt 64 2047).toNat : Nat) = n % 2048
  rw [key, IntKind.wrap_i64]
  omega
theorem or_top (a : Nat) (ha : a < 4503599627370496) : bits .or .u64 (a : Int) 4503599627370496 = ((a + 4503599627370496 : Nat) : Int) := by
  have := bits_or_u64_nat a 4503599627370496 (by omega) (by omega)
  rw [show a ||| 4503599627370496 = a + 4503599627370496 from by
    rw [show (4503599627370496 : Nat) = 1 * 2 ^ 52 from rfl, Nat.or_comm, Nat.mul_comm, ← Nat.two_pow_add_eq_or_of_lt (by simpa using ha), Nat.add_comm]] at this
  exact this

theorem run_bits64 (b : Nat) (w : World) : (Extern.MathFloatBits.float64bits #[Value.float FloatKind.f64 b]).run Tryd.prog w = .ok (.int .u64 b) w := rfl

set_option maxRecDepth 20000 in
set_option maxHeartbeats 1000000 in
theorem ftoa_fin (b B : Nat) (v : Value) (w0 w : World) (hb : b < 18446744073709551616) (hx : exOf b ≠ 2047) (hm : m0Of b ≠ 0) (hT : Tabs w)
    (hown : w.ownsRow B 5 1 v 0 []) (hlt : ∀ k, v.ownBlock = some k → k < w.heap.size) (hB : Below B w0 w) (hBs : B ≤ w.heap.size) :
    Calls Tryd.prog 25 #[v, .float .f64 b, .int .u8 102, .int .i64 (-1)] w fun r w' => ∃ v' sb D, r = .returned v' ∧ Hid (Outs B sb D w0 w' v' (finT (negOf b) (shortD (m1Of b) (e1Of b)).1 (shortD (m1Of b) (e1Of b)).2)) := by
  obtain ⟨hM1, hM2, hL1, hL2, hE1, hE2, hF⟩ := word_in b hx hm
  have h3 := hT.h3
  have HT := hid hT
  have HOWN := hid hown
  have HLT := hid hlt
  have HB := hid hB
  have HF := hid hF
  clear hT hown hlt hB hF
  have EX := hid (show bits .and .i64 ((b : Int) / 4503599627370496) 2047 = ((exOf b : Nat) : Int) by rw [i64_and2047]; unfold exOf; omega)
  have EM := hid (show bits .and .u64 (b : Int) 4503599627370495 = ((mantOf b : Nat) : Int) from and_mask64 b hb)
  go_enter Tryd.func25, Tryd.ntmps25
  go_wp2_with fail
  rw [run_callFunc_extern Tryd.func29 (by kernel_rfl) (by kernel_rfl) (by kernel_rfl) (e := Extern.MathFloatBits.float64bits) (by kernel_rfl)]
  rw [run_bits64]
  simp only [Result.andThen]
  rw [Oper.upon_value]
  go_wp2_with fail
  go_quiet (fail)
  rw [EX.out]
  obtain ⟨neg, hneg⟩ : ∃ neg, negOf b = neg := ⟨_, rfl⟩
  rw [show ((b : Int) / 9223372036854775808 != 0) = neg from hneg]
  have HN := hid hneg
  obtain ⟨w1, hw1⟩ : ∃ w1, w.drewN nq = w1 := ⟨_, rfl⟩
  rw [hw1]
  have hb1 : Below w.heap.size w w1 := by rw [← hw1]; exact below_drewN (Below.refl _ _) nq
  have HT1 := hid (HT.out.below hb1 (by omega))
  have HOWN1 : Hid (w1.ownsRow B 5 1 v 0 []) := by rw [← hw1]; exact HOWN
  have HLT1 : Hid (∀ k, v.ownBlock = some k → k < w1.heap.size) := by rw [← hw1]; exact HLT
  have HB1 : Hid (Below B w0 w1) := by rw [← hw1]; exact below_drewN HB.out nq
  have hBs1 : B ≤ w1.heap.size := by rw [← hw1]; exact hBs
  have h31 : 3 < w1.heap.size := by rw [← hw1]; exact h3
  clear hw1 hneg EX HT HOWN HLT HB hb1
  have hexl : exOf b < 2048 := by unfold exOf; omega
  have hml : mantOf b < 4503599627370496 := by unfold mantOf; omega
  have EE := hid (show (if exOf b = 0 then 1 else exOf b) = e0Of b from rfl)
  have EM0 := hid (show (if exOf b = 0 then mantOf b else mantOf b + 4503599627370496) = m0Of b from rfl)
  have EO := hid (or_top (mantOf b) hml)
  have EL := hid (show Lib.bitLen (m0Of b) = lenOf b from rfl)
  have EM1 := hid (show m0Of b * 2 ^ (64 - lenOf b) = m1Of b from rfl)
  have EE1 := hid (show (e0Of b : Int) + -1023 - (64 - (lenOf b : Int)) - 52 = e1Of b from rfl)
  obtain ⟨m1, em1⟩ : ∃ m1, m1Of b = m1 := ⟨_, rfl⟩
  obtain ⟨e1, ee1⟩ : ∃ e1, e1Of b = e1 := ⟨_, rfl⟩
  rw [em1, ee1] at HF
  rw [em1] at EM1
  rw [ee1] at EE1
  have HR1 := hid em1
  have HR2 := hid ee1
  clear em1 ee1
  generalize lenOf b = L at *
  generalize exOf b = ex at *
  generalize mantOf b = mant at *
  generalize m0Of b = M at *
  generalize e0Of b = E at *
  have hx2 : ((ex : Int) == 2047) = false := beq_eq_false_iff_ne.2 (by omega)
  go_upto_if 78 with fail
  rw [EM.out]
  go_cut [14, 15] (fun a c wc => a = .int .i64 E ∧ c = .int .u64 M ∧ w1 = wc)
  case first =>
    by_cases h0 : ex = 0
    · have hE := EE.out
      have hM := EM0.out
      rw [if_pos h0] at hE hM
      subst h0 hE hM
      go_wp2_with fail
      go_meet
      case rel => exact ⟨rfl, rfl, rfl⟩
    · have hE := EE.out
      have hM := EM0.out
      rw [if_neg h0] at hE hM
      have hx3 : ((ex : Int) == 0) = false := beq_eq_false_iff_ne.2 (by omega)
      subst hE
      have HM := hid hM
      clear hM
      go_wp2_with fail
      go_meet
      case rel =>
        rw [EO.out, HM.out]
        exact ⟨rfl, rfl, rfl⟩
  case rest =>
    obtain ⟨rfl, rfl, rfl⟩ := hcut
    have hM : ((M : Int) == 0) = false := beq_eq_false_iff_ne.2 (by omega)
    have HL := hid fun (w : World) => Tryd.bits_Len64 (M : Int) w (by omega) (by omega)
    rw [Int.toNat_natCast, EL.out] at HL
    have EW := hid (show IntKind.u64.wrap ((M : Int) * 2 ^ (64 - L)) = (m1 : Int) by
      have e : ((M : Int) * 2 ^ (64 - L)) = ((M * 2 ^ (64 - L) : Nat) : Int) := by simp
      rw [e, EM1.out]
      have := HF.out.2.1
      go_arith)
    obtain ⟨d, p, hdp⟩ : ∃ d p, shortD m1 e1 = (d, p) := ⟨_, _, rfl⟩
    have hdp2 := shortD_in m1 e1 HF.out
    have HS := hid fun (w : World) (h : Tabs w) => short_any m1 e1 w HF.out h.h3 h.pow
    rw [hdp] at hdp2 HS
    obtain ⟨hd1, hd2, hp1, hp2⟩ := hdp2
    dsimp only at hd1 hd2 hp1 hp2 HS
    have HDP := hid hdp
    clear hdp
    go_wp2_with (go_at_call 33; refine (HL.out _).mono ?_; rintro r w' ⟨rfl, rfl⟩)
    rw [EW.out, EE1.out]
    have HT2 := hid (HT1.out.below ((Below.refl w1.heap.size w1).alloc (Nat.le_refl _) (.cells (Array.replicate 32 (.int .u8 0)) 66)) (by omega))
    refine (HS.out _ HT2.out).mono ?_
    rintro r W2 ⟨rfl, hb2⟩
    have HB2 := hid (show Below (w1.heap.size + 1) (w1.alloc (.cells (Array.replicate 32 (.int .u8 0)) 66)) W2 by have := hb2; rw [World.size_alloc] at this; exact this)
    clear hb2
    have HT3 := hid (HT2.out.below HB2.out (by omega))
    have HH := hid (buf_holds HB2.out)
    have hsz2 : w1.heap.size + 1 ≤ W2.heap.size := by have := HB2.out.size; simpa using this
    have hnd := Lib.nDigits_le20 d (by omega)
    have hstr := strip_le d (Lib.nDigits d)
    have HN1 := hid fun (W : World) (h : Tabs W) => Tryd.internal_strconv_numDigits d hd1 (by omega) W h.dig
    have HN2 := hid fun (W : World) (h : Sort.Holds encB W w1.heap.size 0 (Array.replicate 32 (0 : UInt8))) => setDigits_any w1.heap.size d p W (by omega) ⟨by omega, by omega⟩ h
    clear HL HS HT1 HT2
    go_upto_region 38 with fail
    go_cut [22, 23] (fun a c wx => a = .int .i64 ((Lib.nDigits d : Int) + p) ∧ c = .int .i64 ((digs d).length : Int) ∧ Hid (Outs B w1.heap.size (digs d) w0 wx v []))
    case first =>
      go_region_with (first | (go_at_call 36; refine (HN1.out _ (by first | exact HT3.out | exact HT3.out.drew | exact HT3.out.drew.drew)).mono ?_; rintro r w' ⟨rfl, rfl⟩) | (go_at_call 35; refine (HN2.out _ (by first | exact HH.out | exact holds_drew HH.out | exact holds_drew (holds_drew HH.out))).mono ?_; rintro r w' ⟨rfl, ⟨n, dk, hw⟩, hc⟩))
      go_wp2_with fail
      go_meet
      case rel =>
        refine ⟨rfl, by rw [digs_len], ?_⟩
        have hc' : ∀ j, j < (digs d).length → w'.cell? ⟨w1.heap.size, j, none⟩ = some (.int .u8 ((digs d).getD j 0)) := fun j hj => by
          rw [digs_at _ _ hj]
          rw [digs_len] at hj
          exact hc j (by omega)
        subst hw
        first | exact outs_start HOWN1.out HLT1.out HB1.out hBs1 HB2.out hc' | exact outs_start HOWN1.out HLT1.out HB1.out hBs1 HB2.out.drew hc' | exact outs_start HOWN1.out HLT1.out HB1.out hBs1 HB2.out.drew.drew hc' | exact (outs_start HOWN1.out HLT1.out HB1.out hBs1 HB2.out hc').drew | exact (outs_start HOWN1.out HLT1.out HB1.out hBs1 HB2.out.drew hc').drew
    case rest =>
      obtain ⟨rfl, rfl, HO⟩ := hcut
      have hDl := digs_len d
      have HG := hid (efg_any B w1.heap.size (digs d) neg ((Lib.nDigits d : Int) + p) (max (((digs d).length : Int) - ((Lib.nDigits d : Int) + p)) 0) v w0 wc (by omega) ⟨by omega, by omega⟩ (by split <;> omega) HO.out)
      rw [hDl] at HG
      go_wp2_with fail
      refine HG.out.mono ?_
      rintro r w2 ⟨v', rfl, HR⟩
      go_wp2_with fail
      go_ret
      refine ⟨v', w1.heap.size, digs d, rfl, ?_⟩
      rw [HN.out, HR1.out, HR2.out, HDP.out]
      exact HR
end Go.Proofs.Qxb6603897aDoor
