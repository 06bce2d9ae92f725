/-
  The walk of shortFloat at float64: the head has five ways, the tail is the same.
-/
import Derived.Test.Qxb6603897aDoorScale
import Derived.Lib.RabinKarpLaws
namespace Go.Proofs.Qxb6603897aDoor
open Go.RowKit
def dMin (u od : Nat) : Nat := ((u + od) % 18446744073709551616 + 3) % 18446744073709551616 / 4
def dMax (u od : Nat) : Nat := (u + 18446744073709551616 - od) % 18446744073709551616 / 4
def rnd (u : Nat) : Nat := (u + 1 + u / 4 % 2) % 18446744073709551616 / 4
/-- The shortest digits: the number and the exponent of ten. -/
def pickD (dmin dmax d0 : Nat) (p : Int) : Nat × Int :=
  if dmin ≤ dmax / 10 * 10 then (dmax / 10, -(p - 1)) else if dmin < dmax then (d0, -p) else (dmin, -p)
theorem usc_lt (x hi lo s : Nat) (hx : x < 18446744073709551616) (hh : hi < 18446744073709551616) : usc x hi lo s < 18446744073709551616 := by
  have hH : x * hi / 18446744073709551616 < 18446744073709551616 := Nat.div_lt_of_lt_mul (Nat.mul_lt_mul'' hx hh)
  have hdv : ∀ H, H < 18446744073709551616 → H / 2 ^ s < 18446744073709551616 := fun H h => Nat.lt_of_le_of_lt (Nat.div_le_self _ _) h
  unfold usc
  split
  · have hl : lowH (x * hi / 18446744073709551616) (x * hi % 18446744073709551616) (x * lo / 18446744073709551616) < 18446744073709551616 := by unfold lowH; split <;> omega
    have := hdv _ hl
    unfold stick odd1
    split <;> omega
  · have := hdv _ hH
    unfold odd1
    omega
theorem cell_drewN (w : World) (q : Nat) (a : Addr) : (w.drewN q).cell? a = w.cell? a := rfl

theorem rnd_cast (u : Nat) : ((u : Int) + 1 + (u : Int) / 4 % 2) % 18446744073709551616 / 4 = ((rnd u : Nat) : Int) := by
  unfold rnd
  rw [show (u : Int) / 4 = ((u / 4 : Nat) : Int) from by omega]
  generalize u / 4 = v
  omega
theorem uscale_as (x hi lo s u g : Nat) (w : World) (hx : x < 18446744073709551616) (hh : hi < 18446744073709551616) (hl : lo < 18446744073709551616) (hs : s < 64) (hu : usc x hi lo s = u)
    (c0 : w.cell? ⟨g, 0, none⟩ = some (.int .u64 hi)) (c1 : w.cell? ⟨g, 1, none⟩ = some (.int .u64 lo)) (c2 : w.cell? ⟨g, 2, none⟩ = some (.int .i64 s)) :
    Calls Tryd.prog 49 #[.int .u64 x, .pointer (some ⟨g, 0, none⟩)] w fun r w' => r = .returned (.int .u64 (u : Int)) ∧ ∃ q, w' = w.drewN q := by
  subst hu
  exact uscale_any x hi lo s g w hx hh hl hs c0 c1 c2

set_option maxHeartbeats 600000 in
theorem short_normal (m mn mx i od u1 u2 u3 dmin dmax : Nat) (e : Int) (s : Nat) (w : World) (hm1 : 9223372036854775808 < m) (hm2 : m < 18446744073709551616) (hmn2 : mn < 18446744073709551616) (hmn : (m : Int) - 1024 = mn) (hmx : (m : Int) + 1024 = mx) (hmx2 : mx < 18446744073709551616) (he : -1085 ≤ e) (he2 : e ≤ 960)
    (hp : -((e + 11) * 78913 / 262144) = (i : Int) - 348) (hod : bits .and .i64 ((m : Int) / 2048) 1 = (od : Int)) (odl : od ≤ 1)
    (hi : i < 696) (hs : -(e + ((i : Int) - 348) * 108853 / 32768 + 3) = s) (hs64 : s < 64) (h3 : 3 < w.heap.size) (hT : PowTab w) (hT2 : hiT i < 18446744073709551616 ∧ loT i < 18446744073709551616)
    (hu1 : usc mn (hiT i) (loT i) s = u1) (hu2 : usc mx (hiT i) (loT i) s = u2) (hu3 : usc m (hiT i) (loT i) s = u3) (hdmin : dMin u1 od = dmin) (hdmax : dMax u2 od = dmax) :
    Calls Tryd.prog 42 #[.int .u64 m, .int .i64 e] w fun r w' => (∃ d p, pickD dmin dmax (rnd u3) ((i : Int) - 348) = (d, p) ∧ r = .returned (.tuple #[.int .u64 d, .int .i64 p])) ∧ Below w.heap.size w w' := by
  have ne : ((m : Int) == 9223372036854775808) = false := beq_eq_false_iff_ne.2 (by omega)
  have HL := hid fun (x : Int) (w : World) (h1 : -100000 ≤ x) (h2 : x ≤ 100000) => log10Pow2_any x w h1 h2
  have lu1 : u1 < 18446744073709551616 := by rw [← hu1]; exact usc_lt _ _ _ _ hmn2 hT2.1
  have lu2 : u2 < 18446744073709551616 := by rw [← hu2]; exact usc_lt _ _ _ _ hmx2 hT2.1
  have lu3 : u3 < 18446744073709551616 := by rw [← hu3]; exact usc_lt _ _ _ _ hm2 hT2.1
  have hd1 : dmin < 4611686018427387904 := by rw [← hdmin]; unfold dMin; omega
  have hd2 : dmax < 4611686018427387904 := by rw [← hdmax]; unfold dMax; omega
  have EDMIN := hid (show (((u1 : Int) + od) % 18446744073709551616 + 3) % 18446744073709551616 / 4 = (dmin : Int) from by rw [← hdmin]; unfold dMin; omega)
  have EDMAX := hid (show ((u2 : Int) + -(od : Int)) % 18446744073709551616 / 4 = (dmax : Int) from by rw [← hdmax]; unfold dMax; omega)
  have EU1 := hid hu1
  have EU2 := hid hu2
  have EU3 := hid hu3
  have HS := hid hs
  have HT := hid hT
  have HP := hid hp
  have HOD := hid hod
  have HMN := hid hmn
  have HMX := hid hmx
  clear hp hs hod hT hmn hmx hu1 hu2 hu3 hdmin hdmax
  go_enter Tryd.func42, Tryd.ntmps42
  go_wp2_with (go_at_call 37; refine (HL.out _ _ (by omega) (by omega)).mono ?_; rintro r w' ⟨rfl, rfl⟩)
  rw [HP.out, HMN.out, HMX.out, HOD.out]
  refine (log2Pow10_any _ _ (by omega) (by omega)).mono ?_
  rintro r w1 ⟨rfl, rfl⟩
  go_wp2_with fail
  refine (prescale_any i _ _ _ hi (by omega) (by omega) (by omega) HT.out).mono ?_
  rintro r w1 ⟨rfl, rfl⟩
  rw [HS.out]
  obtain ⟨W1, hW1⟩ : ∃ W1, w'.alloc (.cells #[.int .u64 (hiT i), .int .u64 (loT i), .int .i64 s] 84) = W1 := ⟨_, rfl⟩
  have k0 : W1.cell? ⟨w'.heap.size, 0, none⟩ = some (.int .u64 (hiT i)) := by rw [← hW1]; simp
  have k1 : W1.cell? ⟨w'.heap.size, 1, none⟩ = some (.int .u64 (loT i)) := by rw [← hW1]; simp
  have k2 : W1.cell? ⟨w'.heap.size, 2, none⟩ = some (.int .i64 s) := by rw [← hW1]; simp
  have hb1 : Below w'.heap.size w' W1 := by rw [← hW1]; exact (Below.refl _ _).alloc (Nat.le_refl _) _
  rw [hW1]
  clear hW1
  have HU1 := hid (uscale_as mn (hiT i) (loT i) s u1 w'.heap.size W1 hmn2 hT2.1 hT2.2 hs64 EU1.out k0 k1 k2)
  go_wp2_with fail
  refine HU1.out.mono ?_
  rintro r W2 ⟨rfl, q1, hq1⟩
  have k0' : W2.cell? ⟨w'.heap.size, 0, none⟩ = some (.int .u64 (hiT i)) := by rw [hq1]; exact k0
  have k1' : W2.cell? ⟨w'.heap.size, 1, none⟩ = some (.int .u64 (loT i)) := by rw [hq1]; exact k1
  have k2' : W2.cell? ⟨w'.heap.size, 2, none⟩ = some (.int .i64 s) := by rw [hq1]; exact k2
  have hb2 : Below w'.heap.size w' W2 := by rw [hq1]; exact below_drewN hb1 q1
  clear hq1 k0 k1 k2 hb1 HU1
  have HU2 := hid (uscale_as mx (hiT i) (loT i) s u2 w'.heap.size W2 hmx2 hT2.1 hT2.2 hs64 EU2.out k0' k1' k2')
  go_wp2_with fail
  refine (nudge_any _ _ _).mono ?_
  rintro r w3 ⟨rfl, rfl⟩
  go_wp2_with fail
  refine (ceil_any _ _).mono ?_
  rintro r w3 ⟨rfl, rfl⟩
  rw [EDMIN.out]
  go_wp2_with fail
  refine HU2.out.mono ?_
  rintro r W4 ⟨rfl, q2, hq2⟩
  have j0 : W4.cell? ⟨w'.heap.size, 0, none⟩ = some (.int .u64 (hiT i)) := by rw [hq2]; exact k0'
  have j1 : W4.cell? ⟨w'.heap.size, 1, none⟩ = some (.int .u64 (loT i)) := by rw [hq2]; exact k1'
  have j2 : W4.cell? ⟨w'.heap.size, 2, none⟩ = some (.int .i64 s) := by rw [hq2]; exact k2'
  have hb4 : Below w'.heap.size w' W4 := by rw [hq2]; exact below_drewN hb2 q2
  clear hq2 k0' k1' k2' hb2 HU2
  go_wp2_with fail
  refine (nudge_any _ _ _).mono ?_
  rintro r w5 ⟨rfl, rfl⟩
  go_wp2_with fail
  refine (floor_any _ _ (by omega) (by omega)).mono ?_
  rintro r w6 ⟨rfl, rfl⟩
  rw [EDMAX.out]
  by_cases hA : dmin ≤ dmax / 10 * 10
  · have HR := hid (show pickD dmin dmax (rnd u3) ((i : Int) - 348) = (dmax / 10, -(((i : Int) - 348) - 1)) by unfold pickD; rw [if_pos hA])
    go_wp2
    go_ret2
    exact ⟨⟨_, _, HR.out, rfl⟩, hb4⟩
  · by_cases hB : dmin < dmax
    · have HR := hid (show pickD dmin dmax (rnd u3) ((i : Int) - 348) = (rnd u3, -((i : Int) - 348)) by unfold pickD; rw [if_neg hA, if_pos hB])
      have HU3 := hid (uscale_as m (hiT i) (loT i) s u3 w'.heap.size _ hm2 hT2.1 hT2.2 hs64 EU3.out j0 j1 j2)
      go_wp2_with fail
      refine HU3.out.mono ?_
      rintro r W7 ⟨rfl, q3, hq3⟩
      have hb7 : Below w'.heap.size w' W7 := by rw [hq3]; exact below_drewN hb4 q3
      clear hq3
      go_wp2_with fail
      refine (round_any _ _ (by omega) (by omega)).mono ?_
      rintro r w8 ⟨rfl, rfl⟩
      rw [rnd_cast]
      go_wp2
      go_ret2
      exact ⟨⟨_, _, HR.out, rfl⟩, hb7⟩
    · have HR := hid (show pickD dmin dmax (rnd u3) ((i : Int) - 348) = (dmin, -((i : Int) - 348)) by unfold pickD; rw [if_neg hA, if_neg hB])
      go_wp2
      go_ret2
      exact ⟨⟨_, _, HR.out, rfl⟩, hb4⟩

set_option maxHeartbeats 600000 in
theorem short_edge (m mn mx i od u1 u2 u3 dmin dmax : Nat) (e : Int) (s : Nat) (w : World) (hm1 : 9223372036854775808 = m) (hm2 : m < 18446744073709551616) (hmn2 : mn < 18446744073709551616) (hmn : (m : Int) - 1024 = mn) (hmx : (m : Int) + 1024 = mx) (hmx2 : mx < 18446744073709551616) (he : -1085 ≤ e) (he2 : e ≤ -1085)
    (hp : -((e + 11) * 78913 / 262144) = (i : Int) - 348) (hod : bits .and .i64 ((m : Int) / 2048) 1 = (od : Int)) (odl : od ≤ 1)
    (hi : i < 696) (hs : -(e + ((i : Int) - 348) * 108853 / 32768 + 3) = s) (hs64 : s < 64) (h3 : 3 < w.heap.size) (hT : PowTab w) (hT2 : hiT i < 18446744073709551616 ∧ loT i < 18446744073709551616)
    (hu1 : usc mn (hiT i) (loT i) s = u1) (hu2 : usc mx (hiT i) (loT i) s = u2) (hu3 : usc m (hiT i) (loT i) s = u3) (hdmin : dMin u1 od = dmin) (hdmax : dMax u2 od = dmax) :
    Calls Tryd.prog 42 #[.int .u64 m, .int .i64 e] w fun r w' => (∃ d p, pickD dmin dmax (rnd u3) ((i : Int) - 348) = (d, p) ∧ r = .returned (.tuple #[.int .u64 d, .int .i64 p])) ∧ Below w.heap.size w w' := by
  have ne : ((m : Int) == 9223372036854775808) = true := beq_iff_eq.2 (by omega)
  have ne2 : decide (-1085 < e) = false := decide_eq_false (by omega)
  have HL := hid fun (x : Int) (w : World) (h1 : -100000 ≤ x) (h2 : x ≤ 100000) => log10Pow2_any x w h1 h2
  have lu1 : u1 < 18446744073709551616 := by rw [← hu1]; exact usc_lt _ _ _ _ hmn2 hT2.1
  have lu2 : u2 < 18446744073709551616 := by rw [← hu2]; exact usc_lt _ _ _ _ hmx2 hT2.1
  have lu3 : u3 < 18446744073709551616 := by rw [← hu3]; exact usc_lt _ _ _ _ hm2 hT2.1
  have hd1 : dmin < 4611686018427387904 := by rw [← hdmin]; unfold dMin; omega
  have hd2 : dmax < 4611686018427387904 := by rw [← hdmax]; unfold dMax; omega
  have EDMIN := hid (show (((u1 : Int) + od) % 18446744073709551616 + 3) % 18446744073709551616 / 4 = (dmin : Int) from by rw [← hdmin]; unfold dMin; omega)
  have EDMAX := hid (show ((u2 : Int) + -(od : Int)) % 18446744073709551616 / 4 = (dmax : Int) from by rw [← hdmax]; unfold dMax; omega)
  have EU1 := hid hu1
  have EU2 := hid hu2
  have EU3 := hid hu3
  have HS := hid hs
  have HT := hid hT
  have HP := hid hp
  have HOD := hid hod
  have HMN := hid hmn
  have HMX := hid hmx
  clear hp hs hod hT hmn hmx hu1 hu2 hu3 hdmin hdmax
  go_enter Tryd.func42, Tryd.ntmps42
  go_wp2_with (go_at_call 37; refine (HL.out _ _ (by omega) (by omega)).mono ?_; rintro r w' ⟨rfl, rfl⟩)
  rw [HP.out, HMN.out, HMX.out, HOD.out]
  refine (log2Pow10_any _ _ (by omega) (by omega)).mono ?_
  rintro r w1 ⟨rfl, rfl⟩
  go_wp2_with fail
  refine (prescale_any i _ _ _ hi (by omega) (by omega) (by omega) HT.out).mono ?_
  rintro r w1 ⟨rfl, rfl⟩
  rw [HS.out]
  obtain ⟨W1, hW1⟩ : ∃ W1, w'.alloc (.cells #[.int .u64 (hiT i), .int .u64 (loT i), .int .i64 s] 84) = W1 := ⟨_, rfl⟩
  have k0 : W1.cell? ⟨w'.heap.size, 0, none⟩ = some (.int .u64 (hiT i)) := by rw [← hW1]; simp
  have k1 : W1.cell? ⟨w'.heap.size, 1, none⟩ = some (.int .u64 (loT i)) := by rw [← hW1]; simp
  have k2 : W1.cell? ⟨w'.heap.size, 2, none⟩ = some (.int .i64 s) := by rw [← hW1]; simp
  have hb1 : Below w'.heap.size w' W1 := by rw [← hW1]; exact (Below.refl _ _).alloc (Nat.le_refl _) _
  rw [hW1]
  clear hW1
  have HU1 := hid (uscale_as mn (hiT i) (loT i) s u1 w'.heap.size W1 hmn2 hT2.1 hT2.2 hs64 EU1.out k0 k1 k2)
  go_wp2_with fail
  refine HU1.out.mono ?_
  rintro r W2 ⟨rfl, q1, hq1⟩
  have k0' : W2.cell? ⟨w'.heap.size, 0, none⟩ = some (.int .u64 (hiT i)) := by rw [hq1]; exact k0
  have k1' : W2.cell? ⟨w'.heap.size, 1, none⟩ = some (.int .u64 (loT i)) := by rw [hq1]; exact k1
  have k2' : W2.cell? ⟨w'.heap.size, 2, none⟩ = some (.int .i64 s) := by rw [hq1]; exact k2
  have hb2 : Below w'.heap.size w' W2 := by rw [hq1]; exact below_drewN hb1 q1
  clear hq1 k0 k1 k2 hb1 HU1
  have HU2 := hid (uscale_as mx (hiT i) (loT i) s u2 w'.heap.size W2 hmx2 hT2.1 hT2.2 hs64 EU2.out k0' k1' k2')
  go_wp2_with fail
  refine (nudge_any _ _ _).mono ?_
  rintro r w3 ⟨rfl, rfl⟩
  go_wp2_with fail
  refine (ceil_any _ _).mono ?_
  rintro r w3 ⟨rfl, rfl⟩
  rw [EDMIN.out]
  go_wp2_with fail
  refine HU2.out.mono ?_
  rintro r W4 ⟨rfl, q2, hq2⟩
  have j0 : W4.cell? ⟨w'.heap.size, 0, none⟩ = some (.int .u64 (hiT i)) := by rw [hq2]; exact k0'
  have j1 : W4.cell? ⟨w'.heap.size, 1, none⟩ = some (.int .u64 (loT i)) := by rw [hq2]; exact k1'
  have j2 : W4.cell? ⟨w'.heap.size, 2, none⟩ = some (.int .i64 s) := by rw [hq2]; exact k2'
  have hb4 : Below w'.heap.size w' W4 := by rw [hq2]; exact below_drewN hb2 q2
  clear hq2 k0' k1' k2' hb2 HU2
  go_wp2_with fail
  refine (nudge_any _ _ _).mono ?_
  rintro r w5 ⟨rfl, rfl⟩
  go_wp2_with fail
  refine (floor_any _ _ (by omega) (by omega)).mono ?_
  rintro r w6 ⟨rfl, rfl⟩
  rw [EDMAX.out]
  by_cases hA : dmin ≤ dmax / 10 * 10
  · have HR := hid (show pickD dmin dmax (rnd u3) ((i : Int) - 348) = (dmax / 10, -(((i : Int) - 348) - 1)) by unfold pickD; rw [if_pos hA])
    go_wp2
    go_ret2
    exact ⟨⟨_, _, HR.out, rfl⟩, hb4⟩
  · by_cases hB : dmin < dmax
    · have HR := hid (show pickD dmin dmax (rnd u3) ((i : Int) - 348) = (rnd u3, -((i : Int) - 348)) by unfold pickD; rw [if_neg hA, if_pos hB])
      have HU3 := hid (uscale_as m (hiT i) (loT i) s u3 w'.heap.size _ hm2 hT2.1 hT2.2 hs64 EU3.out j0 j1 j2)
      go_wp2_with fail
      refine HU3.out.mono ?_
      rintro r W7 ⟨rfl, q3, hq3⟩
      have hb7 : Below w'.heap.size w' W7 := by rw [hq3]; exact below_drewN hb4 q3
      clear hq3
      go_wp2_with fail
      refine (round_any _ _ (by omega) (by omega)).mono ?_
      rintro r w8 ⟨rfl, rfl⟩
      rw [rnd_cast]
      go_wp2
      go_ret2
      exact ⟨⟨_, _, HR.out, rfl⟩, hb7⟩
    · have HR := hid (show pickD dmin dmax (rnd u3) ((i : Int) - 348) = (dmin, -((i : Int) - 348)) by unfold pickD; rw [if_neg hA, if_neg hB])
      go_wp2
      go_ret2
      exact ⟨⟨_, _, HR.out, rfl⟩, hb4⟩

set_option maxHeartbeats 600000 in
theorem short_skew (m mn mx i od u1 u2 u3 dmin dmax : Nat) (e : Int) (s : Nat) (w : World) (hm1 : 9223372036854775808 = m) (hm2 : m < 18446744073709551616) (hmn2 : mn < 18446744073709551616) (hmn : (m : Int) - 512 = mn) (hmx : (m : Int) + 1024 = mx) (hmx2 : mx < 18446744073709551616) (he : -1085 < e) (he2 : e ≤ 960)
    (hp : -(((e + 11) * 631305 - 261663) / 2097152) = (i : Int) - 348) (hod : bits .and .i64 ((m : Int) / 2048) 1 = (od : Int)) (odl : od ≤ 1)
    (hi : i < 696) (hs : -(e + ((i : Int) - 348) * 108853 / 32768 + 3) = s) (hs64 : s < 64) (h3 : 3 < w.heap.size) (hT : PowTab w) (hT2 : hiT i < 18446744073709551616 ∧ loT i < 18446744073709551616)
    (hu1 : usc mn (hiT i) (loT i) s = u1) (hu2 : usc mx (hiT i) (loT i) s = u2) (hu3 : usc m (hiT i) (loT i) s = u3) (hdmin : dMin u1 od = dmin) (hdmax : dMax u2 od = dmax) :
    Calls Tryd.prog 42 #[.int .u64 m, .int .i64 e] w fun r w' => (∃ d p, pickD dmin dmax (rnd u3) ((i : Int) - 348) = (d, p) ∧ r = .returned (.tuple #[.int .u64 d, .int .i64 p])) ∧ Below w.heap.size w w' := by
  have ne : ((m : Int) == 9223372036854775808) = true := beq_iff_eq.2 (by omega)
  have HL := hid fun (x : Int) (w : World) (h1 : -100000 ≤ x) (h2 : x ≤ 100000) => skewed_any x w h1 h2
  have lu1 : u1 < 18446744073709551616 := by rw [← hu1]; exact usc_lt _ _ _ _ hmn2 hT2.1
  have lu2 : u2 < 18446744073709551616 := by rw [← hu2]; exact usc_lt _ _ _ _ hmx2 hT2.1
  have lu3 : u3 < 18446744073709551616 := by rw [← hu3]; exact usc_lt _ _ _ _ hm2 hT2.1
  have hd1 : dmin < 4611686018427387904 := by rw [← hdmin]; unfold dMin; omega
  have hd2 : dmax < 4611686018427387904 := by rw [← hdmax]; unfold dMax; omega
  have EDMIN := hid (show (((u1 : Int) + od) % 18446744073709551616 + 3) % 18446744073709551616 / 4 = (dmin : Int) from by rw [← hdmin]; unfold dMin; omega)
  have EDMAX := hid (show ((u2 : Int) + -(od : Int)) % 18446744073709551616 / 4 = (dmax : Int) from by rw [← hdmax]; unfold dMax; omega)
  have EU1 := hid hu1
  have EU2 := hid hu2
  have EU3 := hid hu3
  have HS := hid hs
  have HT := hid hT
  have HP := hid hp
  have HOD := hid hod
  have HMN := hid hmn
  have HMX := hid hmx
  clear hp hs hod hT hmn hmx hu1 hu2 hu3 hdmin hdmax
  go_enter Tryd.func42, Tryd.ntmps42
  go_wp2_with (go_at_call 46; refine (HL.out _ _ (by omega) (by omega)).mono ?_; rintro r w' ⟨rfl, rfl⟩)
  rw [HP.out, HMN.out, HMX.out, HOD.out]
  refine (log2Pow10_any _ _ (by omega) (by omega)).mono ?_
  rintro r w1 ⟨rfl, rfl⟩
  go_wp2_with fail
  refine (prescale_any i _ _ _ hi (by omega) (by omega) (by omega) HT.out).mono ?_
  rintro r w1 ⟨rfl, rfl⟩
  rw [HS.out]
  obtain ⟨W1, hW1⟩ : ∃ W1, w'.alloc (.cells #[.int .u64 (hiT i), .int .u64 (loT i), .int .i64 s] 84) = W1 := ⟨_, rfl⟩
  have k0 : W1.cell? ⟨w'.heap.size, 0, none⟩ = some (.int .u64 (hiT i)) := by rw [← hW1]; simp
  have k1 : W1.cell? ⟨w'.heap.size, 1, none⟩ = some (.int .u64 (loT i)) := by rw [← hW1]; simp
  have k2 : W1.cell? ⟨w'.heap.size, 2, none⟩ = some (.int .i64 s) := by rw [← hW1]; simp
  have hb1 : Below w'.heap.size w' W1 := by rw [← hW1]; exact (Below.refl _ _).alloc (Nat.le_refl _) _
  rw [hW1]
  clear hW1
  have HU1 := hid (uscale_as mn (hiT i) (loT i) s u1 w'.heap.size W1 hmn2 hT2.1 hT2.2 hs64 EU1.out k0 k1 k2)
  go_wp2_with fail
  refine HU1.out.mono ?_
  rintro r W2 ⟨rfl, q1, hq1⟩
  have k0' : W2.cell? ⟨w'.heap.size, 0, none⟩ = some (.int .u64 (hiT i)) := by rw [hq1]; exact k0
  have k1' : W2.cell? ⟨w'.heap.size, 1, none⟩ = some (.int .u64 (loT i)) := by rw [hq1]; exact k1
  have k2' : W2.cell? ⟨w'.heap.size, 2, none⟩ = some (.int .i64 s) := by rw [hq1]; exact k2
  have hb2 : Below w'.heap.size w' W2 := by rw [hq1]; exact below_drewN hb1 q1
  clear hq1 k0 k1 k2 hb1 HU1
  have HU2 := hid (uscale_as mx (hiT i) (loT i) s u2 w'.heap.size W2 hmx2 hT2.1 hT2.2 hs64 EU2.out k0' k1' k2')
  go_wp2_with fail
  refine (nudge_any _ _ _).mono ?_
  rintro r w3 ⟨rfl, rfl⟩
  go_wp2_with fail
  refine (ceil_any _ _).mono ?_
  rintro r w3 ⟨rfl, rfl⟩
  rw [EDMIN.out]
  go_wp2_with fail
  refine HU2.out.mono ?_
  rintro r W4 ⟨rfl, q2, hq2⟩
  have j0 : W4.cell? ⟨w'.heap.size, 0, none⟩ = some (.int .u64 (hiT i)) := by rw [hq2]; exact k0'
  have j1 : W4.cell? ⟨w'.heap.size, 1, none⟩ = some (.int .u64 (loT i)) := by rw [hq2]; exact k1'
  have j2 : W4.cell? ⟨w'.heap.size, 2, none⟩ = some (.int .i64 s) := by rw [hq2]; exact k2'
  have hb4 : Below w'.heap.size w' W4 := by rw [hq2]; exact below_drewN hb2 q2
  clear hq2 k0' k1' k2' hb2 HU2
  go_wp2_with fail
  refine (nudge_any _ _ _).mono ?_
  rintro r w5 ⟨rfl, rfl⟩
  go_wp2_with fail
  refine (floor_any _ _ (by omega) (by omega)).mono ?_
  rintro r w6 ⟨rfl, rfl⟩
  rw [EDMAX.out]
  by_cases hA : dmin ≤ dmax / 10 * 10
  · have HR := hid (show pickD dmin dmax (rnd u3) ((i : Int) - 348) = (dmax / 10, -(((i : Int) - 348) - 1)) by unfold pickD; rw [if_pos hA])
    go_wp2
    go_ret2
    exact ⟨⟨_, _, HR.out, rfl⟩, hb4⟩
  · by_cases hB : dmin < dmax
    · have HR := hid (show pickD dmin dmax (rnd u3) ((i : Int) - 348) = (rnd u3, -((i : Int) - 348)) by unfold pickD; rw [if_neg hA, if_pos hB])
      have HU3 := hid (uscale_as m (hiT i) (loT i) s u3 w'.heap.size _ hm2 hT2.1 hT2.2 hs64 EU3.out j0 j1 j2)
      go_wp2_with fail
      refine HU3.out.mono ?_
      rintro r W7 ⟨rfl, q3, hq3⟩
      have hb7 : Below w'.heap.size w' W7 := by rw [hq3]; exact below_drewN hb4 q3
      clear hq3
      go_wp2_with fail
      refine (round_any _ _ (by omega) (by omega)).mono ?_
      rintro r w8 ⟨rfl, rfl⟩
      rw [rnd_cast]
      go_wp2
      go_ret2
      exact ⟨⟨_, _, HR.out, rfl⟩, hb7⟩
    · have HR := hid (show pickD dmin dmax (rnd u3) ((i : Int) - 348) = (dmin, -((i : Int) - 348)) by unfold pickD; rw [if_neg hA, if_neg hB])
      go_wp2
      go_ret2
      exact ⟨⟨_, _, HR.out, rfl⟩, hb4⟩

set_option maxHeartbeats 600000 in
theorem short_subT (m mn mx i od u1 u2 u3 dmin dmax : Nat) (e : Int) (s : Nat) (w : World) (ne : ((m : Int) == 9223372036854775808) = true) (hm2 : m < 18446744073709551616) (hmn2 : mn < 18446744073709551616) (he1 : -1137 ≤ e) (he2 : e ≤ -1086)
    (hmn : IntKind.u64.wrap ((m : Int) - IntKind.u64.wrap (2 ^ ((11 + (-1085 - e)).toNat - 1))) = mn) (hmx : IntKind.u64.wrap ((m : Int) + IntKind.u64.wrap (2 ^ ((11 + (-1085 - e)).toNat - 1))) = mx) (hmx2 : mx < 18446744073709551616)
    (hp : -((e + (11 + (-1085 - e))) * 78913 / 262144) = (i : Int) - 348) (hod : bits .and .i64 (wrap64 ((m : Int) / 2 ^ (11 + (-1085 - e)).toNat)) 1 = (od : Int)) (odl : od ≤ 1)
    (hi : i < 696) (hs : -(e + ((i : Int) - 348) * 108853 / 32768 + 3) = s) (hs64 : s < 64) (h3 : 3 < w.heap.size) (hT : PowTab w) (hT2 : hiT i < 18446744073709551616 ∧ loT i < 18446744073709551616)
    (hu1 : usc mn (hiT i) (loT i) s = u1) (hu2 : usc mx (hiT i) (loT i) s = u2) (hu3 : usc m (hiT i) (loT i) s = u3) (hdmin : dMin u1 od = dmin) (hdmax : dMax u2 od = dmax) :
    Calls Tryd.prog 42 #[.int .u64 m, .int .i64 e] w fun r w' => (∃ d p, pickD dmin dmax (rnd u3) ((i : Int) - 348) = (d, p) ∧ r = .returned (.tuple #[.int .u64 d, .int .i64 p])) ∧ Below w.heap.size w w' := by
  have HL := hid fun (x : Int) (w : World) (h1 : -100000 ≤ x) (h2 : x ≤ 100000) => log10Pow2_any x w h1 h2
  have lu1 : u1 < 18446744073709551616 := by rw [← hu1]; exact usc_lt _ _ _ _ hmn2 hT2.1
  have lu2 : u2 < 18446744073709551616 := by rw [← hu2]; exact usc_lt _ _ _ _ hmx2 hT2.1
  have lu3 : u3 < 18446744073709551616 := by rw [← hu3]; exact usc_lt _ _ _ _ hm2 hT2.1
  have hd1 : dmin < 4611686018427387904 := by rw [← hdmin]; unfold dMin; omega
  have hd2 : dmax < 4611686018427387904 := by rw [← hdmax]; unfold dMax; omega
  have EDMIN := hid (show (((u1 : Int) + od) % 18446744073709551616 + 3) % 18446744073709551616 / 4 = (dmin : Int) from by rw [← hdmin]; unfold dMin; omega)
  have EDMAX := hid (show ((u2 : Int) + -(od : Int)) % 18446744073709551616 / 4 = (dmax : Int) from by rw [← hdmax]; unfold dMax; omega)
  have EU1 := hid hu1
  have EU2 := hid hu2
  have EU3 := hid hu3
  have HS := hid hs
  have HT := hid hT
  have HP := hid hp
  have HOD := hid hod
  have HMN := hid hmn
  have HMX := hid hmx
  clear hp hs hod hT hmn hmx hu1 hu2 hu3 hdmin hdmax
  go_enter Tryd.func42, Tryd.ntmps42
  go_wp2_with (go_at_call 37; refine (HL.out _ _ (by omega) (by omega)).mono ?_; rintro r w' ⟨rfl, rfl⟩)
  rw [HP.out, HMN.out, HMX.out, HOD.out]
  refine (log2Pow10_any _ _ (by omega) (by omega)).mono ?_
  rintro r w1 ⟨rfl, rfl⟩
  go_wp2_with fail
  refine (prescale_any i _ _ _ hi (by omega) (by omega) (by omega) HT.out).mono ?_
  rintro r w1 ⟨rfl, rfl⟩
  rw [HS.out]
  obtain ⟨W1, hW1⟩ : ∃ W1, w'.alloc (.cells #[.int .u64 (hiT i), .int .u64 (loT i), .int .i64 s] 84) = W1 := ⟨_, rfl⟩
  have k0 : W1.cell? ⟨w'.heap.size, 0, none⟩ = some (.int .u64 (hiT i)) := by rw [← hW1]; simp
  have k1 : W1.cell? ⟨w'.heap.size, 1, none⟩ = some (.int .u64 (loT i)) := by rw [← hW1]; simp
  have k2 : W1.cell? ⟨w'.heap.size, 2, none⟩ = some (.int .i64 s) := by rw [← hW1]; simp
  have hb1 : Below w'.heap.size w' W1 := by rw [← hW1]; exact (Below.refl _ _).alloc (Nat.le_refl _) _
  rw [hW1]
  clear hW1
  have HU1 := hid (uscale_as mn (hiT i) (loT i) s u1 w'.heap.size W1 hmn2 hT2.1 hT2.2 hs64 EU1.out k0 k1 k2)
  go_wp2_with fail
  refine HU1.out.mono ?_
  rintro r W2 ⟨rfl, q1, hq1⟩
  have k0' : W2.cell? ⟨w'.heap.size, 0, none⟩ = some (.int .u64 (hiT i)) := by rw [hq1]; exact k0
  have k1' : W2.cell? ⟨w'.heap.size, 1, none⟩ = some (.int .u64 (loT i)) := by rw [hq1]; exact k1
  have k2' : W2.cell? ⟨w'.heap.size, 2, none⟩ = some (.int .i64 s) := by rw [hq1]; exact k2
  have hb2 : Below w'.heap.size w' W2 := by rw [hq1]; exact below_drewN hb1 q1
  clear hq1 k0 k1 k2 hb1 HU1
  have HU2 := hid (uscale_as mx (hiT i) (loT i) s u2 w'.heap.size W2 hmx2 hT2.1 hT2.2 hs64 EU2.out k0' k1' k2')
  go_wp2_with fail
  refine (nudge_any _ _ _).mono ?_
  rintro r w3 ⟨rfl, rfl⟩
  go_wp2_with fail
  refine (ceil_any _ _).mono ?_
  rintro r w3 ⟨rfl, rfl⟩
  rw [EDMIN.out]
  go_wp2_with fail
  refine HU2.out.mono ?_
  rintro r W4 ⟨rfl, q2, hq2⟩
  have j0 : W4.cell? ⟨w'.heap.size, 0, none⟩ = some (.int .u64 (hiT i)) := by rw [hq2]; exact k0'
  have j1 : W4.cell? ⟨w'.heap.size, 1, none⟩ = some (.int .u64 (loT i)) := by rw [hq2]; exact k1'
  have j2 : W4.cell? ⟨w'.heap.size, 2, none⟩ = some (.int .i64 s) := by rw [hq2]; exact k2'
  have hb4 : Below w'.heap.size w' W4 := by rw [hq2]; exact below_drewN hb2 q2
  clear hq2 k0' k1' k2' hb2 HU2
  go_wp2_with fail
  refine (nudge_any _ _ _).mono ?_
  rintro r w5 ⟨rfl, rfl⟩
  go_wp2_with fail
  refine (floor_any _ _ (by omega) (by omega)).mono ?_
  rintro r w6 ⟨rfl, rfl⟩
  rw [EDMAX.out]
  by_cases hA : dmin ≤ dmax / 10 * 10
  · have HR := hid (show pickD dmin dmax (rnd u3) ((i : Int) - 348) = (dmax / 10, -(((i : Int) - 348) - 1)) by unfold pickD; rw [if_pos hA])
    go_wp2
    go_ret2
    exact ⟨⟨_, _, HR.out, rfl⟩, hb4⟩
  · by_cases hB : dmin < dmax
    · have HR := hid (show pickD dmin dmax (rnd u3) ((i : Int) - 348) = (rnd u3, -((i : Int) - 348)) by unfold pickD; rw [if_neg hA, if_pos hB])
      have HU3 := hid (uscale_as m (hiT i) (loT i) s u3 w'.heap.size _ hm2 hT2.1 hT2.2 hs64 EU3.out j0 j1 j2)
      go_wp2_with fail
      refine HU3.out.mono ?_
      rintro r W7 ⟨rfl, q3, hq3⟩
      have hb7 : Below w'.heap.size w' W7 := by rw [hq3]; exact below_drewN hb4 q3
      clear hq3
      go_wp2_with fail
      refine (round_any _ _ (by omega) (by omega)).mono ?_
      rintro r w8 ⟨rfl, rfl⟩
      rw [rnd_cast]
      go_wp2
      go_ret2
      exact ⟨⟨_, _, HR.out, rfl⟩, hb7⟩
    · have HR := hid (show pickD dmin dmax (rnd u3) ((i : Int) - 348) = (dmin, -((i : Int) - 348)) by unfold pickD; rw [if_neg hA, if_neg hB])
      go_wp2
      go_ret2
      exact ⟨⟨_, _, HR.out, rfl⟩, hb4⟩

set_option maxHeartbeats 600000 in
theorem short_subF (m mn mx i od u1 u2 u3 dmin dmax : Nat) (e : Int) (s : Nat) (w : World) (ne : ((m : Int) == 9223372036854775808) = false) (hm2 : m < 18446744073709551616) (hmn2 : mn < 18446744073709551616) (he1 : -1137 ≤ e) (he2 : e ≤ -1086)
    (hmn : IntKind.u64.wrap ((m : Int) - IntKind.u64.wrap (2 ^ ((11 + (-1085 - e)).toNat - 1))) = mn) (hmx : IntKind.u64.wrap ((m : Int) + IntKind.u64.wrap (2 ^ ((11 + (-1085 - e)).toNat - 1))) = mx) (hmx2 : mx < 18446744073709551616)
    (hp : -((e + (11 + (-1085 - e))) * 78913 / 262144) = (i : Int) - 348) (hod : bits .and .i64 (wrap64 ((m : Int) / 2 ^ (11 + (-1085 - e)).toNat)) 1 = (od : Int)) (odl : od ≤ 1)
    (hi : i < 696) (hs : -(e + ((i : Int) - 348) * 108853 / 32768 + 3) = s) (hs64 : s < 64) (h3 : 3 < w.heap.size) (hT : PowTab w) (hT2 : hiT i < 18446744073709551616 ∧ loT i < 18446744073709551616)
    (hu1 : usc mn (hiT i) (loT i) s = u1) (hu2 : usc mx (hiT i) (loT i) s = u2) (hu3 : usc m (hiT i) (loT i) s = u3) (hdmin : dMin u1 od = dmin) (hdmax : dMax u2 od = dmax) :
    Calls Tryd.prog 42 #[.int .u64 m, .int .i64 e] w fun r w' => (∃ d p, pickD dmin dmax (rnd u3) ((i : Int) - 348) = (d, p) ∧ r = .returned (.tuple #[.int .u64 d, .int .i64 p])) ∧ Below w.heap.size w w' := by
  have HL := hid fun (x : Int) (w : World) (h1 : -100000 ≤ x) (h2 : x ≤ 100000) => log10Pow2_any x w h1 h2
  have lu1 : u1 < 18446744073709551616 := by rw [← hu1]; exact usc_lt _ _ _ _ hmn2 hT2.1
  have lu2 : u2 < 18446744073709551616 := by rw [← hu2]; exact usc_lt _ _ _ _ hmx2 hT2.1
  have lu3 : u3 < 18446744073709551616 := by rw [← hu3]; exact usc_lt _ _ _ _ hm2 hT2.1
  have hd1 : dmin < 4611686018427387904 := by rw [← hdmin]; unfold dMin; omega
  have hd2 : dmax < 4611686018427387904 := by rw [← hdmax]; unfold dMax; omega
  have EDMIN := hid (show (((u1 : Int) + od) % 18446744073709551616 + 3) % 18446744073709551616 / 4 = (dmin : Int) from by rw [← hdmin]; unfold dMin; omega)
  have EDMAX := hid (show ((u2 : Int) + -(od : Int)) % 18446744073709551616 / 4 = (dmax : Int) from by rw [← hdmax]; unfold dMax; omega)
  have EU1 := hid hu1
  have EU2 := hid hu2
  have EU3 := hid hu3
  have HS := hid hs
  have HT := hid hT
  have HP := hid hp
  have HOD := hid hod
  have HMN := hid hmn
  have HMX := hid hmx
  clear hp hs hod hT hmn hmx hu1 hu2 hu3 hdmin hdmax
  go_enter Tryd.func42, Tryd.ntmps42
  go_wp2_with (go_at_call 37; refine (HL.out _ _ (by omega) (by omega)).mono ?_; rintro r w' ⟨rfl, rfl⟩)
  rw [HP.out, HMN.out, HMX.out, HOD.out]
  refine (log2Pow10_any _ _ (by omega) (by omega)).mono ?_
  rintro r w1 ⟨rfl, rfl⟩
  go_wp2_with fail
  refine (prescale_any i _ _ _ hi (by omega) (by omega) (by omega) HT.out).mono ?_
  rintro r w1 ⟨rfl, rfl⟩
  rw [HS.out]
  obtain ⟨W1, hW1⟩ : ∃ W1, w'.alloc (.cells #[.int .u64 (hiT i), .int .u64 (loT i), .int .i64 s] 84) = W1 := ⟨_, rfl⟩
  have k0 : W1.cell? ⟨w'.heap.size, 0, none⟩ = some (.int .u64 (hiT i)) := by rw [← hW1]; simp
  have k1 : W1.cell? ⟨w'.heap.size, 1, none⟩ = some (.int .u64 (loT i)) := by rw [← hW1]; simp
  have k2 : W1.cell? ⟨w'.heap.size, 2, none⟩ = some (.int .i64 s) := by rw [← hW1]; simp
  have hb1 : Below w'.heap.size w' W1 := by rw [← hW1]; exact (Below.refl _ _).alloc (Nat.le_refl _) _
  rw [hW1]
  clear hW1
  have HU1 := hid (uscale_as mn (hiT i) (loT i) s u1 w'.heap.size W1 hmn2 hT2.1 hT2.2 hs64 EU1.out k0 k1 k2)
  go_wp2_with fail
  refine HU1.out.mono ?_
  rintro r W2 ⟨rfl, q1, hq1⟩
  have k0' : W2.cell? ⟨w'.heap.size, 0, none⟩ = some (.int .u64 (hiT i)) := by rw [hq1]; exact k0
  have k1' : W2.cell? ⟨w'.heap.size, 1, none⟩ = some (.int .u64 (loT i)) := by rw [hq1]; exact k1
  have k2' : W2.cell? ⟨w'.heap.size, 2, none⟩ = some (.int .i64 s) := by rw [hq1]; exact k2
  have hb2 : Below w'.heap.size w' W2 := by rw [hq1]; exact below_drewN hb1 q1
  clear hq1 k0 k1 k2 hb1 HU1
  have HU2 := hid (uscale_as mx (hiT i) (loT i) s u2 w'.heap.size W2 hmx2 hT2.1 hT2.2 hs64 EU2.out k0' k1' k2')
  go_wp2_with fail
  refine (nudge_any _ _ _).mono ?_
  rintro r w3 ⟨rfl, rfl⟩
  go_wp2_with fail
  refine (ceil_any _ _).mono ?_
  rintro r w3 ⟨rfl, rfl⟩
  rw [EDMIN.out]
  go_wp2_with fail
  refine HU2.out.mono ?_
  rintro r W4 ⟨rfl, q2, hq2⟩
  have j0 : W4.cell? ⟨w'.heap.size, 0, none⟩ = some (.int .u64 (hiT i)) := by rw [hq2]; exact k0'
  have j1 : W4.cell? ⟨w'.heap.size, 1, none⟩ = some (.int .u64 (loT i)) := by rw [hq2]; exact k1'
  have j2 : W4.cell? ⟨w'.heap.size, 2, none⟩ = some (.int .i64 s) := by rw [hq2]; exact k2'
  have hb4 : Below w'.heap.size w' W4 := by rw [hq2]; exact below_drewN hb2 q2
  clear hq2 k0' k1' k2' hb2 HU2
  go_wp2_with fail
  refine (nudge_any _ _ _).mono ?_
  rintro r w5 ⟨rfl, rfl⟩
  go_wp2_with fail
  refine (floor_any _ _ (by omega) (by omega)).mono ?_
  rintro r w6 ⟨rfl, rfl⟩
  rw [EDMAX.out]
  by_cases hA : dmin ≤ dmax / 10 * 10
  · have HR := hid (show pickD dmin dmax (rnd u3) ((i : Int) - 348) = (dmax / 10, -(((i : Int) - 348) - 1)) by unfold pickD; rw [if_pos hA])
    go_wp2
    go_ret2
    exact ⟨⟨_, _, HR.out, rfl⟩, hb4⟩
  · by_cases hB : dmin < dmax
    · have HR := hid (show pickD dmin dmax (rnd u3) ((i : Int) - 348) = (rnd u3, -((i : Int) - 348)) by unfold pickD; rw [if_neg hA, if_pos hB])
      have HU3 := hid (uscale_as m (hiT i) (loT i) s u3 w'.heap.size _ hm2 hT2.1 hT2.2 hs64 EU3.out j0 j1 j2)
      go_wp2_with fail
      refine HU3.out.mono ?_
      rintro r W7 ⟨rfl, q3, hq3⟩
      have hb7 : Below w'.heap.size w' W7 := by rw [hq3]; exact below_drewN hb4 q3
      clear hq3
      go_wp2_with fail
      refine (round_any _ _ (by omega) (by omega)).mono ?_
      rintro r w8 ⟨rfl, rfl⟩
      rw [rnd_cast]
      go_wp2
      go_ret2
      exact ⟨⟨_, _, HR.out, rfl⟩, hb7⟩
    · have HR := hid (show pickD dmin dmax (rnd u3) ((i : Int) - 348) = (dmin, -((i : Int) - 348)) by unfold pickD; rw [if_neg hA, if_neg hB])
      go_wp2
      go_ret2
      exact ⟨⟨_, _, HR.out, rfl⟩, hb4⟩
end Go.Proofs.Qxb6603897aDoor
