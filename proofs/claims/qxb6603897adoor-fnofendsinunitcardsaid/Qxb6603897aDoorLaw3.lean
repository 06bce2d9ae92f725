/-
  The walks of qb1Copy, qb1EndsInOne, zzBytes and law 3.
-/
import Derived.Test.Qxb6603897aDoorEql
namespace Go.Proofs.Qxb6603897aDoor
open Go.RowKit Ieee

@[go_sem] theorem run_store_float {P : Program} {w : World} {a : Addr} {m : Mode} (k : FloatKind) (b : Nat) : (store a (.float k b) m).run P w = stored P w a (.float k b) m := run_store P w a _ m rfl
theorem new_pt (w : World) (b : Nat) (hb : b < 18446744073709551616) : Pt (w.alloc (.cells #[.float .f64 b] 22)) (some ⟨w.heap.size, 0, none⟩) (some b) := ⟨by simp, by simp, hb⟩

theorem new_pt2 (w : World) (o : Obj) (b : Nat) (hb : b < 18446744073709551616) : Pt ((w.alloc (.cells #[.float .f64 b] 22)).alloc o) (some ⟨w.heap.size, 0, none⟩) (some b) :=
  (new_pt w b hb).below ((Below.refl _ _).alloc (Nat.le_refl _) _)
theorem new_pt3 (w : World) (o : Obj) (b : Nat) (hb : b < 18446744073709551616) : Pt ((w.alloc o).alloc (.cells #[.float .f64 b] 22)) (some ⟨w.heap.size + 1, 0, none⟩) (some b) := by
  have := new_pt (w.alloc o) b hb
  simpa using this
theorem Pt.drew {w : World} {p : Option Addr} {m : Option Nat} (h : Pt w p m) : Pt w.drew p m := h.below (Below.refl _ _).drew

set_option maxRecDepth 20000 in
set_option maxHeartbeats 1000000 in
theorem copy_any (p1 p2 : Option Addr) (m1 m2 : Option Nat) (w : World) (h1 : Pt w p1 m1) (h2 : Pt w p2 m2) (hf : ∀ a, p1 = some a → w.frozen? a = false) :
    Calls Tryd.prog 9 #[.pointer p1, .pointer p2] w fun r w' => ∃ q1 q2 n1 n2, r = .returned (.tuple #[.pointer q1, .pointer q2]) ∧ Pt w' q1 n1 ∧ Pt w' q2 n2 ∧ (m1 ≠ none ∨ m2 ≠ none → n1 ≠ none ∨ n2 ≠ none) ∧ Below w.heap.size w w' := by
  match p1, m1, h1, p2, m2, h2 with
  | none, none, _, none, none, _ =>
    go_enter Tryd.func9, Tryd.ntmps9
    go_wp2
    go_ret2
    exact ⟨none, none, none, none, rfl, trivial, trivial, id, Below.refl _ _⟩
  | some a1, some b1, ⟨c1, l1, k1⟩, none, none, _ =>
    go_enter Tryd.func9, Tryd.ntmps9
    go_wp2
    go_ret2
    exact ⟨some ⟨w.heap.size, 0, none⟩, none, some b1, none, rfl, new_pt w b1 k1, trivial, id, (Below.refl _ _).alloc (Nat.le_refl _) _⟩
  | none, none, _, some a2, some b2, ⟨c2, l2, k2⟩ =>
    go_enter Tryd.func9, Tryd.ntmps9
    go_wp2
    go_ret2
    exact ⟨none, some ⟨w.heap.size, 0, none⟩, none, some b2, rfl, trivial, new_pt w b2 k2, id, (Below.refl _ _).alloc (Nat.le_refl _) _⟩
  | some a1, some b1, ⟨c1, l1, k1⟩, some a2, some b2, ⟨c2, l2, k2⟩ =>
    have hc1 : (w.alloc (.cells #[.float .f64 b1] 22)).cell? a1 = some (.float .f64 b1) := by rw [World.cell?_alloc_lt _ _ _ l1]; exact c1
    have hc2 : (w.alloc (.cells #[.float .f64 b1] 22)).cell? a2 = some (.float .f64 b2) := by rw [World.cell?_alloc_lt _ _ _ l2]; exact c2
    have hf1 : (w.alloc (.cells #[.float .f64 b1] 22)).frozen? a1 = false := by
      rw [((Below.refl w.heap.size w).alloc (Nat.le_refl _) _).frozen l1]
      exact hf a1 rfl
    obtain ⟨c, w', hr, hw'⟩ := eql_ptr a2 a1 _ _ _ hc2 hc1 hf1
    have HB := hid ((Below.refl w.heap.size w).alloc (Nat.le_refl _) (.cells #[.float .f64 b1] 22))
    clear hf1 hf hc1
    cases c
    · rcases hw' with rfl | rfl
      · go_enter Tryd.func9, Tryd.ntmps9
        go_wp2
        go_ret2
        exact ⟨some ⟨w.heap.size, 0, none⟩, some ⟨w.heap.size + 1, 0, none⟩, some b1, some b2, rfl, new_pt2 w _ b1 k1, new_pt3 w _ b2 k2, id, HB.out.alloc (by simp) _⟩
      · go_enter Tryd.func9, Tryd.ntmps9
        go_wp2
        go_ret2
        exact ⟨some ⟨w.heap.size, 0, none⟩, some ⟨w.heap.size + 1, 0, none⟩, some b1, some b2, rfl, (new_pt2 w _ b1 k1).drew, (new_pt3 w _ b2 k2).drew, id, (HB.out.alloc (by simp) _).drew⟩
    · rcases hw' with rfl | rfl
      · go_enter Tryd.func9, Tryd.ntmps9
        go_wp2
        go_ret2
        exact ⟨some ⟨w.heap.size, 0, none⟩, some ⟨w.heap.size, 0, none⟩, some b1, some b1, rfl, new_pt w b1 k1, new_pt w b1 k1, fun _ => .inl (by simp), HB.out⟩
      · go_enter Tryd.func9, Tryd.ntmps9
        go_wp2
        go_ret2
        exact ⟨some ⟨w.heap.size, 0, none⟩, some ⟨w.heap.size, 0, none⟩, some b1, some b1, rfl, (new_pt w b1 k1).drew, (new_pt w b1 k1).drew, fun _ => .inl (by simp), HB.out.drew⟩

theorem u8_beq (y : UInt8) : ((((y.toNat : Nat) : Int)) == 49) = (y == 49) := by
  by_cases h : y = 49
  · subst h; rfl
  · rw [beq_eq_false_iff_ne.2 h]
    refine beq_eq_false_iff_ne.2 (fun e => h (UInt8.toNat_inj.1 ?_))
    rw [show (49 : UInt8).toNat = 49 from rfl]
    omega
set_option maxHeartbeats 1000000 in
theorem ends_any (s : ByteArray) (n : Nat) (x y : UInt8) (w : World) (hn : s.size = n + 2) (hN : n < 100000) (hx : s.data[n]? = some x) (hy : s.data[n + 1]? = some y) :
    Calls Tryd.prog 11 #[.string s] w fun r w' => r = .returned (.bool (x == 32 && y == 49)) ∧ w' = w := by
  have e1 : ∀ h : n < s.size, s[n]'h = x := fun h => by
    have : s.data[n]? = some (s.data[n]'h) := Array.getElem?_eq_getElem h
    rw [hx] at this
    exact (Option.some.inj this).symm
  have e2 : ∀ h : n + 1 < s.size, s[n + 1]'h = y := fun h => by
    have : s.data[n + 1]? = some (s.data[n + 1]'h) := Array.getElem?_eq_getElem h
    rw [hy] at this
    exact (Option.some.inj this).symm
  have z : ((n : Int) + 2 - 1).toNat = n + 1 := by omega
  go_enter Tryd.func11, Tryd.ntmps11
  go_wp2
  · have hx0 : x = 32 := UInt8.toNat_inj.1 (by rw [show (32 : UInt8).toNat = 32 from rfl]; omega)
    go_ret
    refine ⟨?_, rfl⟩
    subst hx0
    show Ending.returned (.bool (((y.toNat : Nat) : Int) == 49)) = _
    rw [u8_beq]
    rfl
  · have hx0 : (x == 32) = false := beq_eq_false_iff_ne.2 (fun e => by subst e; contradiction)
    go_ret
    refine ⟨?_, rfl⟩
    rw [hx0]
    rfl

theorem bytes_any (v1 v2 v3 v4 : Value) (u : ByteArray) (w : World) (hs : u.size ≤ maxLen) :
    Calls Tryd.prog 8 #[v1, v2, v3, v4, .string u] w fun r w' => r = .returned (.bool (decide (u.size ≤ 1048576))) ∧ w' = w := by
  unfold maxLen at hs
  by_cases h : u.size ≤ 1048576
  · rw [decide_eq_true h]
    go_enter Tryd.func8, Tryd.ntmps8
    go_wp2
    go_ret
    exact ⟨rfl, rfl⟩
  · rw [decide_eq_false h]
    go_enter Tryd.func8, Tryd.ntmps8
    go_wp2
    go_ret
    exact ⟨rfl, rfl⟩

theorem byte_ne (c : Int) (h : okB c) : (UInt8.ofNat c.toNat == 32) = false := by
  refine beq_eq_false_iff_ne.2 (fun e => ?_)
  have := congrArg UInt8.toNat e
  unfold okB at h
  simp at this
  omega
theorem byte_one (c : Int) (h : okB c) : (UInt8.ofNat c.toNat == 49) = decide (c = 49) := by
  by_cases e : c = 49
  · subst e; rfl
  · rw [decide_eq_false e]
    refine beq_eq_false_iff_ne.2 (fun e' => e ?_)
    have := congrArg UInt8.toNat e'
    unfold okB at h
    simp at this
    omega

/-- The last two bytes of a span. -/
theorem ends_span (s : ByteArray) (P : List UInt8) (c : Nat) (pl : Bool) (hs : s.data.toList = P ++ 32 :: (T c).data.toList) (hsz : s.size ≤ 7000) (hpl : (textOf c = [49]) ↔ pl = false) :
    ∃ n x y, s.size = n + 2 ∧ n < 100000 ∧ s.data[n]? = some x ∧ s.data[n + 1]? = some y ∧ (x == 32 && y == 49) = !pl := by
  have ht : (T c).data.toList = (textOf c).map fun n => UInt8.ofNat n.toNat := rfl
  have hok := text_ok c
  have hlen := text_len c
  rw [ht] at hs
  have hl := congrArg List.length hs
  rw [← size_len] at hl
  generalize textOf c = t at *
  simp only [List.length_append, List.length_cons, List.length_map] at hl
  have get : ∀ k : Nat, s.data[k]? = (P ++ 32 :: t.map fun n => UInt8.ofNat n.toNat)[k]? := fun k => by rw [← hs, Array.getElem?_toList]
  match t, hlen, hok, hl, get, hpl with
  | [], hlen, _, _, _, _ => simp at hlen
  | [a], _, hok, hl, get, hpl =>
    simp at hl
    have ha := hok a (by simp)
    refine ⟨P.length, 32, UInt8.ofNat a.toNat, by omega, by omega, ?_, ?_, ?_⟩
    · rw [get]; simp
    · rw [get]; simp
    · rw [byte_one a ha]
      cases pl
      · have : a = 49 := by simpa using hpl.2 rfl
        simp [this]
      · have : a ≠ 49 := fun e => by
          have := hpl.1 (by rw [e])
          cases this
        simp [this]
  | a :: b :: r, _, hok, hl, get, hpl =>
    obtain ⟨x, y, hx, hy, hxo⟩ : ∃ x y : Int, (a :: b :: r)[r.length]? = some x ∧ (a :: b :: r)[r.length + 1]? = some y ∧ okB x := by
      refine ⟨(a :: b :: r)[r.length]'(by simp; omega), (a :: b :: r)[r.length + 1]'(by simp), List.getElem?_eq_getElem _, List.getElem?_eq_getElem _, hok _ (List.getElem_mem _)⟩
    simp only [List.length_cons] at hl
    refine ⟨P.length + 1 + r.length, UInt8.ofNat x.toNat, UInt8.ofNat y.toNat, by omega, by omega, ?_, ?_, ?_⟩
    · rw [get, List.getElem?_append_right (by omega), show P.length + 1 + r.length - P.length = r.length + 1 by omega, List.getElem?_cons_succ, List.getElem?_map, hx]
      rfl
    · rw [get, List.getElem?_append_right (by omega), show P.length + 1 + r.length + 1 - P.length = r.length + 1 + 1 by omega, List.getElem?_cons_succ, List.getElem?_map, hy]
      rfl
    · rw [byte_ne x hxo]
      cases pl
      · have := hpl.2 rfl
        simp at this
      · rfl
end Go.Proofs.Qxb6603897aDoor
