/-
  The walk of IsHostName: a loop over the library's iterator of pieces, label by label.
-/
import Derived.Test.Qxb6604198aDoorRange
namespace Go.Proofs.Qxb6604198aDoor
open Go.RowKit Go.Shelf
attribute [local go_sem] Oper.semAt_some

set_option maxHeartbeats 400000 in
theorem split_any (s p : ByteArray) (w : World) :
    Calls Tryd.prog 7 #[.string s, .string p] w fun e w' => e = .returned (.func (.func 9) #[] #[.pointer (some ⟨w.heap.size + 1, 0, none⟩), .pointer (some ⟨w.heap.size, 0, none⟩), .pointer (some ⟨w.heap.size + 1 + 1, 0, none⟩)]) ∧
      w' = ((w.alloc (.cells #[.string s] 9)).alloc (.cells #[.string p] 9)).alloc (.cells #[.int .i64 0] 3) := by
  go_enter Tryd.func7, Tryd.ntmps7
  go_wp2
  go_ret
  exact ⟨rfl, rfl⟩

/-- One label's tests, in the order in which the text asks them. -/
def lab1 (x : ByteArray) : Bool := decide (x.size = 0) || decide (63 < x.size) || decide (bt x 0 = 45) || decide (bt x (x.size - 1) = 45)
theorem labelB_bs (x : ByteArray) : labelB (bs x) = (!lab1 x && (bs x).all okB) := by
  unfold labelB lab1
  by_cases h : x.size = 0
  · have e : bs x = [] := by have := bs_drop_end x 0 (by omega); rwa [List.drop_zero] at this
    rw [e]; simp [h]
  · have e : (bs x).isEmpty = false := by simpa using bs_ne x (by omega)
    rw [e, bs_length, hd_bs, lst_bs x (by omega)]
    simp [h]

/-- The conversion of a string to bytes: a new block, its cells the bytes. -/
theorem conv_any (W : World) (x : ByteArray) : ∃ (cap : Nat) (o : Obj), (convert 9 26 (.string x)).run Tryd.prog W = .ok (.slice (some ⟨W.heap.size, 0, none⟩) x.size cap) (W.alloc o).drew ∧
    ∀ j, j < x.size → (W.alloc o).cell? ⟨W.heap.size, j, none⟩ = some (.int .u8 (bt x j)) := by
  refine ⟨_, _, run_bytes_of_string (P := Tryd.prog) W 9 26 5 x Tryd.underlying9 Tryd.underlying26 Tryd.underlying5, fun j hj => ?_⟩
  rw [World.cell?_alloc_mark, bytesRow_at _ _ _ (by exact hj)]
  unfold bt
  rw [dif_pos hj]
  rfl

theorem cell_lt {w : World} {a : Addr} {v : Value} (h : w.cell? a = some v) : a.block < w.heap.size := by
  rcases Nat.lt_or_ge a.block w.heap.size with g | g
  · exact g
  · unfold World.cell? at h
    rw [Array.getElem?_eq_none g] at h
    cases h
theorem cell_new_l (w : World) (v : Value) (t : TypeId) : (w.alloc (.cells #[v] t)).cell? ⟨w.heap.size, 0, none⟩ = some v ∧ (w.alloc (.cells #[v] t)).frozen? ⟨w.heap.size, 0, none⟩ = false :=
  ⟨by simp, by simp⟩
theorem cell_alloc_l {w : World} {a : Addr} {v : Value} (o : Obj) (h : w.cell? a = some v) : (w.alloc o).cell? a = some v := (World.cell?_alloc_lt w o a (cell_lt h)).trans h
theorem frozen_alloc_l {w : World} {a : Addr} {v : Value} (o : Obj) (h : w.cell? a = some v) (hf : w.frozen? a = false) : (w.alloc o).frozen? a = false :=
  (((Below.refl w.heap.size w).alloc (Nat.le_refl _) o).frozen (p := a) (cell_lt h)).trans hf

def good (pre : List ByteArray) : Bool := (pre.map bs).all labelB
theorem good_snoc (pre : List ByteArray) (x : ByteArray) : good (pre ++ [x]) = (good pre && labelB (bs x)) := by simp [good, List.all_append]
theorem resH_all (s : ByteArray) (pre : List ByteArray) (hs : s.size ≤ 253) (h : pre.map bs = splitI (bs s)) : resH s = good pre := by
  unfold resH hostB good; rw [decide_eq_true hs, h]; rfl
theorem resH_part (s : ByteArray) (pre : List ByteArray) (t : List (List Int)) (hs : s.size ≤ 253) (h : pre.map bs ++ t = splitI (bs s)) (hg : good pre = false) : resH s = false := by
  unfold good at hg
  unfold resH hostB; rw [decide_eq_true hs, ← h, List.all_append, hg]; rfl

set_option maxRecDepth 100000 in
set_option maxHeartbeats 2000000 in
theorem host_in (n : Nat) (hn : 6 ≤ n) (s : ByteArray) (w : World) (hs : s.size ≤ 253) (h0 : 0 < s.size) :
    CallsIn Fence.wide n Tryd.prog 5 #[.string s] w fun e w' => e = .returned (.bool (resH s)) ∧ Below w.heap.size w w' := by
  have HZ := hid (beq_eq_false_iff_ne.2 (by omega) : ((s.size : Int) == 0) = false)
  have hz := HZ.out
  refine callsIn_of_wp_marks Tryd.func5 rfl trivial ?_ rfl
  simp only [Tryd.ntmps5, List.size_toArray, List.length_cons, List.length_nil, Nat.reduceAdd, Nat.reduceSub, Array.replicate_succ, Array.replicate_zero, List.push_toArray, List.append_toArray, List.nil_append, List.cons_append]
  gi_wp2_with fail
  refine ⟨trivial, fun _ => by omega, ?_⟩
  refine ((callsIn_wide (n := n - 1)).2 (split_any s ⟨#[46]⟩ _)).mono ?_
  rintro e w' ⟨rfl, rfl⟩
  gi_wp2
  have c0 := cell_new_l w (.bool false) 4
  have c1 := cell_new_l (w.alloc (.cells #[.bool false] 4)) (.string s) 9
  have c2 := cell_new_l ((w.alloc (.cells #[.bool false] 4)).alloc (.cells #[.string s] 9)) (.string ⟨#[46]⟩) 9
  have c3 := cell_new_l (((w.alloc (.cells #[.bool false] 4)).alloc (.cells #[.string s] 9)).alloc (.cells #[.string ⟨#[46]⟩] 9)) (.int .i64 0) 3
  simp only [World.size_alloc] at c1 c2 c3
  have hB0 : Below w.heap.size w ((((w.alloc (.cells #[.bool false] 4)).alloc (.cells #[.string s] 9)).alloc (.cells #[.string ⟨#[46]⟩] 9)).alloc (.cells #[.int .i64 0] 3)) :=
    ((((Below.refl _ w).alloc (Nat.le_refl _) _).alloc (by simp) _).alloc (by simp; omega) _).alloc (by simp; omega) _
  obtain ⟨W0, hW0⟩ : ∃ W0, (((w.alloc (.cells #[.bool false] 4)).alloc (.cells #[.string s] 9)).alloc (.cells #[.string ⟨#[46]⟩] 9)).alloc (.cells #[.int .i64 0] 3) = W0 := ⟨_, rfl⟩
  have hsz : W0.heap.size = w.heap.size + 4 := by rw [← hW0]; simp
  have d0 : W0.cell? ⟨w.heap.size, 0, none⟩ = some (.bool false) ∧ W0.frozen? ⟨w.heap.size, 0, none⟩ = false := by
    rw [← hW0]; exact ⟨cell_alloc_l _ (cell_alloc_l _ (cell_alloc_l _ c0.1)), frozen_alloc_l _ (cell_alloc_l _ (cell_alloc_l _ c0.1)) (frozen_alloc_l _ (cell_alloc_l _ c0.1) (frozen_alloc_l _ c0.1 c0.2))⟩
  have d1 : W0.cell? ⟨w.heap.size + 1, 0, none⟩ = some (.string s) ∧ W0.frozen? ⟨w.heap.size + 1, 0, none⟩ = false := by
    rw [← hW0]; exact ⟨cell_alloc_l _ (cell_alloc_l _ c1.1), frozen_alloc_l _ (cell_alloc_l _ c1.1) (frozen_alloc_l _ c1.1 c1.2)⟩
  have d2 : W0.cell? ⟨w.heap.size + 1 + 1, 0, none⟩ = some (.string ⟨#[46]⟩) := by rw [← hW0]; exact cell_alloc_l _ c2.1
  have d3 : W0.cell? ⟨w.heap.size + 1 + 2, 0, none⟩ = some (.int .i64 0) := by rw [← hW0]; exact c3.1
  rw [hW0] at hB0 ⊢
  clear c0 c1 c2 c3 hW0
  refine range_split n (w.heap.size + 1) (w.heap.size + 4) (by omega) s hs rfl rfl (by omega) (by omega) d1.1 d1.2 d2 d3
    (fun pre W => (good pre = true ∧ W.cell? ⟨w.heap.size, 0, none⟩ = some (.bool false) ∧ W.frozen? ⟨w.heap.size, 0, none⟩ = false ∧ w.heap.size + 4 ≤ W.heap.size) ∧ Below w.heap.size w W)
    (fun c pre W => (c = .ret ∧ good pre = false ∧ W.cell? ⟨w.heap.size, 0, none⟩ = some (.bool false)) ∧ Below w.heap.size w W)
    ?ip ?ixp ?is ?i1
    (fun x => { tmps := #[.string s, undef, .pointer (some ⟨w.heap.size, 0, none⟩), .string x, undef, undef, .string s, .int .i64 s.size, .bool false, .bool false, .string s, .int .i64 s.size, .bool (decide ((253 : Int) < s.size)), .bool (decide ((253 : Int) < s.size)), .string s, .func (.func 9) #[] #[.pointer (some ⟨w.heap.size + 1 + 1, 0, none⟩), .pointer (some ⟨w.heap.size + 1, 0, none⟩), .pointer (some ⟨w.heap.size + 1 + 1 + 1, 0, none⟩)], .string x, undef, undef, undef, undef, undef, undef, undef, undef, undef, undef, undef, undef, undef, undef, undef, undef, undef, undef, undef, undef, undef, undef, undef, undef, undef, undef, undef, undef, undef, undef, undef, undef, undef, undef, undef, undef, undef, undef, undef, undef, undef, undef, undef, undef, undef, undef, undef], defers := [] })
    ?assign ?body ?done ?stop
  case ip =>
    rintro pre W k o o' hk ho hc ⟨⟨h1, h2, h3, h5⟩, h4⟩
    exact ⟨⟨h1, cell_kept h2 (grownBy_putObj' W k o') (fun r e => by cases e; exact ⟨o, ho, hc⟩), (frozen_kept h2 (grownBy_putObj' W k o') (fun r e => by cases e; exact ⟨o, ho, hc⟩)).trans h3, Nat.le_trans h5 (grownBy_putObj' W k o').size⟩,
      h4.grown (grownBy_putObj' W k o') h4.size (fun r e => by cases e; omega)⟩
  case ixp =>
    rintro c pre W k o o' hk ho hc ⟨⟨h1, h2, h3⟩, h4⟩
    exact ⟨⟨h1, h2, cell_kept h3 (grownBy_putObj' W k o') (fun r e => by cases e; exact ⟨o, ho, hc⟩)⟩, h4.grown (grownBy_putObj' W k o') h4.size (fun r e => by cases e; omega)⟩
  case is =>
    rintro pre W v ⟨⟨h1, h2, h3, h5⟩, h4⟩
    exact ⟨⟨h1, (World.cell?_setCell_other _ _ _ _ (fun e => by have := congrArg Addr.block e; simp at this)).trans h2, by rw [World.frozen?_setCell]; exact h3, Nat.le_trans h5 (KeepsOthers.setCell W ⟨w.heap.size + 1, 0, none⟩ v).size⟩, h4.setCell (p := ⟨w.heap.size + 1, 0, none⟩) (by simp) _⟩
  case i1 =>
    intro o1 o2
    exact ⟨⟨rfl, cell_alloc_l _ (cell_alloc_l _ d0.1), frozen_alloc_l _ (cell_alloc_l _ d0.1) (frozen_alloc_l _ d0.1 d0.2), by simp; omega⟩, (hB0.alloc hB0.size _).alloc (by simp; omega) _⟩
  case assign =>
    intro l x W K hK
    gi_wp2
    exact hK
  case body =>
    rintro l pre x W ⟨⟨hgd, hc, hf, hsz4⟩, hB⟩
    have hlt0 : w.heap.size < W.heap.size := cell_lt hc
    have hb := get_bt x
    obtain ⟨cap, o, hcv, hcells⟩ := conv_any W x
    have HCL := hid hcells
    clear hcells d0 d1 d2 d3 hB0 hsz
    have HG := hid (show good (pre ++ [x]) = labelB (bs x) by rw [good_snoc, hgd]; rfl)
    have HX := hid (labelB_bs x)
    clear hgd
    have bad := hid (fun (hl : labelB (bs x) = false) => show good (pre ++ [x]) = false from by rw [HG.out, hl])
    cases hz0 : ((x.size : Int) == 0)
    case true =>
      have HE := hid (show labelB (bs x) = false by rw [HX.out]; simp only [beq_iff_eq] at hz0; have e : x.size = 0 := by omega
                                                    simp [lab1, e])
      gi_wp2
      exact ⟨KeepsOthers.setCell _ _ _, ⟨rfl, bad.out HE.out, World.cell?_setCell_same _ _ _ hc⟩, hB.setCell (p := ⟨w.heap.size, 0, none⟩) (Nat.le_refl _) _⟩
    have hx0 : 0 < x.size := by have := beq_eq_false_iff_ne.1 hz0; omega
    by_cases h63 : x.size ≤ 63
    case neg =>
      have HE := hid (show labelB (bs x) = false by rw [HX.out]; have e : 63 < x.size := by omega
                                                    simp [lab1, e])
      gi_wp2
      exact ⟨KeepsOthers.setCell _ _ _, ⟨rfl, bad.out HE.out, World.cell?_setCell_same _ _ _ hc⟩, hB.setCell (p := ⟨w.heap.size, 0, none⟩) (Nat.le_refl _) _⟩
    cases hfst : (bt x 0 == 45)
    case true =>
      have HE := hid (show labelB (bs x) = false by rw [HX.out]; simp at hfst; simp [lab1, hfst])
      gi_wp2
      exact ⟨KeepsOthers.setCell _ _ _, ⟨rfl, bad.out HE.out, World.cell?_setCell_same _ _ _ hc⟩, hB.setCell (p := ⟨w.heap.size, 0, none⟩) (Nat.le_refl _) _⟩
    cases hlst : (bt x (x.size - 1) == 45)
    case true =>
      have HE := hid (show labelB (bs x) = false by rw [HX.out]; simp at hlst; simp [lab1, hlst])
      gi_wp2
      exact ⟨KeepsOthers.setCell _ _ _, ⟨rfl, bad.out HE.out, World.cell?_setCell_same _ _ _ hc⟩, hB.setCell (p := ⟨w.heap.size, 0, none⟩) (Nat.le_refl _) _⟩
    have HA := hid (show labelB (bs x) = (bs x).all okB by
      rw [HX.out]
      have e : lab1 x = false := by
        have e1 : ¬ x.size = 0 := by omega
        have e2 : ¬ 63 < x.size := by omega
        simp at hfst hlst
        unfold lab1
        rw [decide_eq_false e1, decide_eq_false e2, decide_eq_false hfst, decide_eq_false hlst]; rfl
      rw [e]; rfl)
    gi_wp2
    gi_loop [41] (fun i => ∃ k : Nat, k ≤ x.size ∧ i = .int .i64 k ∧ Hid ((bs x).all okB = ((bs x).drop k).all okB)) (fun i => x.size - (intOf i).toNat)
    case atStart => exact ⟨0, Nat.zero_le _, rfl, rfl⟩
    case round =>
      obtain ⟨k, hk, rfl, K⟩ := hrel
      by_cases hkx : k < x.size
      · have hcell := HCL.out k hkx
        have D2 := hid (show ((bs x).drop k).all okB = (okB (bt x k) && ((bs x).drop (k + 1)).all okB) by rw [bs_drop x k hkx]; rfl)
        cases ho : okB (bt x k)
        · have HE := hid (show labelB (bs x) = false by rw [HA.out, K.out, D2.out, ho]; rfl)
          have fin := hid (show KeepsOthers W (((W.setCell ⟨w.heap.size, 0, none⟩ (.bool false)).alloc o).drew) ∧ (good (pre ++ [x]) = false ∧ (((W.setCell ⟨w.heap.size, 0, none⟩ (.bool false)).alloc o).drew).cell? ⟨w.heap.size, 0, none⟩ = some (.bool false)) ∧ Below w.heap.size w (((W.setCell ⟨w.heap.size, 0, none⟩ (.bool false)).alloc o).drew) from
            ⟨((KeepsOthers.setCell _ _ _).trans (KeepsOthers.alloc _ _)).trans (KeepsOthers.drew _), ⟨bad.out HE.out, cell_alloc_l o (World.cell?_setCell_same _ _ _ hc)⟩,
              ((hB.setCell (p := ⟨w.heap.size, 0, none⟩) (Nat.le_refl _) _).alloc (Nat.le_trans hB.size (KeepsOthers.setCell W ⟨w.heap.size, 0, none⟩ (.bool false)).size) _).drew⟩)
          have n45 : (bt x k != 45) = true := by rcases cls (bt x k) ho with ⟨_, h⟩ | ⟨_, _, h⟩ | ⟨_, h⟩ <;> simp only [bne, h, Bool.not_false]
          rcases cls (bt x k) ho with ⟨hl, c45⟩ | ⟨hl, hl2, c45⟩ | ⟨hl, c45⟩
          rotate_left
          · have q1 : decide (bt x k < 97) = true := decide_eq_true (by omega)
            have q2 : decide (bt x k < 48) = false := decide_eq_false (by omega)
            have q3 : decide (57 < bt x k) = true := decide_eq_true (by omega)
            gi_wp2
            exact ⟨fin.out.1, ⟨rfl, fin.out.2.1.1, fin.out.2.1.2⟩, fin.out.2.2⟩
          · have q1 : decide (bt x k < 97) = false := decide_eq_false (by omega)
            have q2 : decide (bt x k < 48) = false := decide_eq_false (by omega)
            have q3 : decide (57 < bt x k) = true := decide_eq_true (by omega)
            have q4 : decide (122 < bt x k) = true := decide_eq_true (by omega)
            gi_wp2
            exact ⟨fin.out.1, ⟨rfl, fin.out.2.1.1, fin.out.2.1.2⟩, fin.out.2.2⟩
          all_goals gi_wp2
          all_goals exact ⟨fin.out.1, ⟨rfl, fin.out.2.1.1, fin.out.2.1.2⟩, fin.out.2.2⟩
        · have K2 := hid (show (bs x).all okB = ((bs x).drop (k + 1)).all okB by rw [K.out, D2.out, ho]; rfl)
          rcases cls2 (bt x k) ho with ⟨hl, hl2, c45⟩ | ⟨hl, hl2, c45⟩ | ⟨hl, c45⟩
          all_goals gi_wp2
          all_goals
            go_round
            case rel => exact ⟨k + 1, by omega, by go_num, K2⟩
            case measure => simp [intOf]; omega
      · have HE := hid (show good (pre ++ [x]) = true by rw [HG.out, HA.out, K.out, bs_drop_end x k (by omega)]; rfl)
        have fin := hid (show KeepsOthers W (W.alloc o).drew ∧ Below (w.heap.size + 4) W (W.alloc o).drew ∧ ((W.alloc o).drew.cell? ⟨w.heap.size, 0, none⟩ = some (.bool false) ∧ (W.alloc o).drew.frozen? ⟨w.heap.size, 0, none⟩ = false ∧ w.heap.size + 4 ≤ (W.alloc o).drew.heap.size) ∧ Below w.heap.size w (W.alloc o).drew from
          ⟨(KeepsOthers.alloc _ _).trans (KeepsOthers.drew _), ((Below.refl _ _).alloc hsz4 _).drew, ⟨cell_alloc_l o hc, frozen_alloc_l o hc hf, Nat.le_trans hsz4 (KeepsOthers.alloc W o).size⟩, (hB.alloc hB.size _).drew⟩)
        gi_wp2
        exact ⟨fin.out.1, fin.out.2.1, ⟨HE.out, fin.out.2.2.1⟩, fin.out.2.2.2⟩
  case done =>
    rintro D pre W hD hS ⟨⟨hg, hc, hf, _⟩, hB⟩ hK
    have HR := hid (resH_all s pre hs hS)
    gi_wp2
    have hK' := (KeepsOthers.setCell W ⟨w.heap.size, 0, none⟩ (.bool true)).same D _ hK rfl
    refine ⟨by simp, .inl ⟨_, _, rfl, run_takeDeferred hK', ?_⟩⟩
    have hc5 := cell_kept (World.cell?_setCell_same W ⟨w.heap.size, 0, none⟩ (.bool true) hc) (grownBy_putObj' _ D (.deferred none)) (fun r e => by cases e; exact ⟨_, hK', rfl⟩)
    refine ⟨.bool true, ?_, by rw [HR.out, hg], (hB.setCell (p := ⟨w.heap.size, 0, none⟩) (Nat.le_refl _) _).trans (belowK_b (w := w) (Nat.le_refl _) _ D _ _ (by omega) hK' rfl rfl)⟩
    simp [results, Tryd.f5, go_sem, hc5]
  case stop =>
    rintro D c pre t W hD hS ⟨⟨rfl, hg, hc⟩, hB⟩ hK
    have HR := hid (resH_part s pre t hs hS hg)
    gi_wp2
    refine ⟨by simp, .inl ⟨_, _, rfl, run_takeDeferred hK, ?_⟩⟩
    have hc5 := cell_kept hc (grownBy_putObj' _ D (.deferred none)) (fun r e => by cases e; exact ⟨_, hK, rfl⟩)
    refine ⟨.bool false, ?_, by rw [HR.out], hB.trans (belowK_b (w := w) (Nat.le_refl _) W D _ _ (by omega) hK rfl rfl)⟩
    simp [results, Tryd.f5, go_sem, hc5]
end Go.Proofs.Qxb6604198aDoor
