/-
  The walk of isDomainName: over the library's split, label by label.
-/
import Derived.Test.Qxb6603894aDoorSmall
import Derived.Test.Qxb6603894aDoorShelf
namespace Go.Proofs.Qxb6603894aDoor
open Go.RowKit

def resD (s : ByteArray) : Bool := decide (s.size ≤ 253) && domB (bs s)
theorem resD_long (s : ByteArray) (h : 253 < s.size) : resD s = false := by
  unfold resD; rw [decide_eq_false (by omega)]; rfl

/-- One label's tests, in the order in which the text asks them. -/
def lab1 (x : ByteArray) : Bool := decide (x.size = 0) || decide (63 < x.size) || decide (bt x 0 = 45) || decide (bt x (x.size - 1) = 45)
theorem labelB_bs (x : ByteArray) : labelB (bs x) = (!lab1 x && (bs x).all okB) := by
  unfold labelB lab1
  by_cases h : x.size = 0
  · have e : bs x = [] := by have := bs_drop_end x 0 (by omega); rwa [List.drop_zero] at this
    rw [e]; simp [h]
  · have e : (bs x).isEmpty = false := by simpa using bs_ne x (by omega)
    rw [e, bs_length, hd_bs, lst_bs x (by omega)]
    simp [h]

theorem good_pos (x : ByteArray) (h : labelB (bs x) = true) : 0 < x.size := by
  refine Nat.pos_of_ne_zero fun e => ?_
  have e : bs x = [] := by have := bs_drop_end x 0 (by omega); rwa [List.drop_zero] at this
  rw [e] at h
  exact absurd h (by decide)
def labs (L : List ByteArray) : Bool := L.all fun x => labelB (bs x)
theorem resD_is (s : ByteArray) (L : List ByteArray) (h : s.size ≤ 253) (hL : L.map bs = splitI (bs s)) : resD s = (labs L && alphaB (hd (lastL (L.map bs)))) := by
  unfold resD domB labelsB labs
  rw [decide_eq_true h, ← hL, List.all_map]
  rfl
theorem labs_drop (L : List ByteArray) (j : Nat) (h : j < L.length) : labs (L.drop j) = (labelB (bs (L.getD j ByteArray.empty)) && labs (L.drop (j + 1))) := by
  have e : L.getD j ByteArray.empty = L[j] := by simp [List.getD_eq_getElem?_getD, h]
  rw [e, List.drop_eq_getElem_cons h]
  rfl
theorem lastL_map (L : List ByteArray) (h : 0 < L.length) : lastL (L.map bs) = bs (L.getD (L.length - 1) ByteArray.empty) := by
  induction L with
  | nil => simp at h
  | cons a t ih =>
    cases t with
    | nil => rfl
    | cons b t =>
      have := ih (by simp)
      rw [List.map_cons, lastL_cons _ _ (by simp), this]
      simp

theorem arr_split (L : List ByteArray) (j : Nat) (h : j < L.length) : (L.map Value.string).toArray[j]? = some (.string (L.getD j ByteArray.empty)) := by
  simp [List.getD_eq_getElem?_getD, h]

set_option maxHeartbeats 1000000 in
theorem dom_long (s : ByteArray) (w : World) (hs : s.size ≤ maxLen) (h : 253 < s.size) :
    Calls Tryd.prog 7 #[.string s] w fun e w' => e = .returned (.bool (resD s)) ∧ Below w.heap.size w w' := by
  unfold maxLen at hs
  have X : Hid (resD s = false) := resD_long s h
  go_enter Tryd.func7, Tryd.ntmps7
  go_wp2_with fail
  go_ret
  exact ⟨ret_bool X.out.symm, Below.refl _ _⟩

set_option maxHeartbeats 1000000 in
theorem dom_main (s : ByteArray) (w : World) (hsh : w.ShapedOpen Tryd.prog) (hs : s.size ≤ 253) :
    Calls Tryd.prog 7 #[.string s] w fun e w' => e = .returned (.bool (resD s)) ∧ Below w.heap.size w w' := by
  have hsp := Tryd.strings_Split_shaped s ⟨#[46]⟩ w hsh (by omega) (by decide)
  have hL : (Lib.splitB ⟨#[46]⟩ 0 (Lib.countB s ⟨#[46]⟩) s).map bs = splitI (bs s) := splitB_is s
  have hn : (Lib.splitB ⟨#[46]⟩ 0 (Lib.countB s ⟨#[46]⟩) s).length = Lib.countB s ⟨#[46]⟩ + 1 := Lib.splitB_all _ (by decide) 0 _ s rfl
  have hle : Lib.countB s ⟨#[46]⟩ ≤ s.size := Lib.countB_le _ (by decide) _ s (Nat.le_refl _)
  generalize Lib.splitB ⟨#[46]⟩ 0 (Lib.countB s ⟨#[46]⟩) s = L at hsp hL hn
  generalize Lib.countB s ⟨#[46]⟩ = N at hsp hn hle
  have R : Hid (resD s = (labs L && alphaB (hd (lastL (L.map bs))))) := resD_is s L hs hL
  have hA : ∀ j, j < L.length → (L.map Value.string).toArray[j]? = some (.string (L.getD j ByteArray.empty)) := arr_split L
  generalize (L.map Value.string).toArray = A at hsp hA
  have HA : Hid (∀ j, j < L.length → A[j]? = some (.string (L.getD j ByteArray.empty))) := hA
  have HN : Hid (L.length = N + 1) := hn
  clear hA hn hL hsh
  have HSP : Hid (Calls Tryd.prog 10 #[.string s, .string ⟨#[46]⟩] w fun e w' => e = .returned (.slice (some ⟨w.heap.size, 0, none⟩) (N + 1) (N + 1)) ∧ w' = w.alloc (.cells A 9)) := hsp
  clear hsp
  go_enter Tryd.func7, Tryd.ntmps7
  go_wp2_with (go_at_call 10; refine HSP.out.mono ?_; rintro e w' ⟨rfl, rfl⟩)
  go_loop [14] (fun i => ∃ j : Nat, j ≤ N + 1 ∧ i = .int .i64 j ∧ Hid (labs L = labs (L.drop j))) (fun i => N + 1 - (intOf i).toNat)
  case atStart => exact ⟨0, Nat.zero_le _, rfl, rfl⟩
  case round =>
    obtain ⟨j, hj, rfl, H⟩ := hrel
    by_cases hlt : j < N + 1
    · have hc : A[j]? = some (.string (L.getD j ByteArray.empty)) := HA.out j (by rw [HN.out]; exact hlt)
      have D : Hid (labs L = (labelB (bs (L.getD j ByteArray.empty)) && labs (L.drop (j + 1)))) := by rw [Hid, H.out]; exact labs_drop L j (by rw [HN.out]; exact hlt)
      generalize L.getD j ByteArray.empty = x at hc D
      have hb := get_bt x
      have XB : Hid (lab1 x = true → resD s = false) := fun h => by rw [R.out, D.out, labelB_bs, h]; rfl
      cases hz : ((x.size : Int) == 0)
      case true =>
        have X : Hid (resD s = false) := XB.out (by simp at hz; simp [lab1, hz])
        clear XB
        go_wp2_with fail
        go_ret
        exact ⟨ret_bool X.out.symm, (Below.refl _ _).alloc (Nat.le_refl _) _⟩
      have hx0 : 0 < x.size := by simp at hz; exact Nat.pos_of_ne_zero (fun e => hz (by obtain ⟨⟨l⟩⟩ := x; cases l with | nil => rfl | cons a t => simp [ByteArray.size] at e))
      by_cases h63 : x.size ≤ 63
      case neg =>
        have X : Hid (resD s = false) := XB.out (by have e : 63 < x.size := by omega
                                                    simp [lab1, e])
        clear XB
        go_wp2_with fail
        go_ret
        exact ⟨ret_bool X.out.symm, (Below.refl _ _).alloc (Nat.le_refl _) _⟩
      cases hf : (bt x 0 == 45)
      case true =>
        have X : Hid (resD s = false) := XB.out (by simp at hf; simp [lab1, hf])
        clear XB
        go_wp2_with fail
        go_ret
        exact ⟨ret_bool X.out.symm, (Below.refl _ _).alloc (Nat.le_refl _) _⟩
      cases hl : (bt x (x.size - 1) == 45)
      case true =>
        have X : Hid (resD s = false) := XB.out (by simp at hl; simp [lab1, hl])
        clear XB
        go_wp2_with fail
        go_ret
        exact ⟨ret_bool X.out.symm, (Below.refl _ _).alloc (Nat.le_refl _) _⟩
      have XG : Hid (labelB (bs x) = (bs x).all okB) := by
        rw [Hid, labelB_bs]
        have e : lab1 x = false := by
          have e1 : ¬ x.size = 0 := by omega
          have e2 : ¬ 63 < x.size := by omega
          simp at hf hl
          unfold lab1
          rw [decide_eq_false e1, decide_eq_false e2, decide_eq_false hf, decide_eq_false hl]; rfl
        rw [e]; rfl
      clear XB
      go_wp2_with fail
      go_loop [6] (fun i => ∃ k : Nat, k ≤ x.size ∧ i = .int .i64 k ∧ Hid ((bs x).all okB = ((bs x).drop k).all okB)) (fun i => x.size - (intOf i).toNat)
      case atStart => exact ⟨0, Nat.zero_le _, rfl, rfl⟩
      case round =>
        obtain ⟨k, hk, rfl, K⟩ := hrel
        by_cases hkx : k < x.size
        · have D2 : Hid (((bs x).drop k).all okB = (okB (bt x k) && ((bs x).drop (k + 1)).all okB)) := by rw [Hid, bs_drop x k hkx]; rfl
          cases ho : okB (bt x k)
          · have X : Hid (resD s = false) := by rw [Hid, R.out, D.out, XG.out, K.out, D2.out, ho]; rfl
            cases ca : alphaB (bt x k) <;> cases cd : digitB (bt x k) <;> cases c45 : (bt x k == 45)
            all_goals try (exfalso; (try simp at c45); simp [okB, alnumB, ca, cd, c45] at ho; done)
            all_goals
              go_wp2_with (first | (go_at_call 11; refine (letter_any _ _).mono ?_; rintro e w' ⟨rfl, rfl⟩) | (go_at_call 12; refine (digit_any _ _).mono ?_; rintro e w' ⟨rfl, rfl⟩))
              go_ret
              exact ⟨ret_bool X.out.symm, (Below.refl _ _).alloc (Nat.le_refl _) _⟩
          · have K2 : Hid ((bs x).all okB = ((bs x).drop (k + 1)).all okB) := by rw [Hid, K.out, D2.out, ho]; rfl
            cases ca : alphaB (bt x k) <;> cases cd : digitB (bt x k) <;> cases c45 : (bt x k == 45)
            all_goals try (exfalso; (try simp at c45); simp [okB, alnumB, ca, cd, c45] at ho; done)
            all_goals
              go_wp2_with (first | (go_at_call 11; refine (letter_any _ _).mono ?_; rintro e w' ⟨rfl, rfl⟩) | (go_at_call 12; refine (digit_any _ _).mono ?_; rintro e w' ⟨rfl, rfl⟩))
              go_round
              case rel => exact ⟨k + 1, by omega, by go_num, K2⟩
              case measure => simp [intOf]; omega
        · have H2 : Hid (labs L = labs (L.drop (j + 1))) := by
            rw [Hid, D.out, XG.out, K.out, bs_drop_end x k (by omega)]; rfl
          go_wp2_with fail
          go_round
          case rel => exact ⟨j + 1, by omega, by go_num, H2⟩
          case measure => simp [intOf]; omega
    · obtain rfl : j = N + 1 := by omega
      have E : Hid (labs L = true) := by rw [Hid, H.out, List.drop_of_length_le (by rw [HN.out]; exact Nat.le_refl _)]; rfl
      have hc : A[N]? = some (.string (L.getD N ByteArray.empty)) := HA.out N (by rw [HN.out]; omega)
      have Z : Hid (resD s = alphaB (bt (L.getD N ByteArray.empty) 0)) := by
        rw [Hid, R.out, E.out, lastL_map L (by rw [HN.out]; omega), HN.out, hd_bs]; rfl
      have hx0 : 0 < (L.getD N ByteArray.empty).size := by
        have hm : (L.getD N ByteArray.empty) ∈ L := by
          have : N < L.length := by rw [HN.out]; omega
          simp [List.getD_eq_getElem?_getD, this]
        have := List.all_eq_true.1 E.out _ hm
        exact good_pos _ this
      generalize L.getD N ByteArray.empty = x at hc Z hx0
      have hb := get_bt x
      go_wp2_with (go_at_call 11; refine (letter_any _ _).mono ?_; rintro e w' ⟨rfl, rfl⟩)
      go_ret
      exact ⟨ret_bool Z.out.symm, (Below.refl _ _).alloc (Nat.le_refl _) _⟩

theorem dom_any (s : ByteArray) (w : World) (hsh : w.ShapedOpen Tryd.prog) (hs : s.size ≤ maxLen) :
    Calls Tryd.prog 7 #[.string s] w fun e w' => e = .returned (.bool (resD s)) ∧ Below w.heap.size w w' := by
  by_cases h : s.size ≤ 253
  · exact dom_main s w hsh h
  · exact dom_long s w hs (by omega)

end Go.Proofs.Qxb6603894aDoor
