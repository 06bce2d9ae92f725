/-
  The plain part: bytes as integers, the split at dots, the two rules and their agreement. No run of the model in this text.
-/
import Derived.Lib.SplitLaws
namespace Go.Proofs.Qxb6603894aDoor
open Go.Lib

/-- The bytes of a string as integers. -/
def bs (s : ByteArray) : List Int := s.data.toList.map fun b => (b.toNat : Int)
def bt (s : ByteArray) (k : Nat) : Int := if h : k < s.size then ((s[k]'h).toNat : Int) else 0
theorem get_bt (s : ByteArray) : ∀ (n : Nat) (h : n < s.size), ((s[n]'h).toNat : Int) = bt s n := fun n h => by unfold bt; rw [dif_pos h]
theorem bt_nonneg (s : ByteArray) (k : Nat) : 0 ≤ bt s k := by unfold bt; split <;> omega
theorem bt_le (s : ByteArray) (k : Nat) : bt s k ≤ 255 := by
  unfold bt; split
  · have := UInt8.toNat_lt (s[k]); omega
  · omega
theorem bs_length (s : ByteArray) : (bs s).length = s.size := by simp [bs]
theorem bs_get (s : ByteArray) (k : Nat) (h : k < s.size) : (bs s)[k]'(by rw [bs_length]; exact h) = bt s k := by
  unfold bs bt
  rw [dif_pos h]
  simp only [List.getElem_map]
  rfl
theorem bs_drop (s : ByteArray) (k : Nat) (h : k < s.size) : (bs s).drop k = bt s k :: (bs s).drop (k + 1) := by
  rw [← bs_get s k h]
  exact List.drop_eq_getElem_cons (by rw [bs_length]; exact h)
theorem bs_drop_end (s : ByteArray) (k : Nat) (h : s.size ≤ k) : (bs s).drop k = [] := List.drop_of_length_le (by rw [bs_length]; exact h)

def alphaB (c : Int) : Bool := (decide (97 ≤ c) && decide (c ≤ 122)) || (decide (65 ≤ c) && decide (c ≤ 90))
def digitB (c : Int) : Bool := decide (48 ≤ c) && decide (c ≤ 57)
def alnumB (c : Int) : Bool := alphaB c || digitB c
def okB (c : Int) : Bool := alnumB c || decide (c = 45)

/-! ### The split at dots -/
def splitI : List Int → List (List Int)
  | [] => [[]]
  | c :: l => if c = 46 then [] :: splitI l else
    match splitI l with
    | [] => [[c]]
    | h :: t => (c :: h) :: t
theorem splitI_ne : ∀ l : List Int, splitI l ≠ []
  | [] => by simp [splitI]
  | c :: l => by
    unfold splitI
    split
    · simp
    · split <;> simp

/-- The guide's split at one dot is this one. -/
theorem splitK_is : ∀ l : List UInt8, (splitK [46] 0 (count l [46]) l).map (fun x => x.map fun b => (b.toNat : Int)) = splitI (l.map fun b => (b.toNat : Int))
  | [] => by rw [count_miss (by simp [index])]; rfl
  | c :: l => by
    have ih := splitK_is l
    by_cases hc : c = 46
    · subst hc
      rw [count_cons_eq, Nat.add_comm]
      have hix : index (46 :: l) [46] = 0 := by rw [index]; simp [List.isPrefixOf]
      unfold splitK
      rw [hix]
      simp only [List.map_cons, splitI]
      rw [← ih]
      simp
    · rw [count_cons_ne c 46 l hc]
      have hi : ¬ ((c.toNat : Int) = 46) := by
        intro h
        exact hc (UInt8.toNat_inj.1 (by have : (46 : UInt8).toNat = 46 := rfl; omega))
      have hp : ([46] : List UInt8).isPrefixOf (c :: l) = false := by simp [List.isPrefixOf, Ne.symm hc]
      have hix : index (c :: l) [46] = if index l [46] == -1 then -1 else index l [46] + 1 := by rw [index, hp]; simp
      have hge := index_ge l [46]
      simp only [List.map_cons, splitI]
      rw [if_neg hi, ← ih]
      cases hk : count l [46] with
      | zero => simp [splitK]
      | succ k =>
        by_cases hm : index l [46] = -1
        · rw [count_miss hm] at hk; omega
        · obtain ⟨j, hj⟩ : ∃ j : Nat, index l [46] = j := ⟨(index l [46]).toNat, by omega⟩
          have hn : ¬ (index l [46] == -1) = true := fun e => hm (beq_iff_eq.1 e)
          have hix' : index (c :: l) [46] = ((j + 1 : Nat) : Int) := by rw [hix, if_neg hn, hj]; omega
          have hn' : ¬ (index (c :: l) [46] == -1) = true := fun e => by have := beq_iff_eq.1 e; omega
          unfold splitK
          rw [if_neg hn, if_neg hn', hix', hj]
          simp

/-- What strings.Split hands back, read as integers. -/
theorem splitB_is (s : ByteArray) : (splitB ⟨#[46]⟩ 0 (countB s ⟨#[46]⟩) s).map bs = splitI (bs s) := by
  have h := splitB_data ⟨#[46]⟩ 0 (countB s ⟨#[46]⟩) s
  have h2 := splitK_is s.data.toList
  unfold bs
  rw [← h2]
  have e : (fun s : ByteArray => List.map (fun b : UInt8 => (b.toNat : Int)) s.data.toList) = (fun x : List UInt8 => x.map fun b => (b.toNat : Int)) ∘ (fun b : ByteArray => b.data.toList) := rfl
  rw [e, ← List.map_map, h]

/-- No dot in the list. -/
def dotless (p : List Int) : Prop := ∀ c ∈ p, c ≠ 46
theorem splitI_dotless : ∀ (p : List Int), dotless p → splitI p = [p]
  | [], _ => rfl
  | c :: p, h => by
    unfold splitI
    rw [if_neg (h c (by simp)), splitI_dotless p fun d hd => h d (by simp [hd])]
theorem splitI_cut : ∀ (p l : List Int), dotless p → splitI (p ++ 46 :: l) = p :: splitI l
  | [], l, _ => by simp [splitI]
  | c :: p, l, h => by
    rw [List.cons_append, splitI, if_neg (h c (by simp)), splitI_cut p l fun d hd => h d (by simp [hd])]

def hd : List Int → Int
  | [] => 0
  | a :: _ => a
def lst : List Int → Int
  | [] => 0
  | [a] => a
  | _ :: b :: t => lst (b :: t)
def lastL : List (List Int) → List Int
  | [] => []
  | [a] => a
  | _ :: b :: t => lastL (b :: t)
theorem lst_cons (a : Int) (l : List Int) (h : l ≠ []) : lst (a :: l) = lst l := by cases l with | nil => exact absurd rfl h | cons b t => rfl
theorem lst_append : ∀ (p l : List Int), l ≠ [] → lst (p ++ l) = lst l
  | [], _, _ => rfl
  | a :: p, l, h => by rw [List.cons_append, lst_cons a _ (by simp [h]), lst_append p l h]
theorem lastL_cons (a : List Int) (l : List (List Int)) (h : l ≠ []) : lastL (a :: l) = lastL l := by cases l with | nil => exact absurd rfl h | cons b t => rfl
theorem hd_mem (p : List Int) (h : p ≠ []) : hd p ∈ p := by cases p with | nil => exact absurd rfl h | cons a t => simp [hd]
theorem lst_mem : ∀ (p : List Int), p ≠ [] → lst p ∈ p
  | [], h => absurd rfl h
  | [a], _ => by simp [lst]
  | a :: b :: t, _ => by have := lst_mem (b :: t) (by simp); rw [lst_cons a _ (by simp)]; exact List.mem_cons_of_mem _ this
theorem lst_get : ∀ (p : List Int), p ≠ [] → lst p = p.getD (p.length - 1) 0
  | [], h => absurd rfl h
  | [a], _ => rfl
  | a :: b :: t, _ => by rw [lst_cons a _ (by simp), lst_get (b :: t) (by simp)]; simp
theorem bs_getD (s : ByteArray) (k : Nat) : (bs s).getD k 0 = bt s k := by
  by_cases h : k < s.size
  · rw [← bs_get s k h]; simp [List.getD_eq_getElem?_getD, bs_length, h]
  · unfold bt; rw [dif_neg h, List.getD_eq_getElem?_getD, List.getElem?_eq_none (by rw [bs_length]; omega)]; rfl
theorem bs_ne (s : ByteArray) (h : 0 < s.size) : bs s ≠ [] := fun e => by have := bs_length s; rw [e] at this; simp at this; omega
theorem hd_bs (s : ByteArray) : hd (bs s) = bt s 0 := by
  by_cases h : 0 < s.size
  · have := bs_drop s 0 h; rw [List.drop_zero] at this; rw [this]; rfl
  · have := bs_drop_end s 0 (by omega); rw [List.drop_zero] at this; rw [this]; unfold bt; rw [dif_neg h]; rfl
theorem lst_bs (s : ByteArray) (h : 0 < s.size) : lst (bs s) = bt s (s.size - 1) := by rw [lst_get _ (bs_ne s h), bs_length, bs_getD]

/-! ### The library's rule: label by label -/
def labelB (p : List Int) : Bool := !(p.isEmpty || decide (63 < p.length) || decide (hd p = 45) || decide (lst p = 45)) && p.all okB
def labelsB (ls : List (List Int)) : Bool := ls.all labelB
def domB (l : List Int) : Bool := labelsB (splitI l) && alphaB (hd (lastL (splitI l)))

/-! ### The law's own rule -/
def scanB (r : Nat) : List Int → Bool
  | [] => true
  | c :: l => if c = 46 then scanB 0 l else okB c && decide (r + 1 ≤ 63) && scanB (r + 1) l
def runB (r : Nat) : List Int → Nat
  | [] => r
  | c :: l => if c = 46 then runB 0 l else runB (r + 1) l
def badB (p q : Int) : Bool := (decide (p = 46) && (decide (q = 46) || decide (q = 45))) || (decide (p = 45) && decide (q = 46))
def pairsB : List Int → Bool
  | [] => true
  | [_] => true
  | p :: q :: l => !badB p q && pairsB (q :: l)
def endB (c : Int) : Bool := decide (c = 46) || decide (c = 45)
def modB (l : List Int) : Bool := !l.isEmpty && !endB (hd l) && !endB (lst l) && scanB 0 l && pairsB l && alphaB (l.getD (l.length - runB 0 l) 0)

theorem scanB_dotless : ∀ (p : List Int) (r : Nat), dotless p → r ≤ 63 → scanB r p = (p.all okB && decide (r + p.length ≤ 63))
  | [], r, _, hr => by simp [scanB, hr]
  | c :: p, r, h, hr => by
    unfold scanB
    rw [if_neg (h c (by simp))]
    by_cases h1 : r + 1 ≤ 63
    · rw [scanB_dotless p (r + 1) (fun d hd => h d (by simp [hd])) h1]
      have e : r + 1 + p.length = r + (c :: p).length := by simp; omega
      simp [h1, e, Bool.and_assoc]
    · have e : decide (r + (c :: p).length ≤ 63) = false := decide_eq_false (by simp; omega)
      rw [e]
      simp [h1]
theorem scanB_cut : ∀ (p l : List Int) (r : Nat), dotless p → scanB r (p ++ 46 :: l) = (scanB r p && scanB 0 l)
  | [], l, r, _ => by simp [scanB]
  | c :: p, l, r, h => by
    have hc := h c (by simp)
    rw [List.cons_append, scanB, if_neg hc, scanB_cut p l (r + 1) fun d hd => h d (by simp [hd])]
    conv => rhs; rw [scanB, if_neg hc]
    simp only [Bool.and_assoc]
theorem runB_dotless : ∀ (p : List Int) (r : Nat), dotless p → runB r p = r + p.length
  | [], r, _ => rfl
  | c :: p, r, h => by
    unfold runB
    rw [if_neg (h c (by simp)), runB_dotless p (r + 1) fun d hd => h d (by simp [hd])]
    simp; omega
theorem runB_cut : ∀ (p l : List Int) (r : Nat), dotless p → runB r (p ++ 46 :: l) = runB 0 l
  | [], l, r, _ => by simp [runB]
  | c :: p, l, r, h => by
    rw [List.cons_append, runB, if_neg (h c (by simp)), runB_cut p l (r + 1) fun d hd => h d (by simp [hd])]
theorem runB_le : ∀ (l : List Int) (r : Nat), runB r l ≤ r + l.length
  | [], r => Nat.le_refl _
  | c :: l, r => by
    unfold runB
    split
    · have := runB_le l 0; simp; omega
    · have := runB_le l (r + 1); simp; omega
theorem pairsB_dotless : ∀ (p : List Int), dotless p → pairsB p = true
  | [], _ => rfl
  | [_], _ => rfl
  | a :: b :: p, h => by
    have ha := h a (by simp)
    have hb := h b (by simp)
    rw [pairsB, pairsB_dotless (b :: p) fun d hd => h d (by simp at hd; simp [hd])]
    simp [badB, ha, hb]
/-- The pairs over a cut. -/
theorem pairsB_cut : ∀ (p l : List Int), dotless p → p ≠ [] → l ≠ [] → pairsB (p ++ 46 :: l) = (!decide (lst p = 45) && !endB (hd l) && pairsB l)
  | [], _, _, hp, _ => absurd rfl hp
  | [a], [], _, _, hl => absurd rfl hl
  | [a], b :: l, h, _, _ => by
    have ha := h a (by simp)
    simp [pairsB, badB, endB, ha, lst, hd, Bool.and_assoc]
    rfl
  | a :: b :: p, l, h, _, hl => by
    have ha := h a (by simp)
    have hb := h b (by simp)
    have ih := pairsB_cut (b :: p) l (fun d hd => h d (by simp at hd; simp [hd])) (by simp) hl
    rw [List.cons_append] at ih
    rw [List.cons_append, List.cons_append, pairsB, ih]
    simp [badB, ha, hb, lst]
    rfl

theorem cut_or (l : List Int) : dotless l ∨ ∃ p m, dotless p ∧ l = p ++ 46 :: m := by
  induction l with
  | nil => exact .inl (fun c h => by simp at h)
  | cons c l ih =>
    by_cases hc : c = 46
    · subst hc; exact .inr ⟨[], l, (fun c h => by simp at h), rfl⟩
    · rcases ih with h | ⟨p, m, hp, e⟩
      · exact .inl (fun d hd => by simp at hd; rcases hd with rfl | hd; exact hc; exact h d hd)
      · exact .inr ⟨c :: p, m, (fun d hd => by simp at hd; rcases hd with rfl | hd; exact hc; exact hp d hd), by rw [e]; rfl⟩


theorem mod_dotless (p : List Int) (h : dotless p) : modB p = domB p := by
  unfold modB domB
  rw [splitI_dotless p h, pairsB_dotless p h, scanB_dotless p 0 h (by omega), runB_dotless p 0 h]
  by_cases hp : p = []
  · subst hp; rfl
  · have h1 := h _ (hd_mem p hp)
    have h2 := h _ (lst_mem p hp)
    have e0 : p.getD (p.length - (0 + p.length)) 0 = hd p := by
      cases p with
      | nil => rfl
      | cons a t => simp [hd]
    rw [e0]
    have e1 : p.isEmpty = false := by simpa using hp
    by_cases h3 : p.length ≤ 63
    · have h4 : ¬ 63 < p.length := by omega
      simp [labelsB, labelB, endB, lastL, h1, h2, e1, h3, h4, Bool.and_assoc]
    · have h4 : 63 < p.length := by omega
      simp [labelsB, labelB, h3, h4]

theorem mod_cut (p l : List Int) (h : dotless p) : modB (p ++ 46 :: l) = (labelB p && modB l) := by
  unfold modB
  rw [scanB_cut p l 0 h, scanB_dotless p 0 h (by omega), runB_cut p l 0 h]
  by_cases hp : p = []
  · subst hp; simp [labelB, endB, hd]
  · by_cases hl : l = []
    · subst hl
      have e : lst (p ++ [46]) = 46 := lst_append p [46] (by simp)
      simp [endB, e]
    · rw [pairsB_cut p l h hp hl]
      have h1 := h _ (hd_mem p hp)
      have e1 : p.isEmpty = false := by simpa using hp
      have e2 : l.isEmpty = false := by simpa using hl
      have e3 : hd (p ++ 46 :: l) = hd p := by cases p with | nil => exact absurd rfl hp | cons a t => rfl
      have e4 : lst (p ++ 46 :: l) = lst l := by
        rw [lst_append p _ (by simp), lst_cons _ l hl]
      have e5 : (p ++ 46 :: l).isEmpty = false := by simp
      have hr := runB_le l 0
      have e6 : (p ++ 46 :: l).getD ((p ++ 46 :: l).length - runB 0 l) 0 = l.getD (l.length - runB 0 l) 0 := by
        have e : (p ++ 46 :: l).length - runB 0 l = p.length + (1 + (l.length - runB 0 l)) := by simp; omega
        rw [e]
        simp [List.getD_eq_getElem?_getD, List.getElem?_append_right, Nat.add_comm 1]
      rw [e3, e4, e5, e6, e2]
      generalize alphaB _ = A
      generalize pairsB l = B
      generalize scanB 0 l = C
      generalize endB (hd l) = D
      generalize endB (lst l) = E
      generalize hF : p.all okB = F
      have e7 : endB (hd p) = decide (hd p = 45) := by simp [endB, h1]
      rw [e7]
      unfold labelB
      rw [e1, hF]
      generalize decide (hd p = 45) = G
      generalize decide (lst p = 45) = K
      by_cases h3 : p.length ≤ 63
      · have h4 : ¬ 63 < p.length := by omega
        simp only [Nat.zero_add, h3, h4, decide_true, decide_false]
        cases A <;> cases B <;> cases C <;> cases D <;> cases E <;> cases F <;> cases G <;> cases K <;> rfl
      · have h4 : 63 < p.length := by omega
        simp [h3, h4]

theorem dom_cut (p l : List Int) (h : dotless p) : domB (p ++ 46 :: l) = (labelB p && domB l) := by
  unfold domB
  rw [splitI_cut p l h]
  have e : lastL (p :: splitI l) = lastL (splitI l) := lastL_cons p _ (splitI_ne l)
  rw [e]
  simp [labelsB, Bool.and_assoc]

/-- THE PLAIN LAW: the two rules agree. -/
theorem agree : ∀ (n : Nat) (l : List Int), l.length ≤ n → modB l = domB l
  | 0, l, h => by
    have e : l = [] := by cases l with | nil => rfl | cons a t => simp at h
    subst e; rfl
  | n + 1, l, h => by
    rcases cut_or l with hd | ⟨p, m, hp, e⟩
    · exact mod_dotless l hd
    · subst e
      rw [mod_cut p m hp, dom_cut p m hp, agree n m (by simp at h; omega)]

end Go.Proofs.Qxb6603894aDoor
