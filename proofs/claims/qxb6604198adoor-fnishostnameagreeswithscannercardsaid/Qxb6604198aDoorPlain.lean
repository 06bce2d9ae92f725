/-
  The plain part: bytes as integers, the split at dots, the host-name rule label by label, the one-pass automaton, and their agreement. No run of the model in this text.
-/
import Derived.Lib.SplitLaws
namespace Go.Proofs.Qxb6604198aDoor
open Go.Lib

/-- The bytes of a string as integers. -/
def bs (s : ByteArray) : List Int := s.data.toList.map fun b => (b.toNat : Int)
def bt (s : ByteArray) (k : Nat) : Int := if h : k < s.size then ((s[k]'h).toNat : Int) else 0
theorem get_bt (s : ByteArray) : ∀ (n : Nat) (h : n < s.size), ((s[n]'h).toNat : Int) = bt s n := fun n h => by unfold bt; rw [dif_pos h]
theorem bt_nonneg (s : ByteArray) (k : Nat) : 0 ≤ bt s k := by unfold bt; split <;> omega
theorem bt_le (s : ByteArray) (k : Nat) : bt s k ≤ 255 := by
  unfold bt; split
  · have := UInt8.toNat_lt (s[k]); omega
  · omega
theorem bs_length (s : ByteArray) : (bs s).length = s.size := by simp [bs]
theorem bs_get (s : ByteArray) (k : Nat) (h : k < s.size) : (bs s)[k]'(by rw [bs_length]; exact h) = bt s k := by
  unfold bs bt
  rw [dif_pos h]
  simp only [List.getElem_map]
  rfl
theorem bs_drop (s : ByteArray) (k : Nat) (h : k < s.size) : (bs s).drop k = bt s k :: (bs s).drop (k + 1) := by
  rw [← bs_get s k h]
  exact List.drop_eq_getElem_cons (by rw [bs_length]; exact h)
theorem bs_drop_end (s : ByteArray) (k : Nat) (h : s.size ≤ k) : (bs s).drop k = [] := List.drop_of_length_le (by rw [bs_length]; exact h)

def lowB (c : Int) : Bool := decide (97 ≤ c) && decide (c ≤ 122)
def digB (c : Int) : Bool := decide (48 ≤ c) && decide (c ≤ 57)
def okB (c : Int) : Bool := lowB c || digB c || decide (c = 45)

/-! ### The split at dots -/
def splitI : List Int → List (List Int)
  | [] => [[]]
  | c :: l => if c = 46 then [] :: splitI l else
    match splitI l with
    | [] => [[c]]
    | h :: t => (c :: h) :: t
theorem splitI_cons : ∀ l : List Int, ∃ h t, splitI l = h :: t
  | [] => ⟨[], [], rfl⟩
  | c :: l => by
    unfold splitI
    split
    · exact ⟨_, _, rfl⟩
    · split
      · exact ⟨_, _, rfl⟩
      · exact ⟨_, _, rfl⟩

/-- No dot in the list. -/
def dotless (p : List Int) : Prop := ∀ c ∈ p, c ≠ 46
theorem splitI_dotless : ∀ (p : List Int), dotless p → splitI p = [p]
  | [], _ => rfl
  | c :: p, h => by
    unfold splitI
    rw [if_neg (h c (by simp)), splitI_dotless p fun d hd => h d (by simp [hd])]
theorem splitI_cut : ∀ (p l : List Int), dotless p → splitI (p ++ 46 :: l) = p :: splitI l
  | [], l, _ => by simp [splitI]
  | c :: p, l, h => by
    rw [List.cons_append, splitI, if_neg (h c (by simp)), splitI_cut p l fun d hd => h d (by simp [hd])]
theorem splitI_onto : ∀ (p l h : List Int) (ts : List (List Int)), dotless p → splitI l = h :: ts → splitI (p ++ l) = (p ++ h) :: ts
  | [], l, h, ts, _, e => by simpa using e
  | c :: p, l, h, ts, hp, e => by
    rw [List.cons_append, splitI, if_neg (hp c (by simp)), splitI_onto p l h ts (fun d hd => hp d (by simp [hd])) e]
    rfl

def hd : List Int → Int
  | [] => 0
  | a :: _ => a
def lst : List Int → Int
  | [] => 0
  | [a] => a
  | _ :: b :: t => lst (b :: t)
theorem lst_cons (a : Int) (l : List Int) (h : l ≠ []) : lst (a :: l) = lst l := by cases l with | nil => exact absurd rfl h | cons b t => rfl
theorem lst_snoc : ∀ (p : List Int) (c : Int), lst (p ++ [c]) = c
  | [], _ => rfl
  | a :: p, c => by rw [List.cons_append, lst_cons a _ (by simp), lst_snoc p c]
theorem lst_get : ∀ (p : List Int), p ≠ [] → lst p = p.getD (p.length - 1) 0
  | [], h => absurd rfl h
  | [a], _ => rfl
  | a :: b :: t, _ => by rw [lst_cons a _ (by simp), lst_get (b :: t) (by simp)]; simp
theorem hd_append (p l : List Int) (h : p ≠ []) : hd (p ++ l) = hd p := by cases p with | nil => exact absurd rfl h | cons a t => rfl
theorem bs_getD (s : ByteArray) (k : Nat) : (bs s).getD k 0 = bt s k := by
  by_cases h : k < s.size
  · rw [← bs_get s k h]; simp [List.getD_eq_getElem?_getD, bs_length, h]
  · unfold bt; rw [dif_neg h, List.getD_eq_getElem?_getD, List.getElem?_eq_none (by rw [bs_length]; omega)]; rfl
theorem bs_ne (s : ByteArray) (h : 0 < s.size) : bs s ≠ [] := fun e => by have := bs_length s; rw [e] at this; simp at this; omega
theorem hd_bs (s : ByteArray) : hd (bs s) = bt s 0 := by
  by_cases h : 0 < s.size
  · have := bs_drop s 0 h; rw [List.drop_zero] at this; rw [this]; rfl
  · have := bs_drop_end s 0 (by omega); rw [List.drop_zero] at this; rw [this]; unfold bt; rw [dif_neg h]; rfl
theorem lst_bs (s : ByteArray) (h : 0 < s.size) : lst (bs s) = bt s (s.size - 1) := by rw [lst_get _ (bs_ne s h), bs_length, bs_getD]

/-! ### Label by label -/
def labelB (p : List Int) : Bool := !(p.isEmpty || decide (63 < p.length) || decide (hd p = 45) || decide (lst p = 45)) && p.all okB
def hostB (l : List Int) : Bool := (splitI l).all labelB

/-! ### The automaton -/
def autB (r : Nat) (prev : Int) : List Int → Bool
  | [] => decide (0 < r) && !decide (prev = 45)
  | c :: l => if c = 46 then !(decide (r = 0) || decide (prev = 45)) && autB 0 c l
    else okB c && !(decide (r = 0) && decide (c = 45)) && decide (r + 1 ≤ 63) && autB (r + 1) c l

def prevOf (p : List Int) : Int := if p = [] then 46 else lst p
def fineB (p : List Int) : Bool := p.all okB && decide (p.length ≤ 63) && !(!p.isEmpty && decide (hd p = 45))

theorem label_fine (p : List Int) (h : fineB p = true) : labelB p = (decide (0 < p.length) && !decide (prevOf p = 45)) := by
  unfold fineB at h
  simp only [Bool.and_eq_true, decide_eq_true_eq] at h
  obtain ⟨⟨h1, h2⟩, h3⟩ := h
  unfold labelB prevOf
  rw [h1]
  by_cases hp : p = []
  · subst hp; rfl
  · have e1 : p.isEmpty = false := by simpa using hp
    have e2 : 0 < p.length := List.length_pos_iff.2 hp
    have e3 : ¬ 63 < p.length := by omega
    rw [e1] at h3
    simp at h3
    simp [e1, e2, e3, h3, hp]
theorem label_foul (p q : List Int) (h : fineB p = false) : labelB (p ++ q) = false := by
  cases hl : labelB (p ++ q) with
  | false => rfl
  | true =>
    unfold labelB at hl
    simp only [Bool.and_eq_true, Bool.not_eq_true', Bool.or_eq_false_iff, decide_eq_false_iff_not, List.all_append] at hl
    obtain ⟨⟨⟨⟨h0, h1⟩, h2⟩, h3⟩, h4, h5⟩ := hl
    have e : fineB p = true := by
      unfold fineB
      rw [h4, decide_eq_true (by simp at h1; omega)]
      by_cases hp : p = []
      · subst hp; rfl
      · rw [hd_append p q hp] at h2
        simp [h2]
    rw [e] at h; cases h

theorem fine_snoc (p : List Int) (c : Int) (h : fineB p = true) : fineB (p ++ [c]) = (okB c && !(decide (p.length = 0) && decide (c = 45)) && decide (p.length + 1 ≤ 63)) := by
  unfold fineB at *
  simp only [Bool.and_eq_true, decide_eq_true_eq] at h
  obtain ⟨⟨h1, h2⟩, h3⟩ := h
  rw [List.all_append, h1]
  by_cases hp : p = []
  · subst hp; simp [hd]; rfl
  · have e1 : ¬ p.length = 0 := fun e => hp (List.eq_nil_of_length_eq_zero e)
    have e2 : p.isEmpty = false := by simpa using hp
    rw [e2] at h3
    simp at h3
    rw [hd_append p [c] hp]
    simp [h3, e1]

/-- THE PLAIN LAW, at whatever part of a label has been read. -/
theorem agree_at : ∀ (l p : List Int), dotless p → fineB p = true → hostB (p ++ l) = autB p.length (prevOf p) l
  | [], p, hd0, hf => by
    unfold hostB autB
    rw [List.append_nil, splitI_dotless p hd0]
    simp only [List.all_cons, List.all_nil, Bool.and_true]
    exact label_fine p hf
  | c :: l, p, hd0, hf => by
    by_cases hc : c = 46
    · subst hc
      have ih := agree_at l [] (fun c h => by simp at h) rfl
      unfold hostB at *
      rw [splitI_cut p l hd0, List.all_cons, label_fine p hf]
      rw [List.nil_append] at ih
      rw [ih, autB, if_pos rfl]
      have e : prevOf [] = 46 := rfl
      rw [e]
      have e2 : decide (0 < p.length) = !decide (p.length = 0) := by
        by_cases h : p.length = 0
        · simp [h]
        · rw [decide_eq_true (by omega), decide_eq_false h]; rfl
      rw [e2]
      cases decide (p.length = 0) <;> cases decide (prevOf p = 45) <;> rfl
    · have hd1 : dotless (p ++ [c]) := fun d hdm => by
        rcases List.mem_append.1 hdm with h | h
        · exact hd0 d h
        · simp at h; subst h; exact hc
      have hs := fine_snoc p c hf
      have e : p ++ c :: l = (p ++ [c]) ++ l := by simp
      rw [autB, if_neg hc]
      cases hg : fineB (p ++ [c]) with
      | true =>
        have ih := agree_at l (p ++ [c]) hd1 hg
        rw [e, ih]
        rw [hg] at hs
        rw [← hs]
        have e3 : prevOf (p ++ [c]) = c := by unfold prevOf; rw [if_neg (by simp), lst_snoc]
        have e4 : (p ++ [c]).length = p.length + 1 := by simp
        rw [e3, e4]; rfl
      | false =>
        rw [hg] at hs
        rw [← hs]
        obtain ⟨h, t, ht⟩ := splitI_cons l
        unfold hostB
        rw [e, splitI_onto (p ++ [c]) l h t hd1 ht, List.all_cons, label_foul _ h hg]; rfl
theorem agree (l : List Int) : hostB l = autB 0 46 l := agree_at l [] (fun c h => by simp at h) rfl

end Go.Proofs.Qxb6604198aDoor
