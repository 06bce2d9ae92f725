/-
  The plain part: widths of characters, positions by characters, line starts. No run of the model in this text.
-/
import Derived.Shelf.Unicode.DecodeSlow
namespace Go.Proofs.Qxb6604505aFmt
open Go.Lib

/-! ### Bytes -/
def bn (s : ByteArray) (k : Nat) : Nat := (s.get! k).toNat
def bt (s : ByteArray) (k : Nat) : Int := (bn s k : Int)
theorem bn_lt (s : ByteArray) (k : Nat) : bn s k < 256 := UInt8.toNat_lt _
theorem get_bt (s : ByteArray) : ∀ (n : Nat) (h : n < s.size), ((s[n]'h).toNat : Int) = bt s n := fun n h => by
  unfold bt bn; rw [Utf8W.get!_of_lt s n h]
theorem bt_nonneg (s : ByteArray) (k : Nat) : 0 ≤ bt s k := by unfold bt; omega
theorem bt_le (s : ByteArray) (k : Nat) : bt s k ≤ 255 := by unfold bt; have := bn_lt s k; omega

/-! ### The width of the character at a place -/
def wd (s : ByteArray) (i : Nat) : Nat := (Utf8.decode s i).2
theorem wd_is (s : ByteArray) (i : Nat) : wd s i = (decodeN (s.size - i) (bn s i) (bn s (i + 1)) (bn s (i + 2)) (bn s (i + 3))).2 := by
  unfold wd; rw [decode_at]; rfl
/-- A character of more than one byte: its later bytes lie within the text and are no ASCII. -/
theorem decodeN_spec (n b0 b1 b2 b3 : Nat) :
    ((decodeN n b0 b1 b2 b3).2 = 1) ∨
    ((decodeN n b0 b1 b2 b3).2 = 2 ∧ 128 ≤ b0 ∧ 1 < n ∧ 128 ≤ b1) ∨
    ((decodeN n b0 b1 b2 b3).2 = 3 ∧ 128 ≤ b0 ∧ 2 < n ∧ 128 ≤ b1 ∧ 128 ≤ b2) ∨
    ((decodeN n b0 b1 b2 b3).2 = 4 ∧ 128 ≤ b0 ∧ 3 < n ∧ 128 ≤ b1 ∧ 128 ≤ b2 ∧ 128 ≤ b3) := by
  unfold decodeN
  repeat' split
  all_goals simp
  all_goals omega
theorem wd_pos (s : ByteArray) (i : Nat) : 1 ≤ wd s i := by
  rw [wd_is]
  rcases decodeN_spec (s.size - i) (bn s i) (bn s (i + 1)) (bn s (i + 2)) (bn s (i + 3)) with h | h | h | h <;> omega
theorem wd_ascii (s : ByteArray) (i : Nat) (h : bn s i < 128) : wd s i = 1 := by
  rw [wd_is]
  rcases decodeN_spec (s.size - i) (bn s i) (bn s (i + 1)) (bn s (i + 2)) (bn s (i + 3)) with h | h | h | h <;> omega
theorem wd_end (s : ByteArray) (i : Nat) (h : i < s.size) : i + wd s i ≤ s.size := by
  rw [wd_is]
  rcases decodeN_spec (s.size - i) (bn s i) (bn s (i + 1)) (bn s (i + 2)) (bn s (i + 3)) with h | h | h | h <;> omega
theorem wd_inner (s : ByteArray) (i j : Nat) (h1 : i < j) (h2 : j < i + wd s i) : 128 ≤ bn s j := by
  rw [wd_is] at h2
  rcases decodeN_spec (s.size - i) (bn s i) (bn s (i + 1)) (bn s (i + 2)) (bn s (i + 3)) with h | h | h | h
  · omega
  · obtain rfl : j = i + 1 := by omega
    omega
  · have : j = i + 1 ∨ j = i + 2 := by omega
    rcases this with rfl | rfl <;> omega
  · have : j = i + 1 ∨ j = i + 2 ∨ j = i + 3 := by omega
    rcases this with rfl | rfl | rfl <;> omega

/-- The library's decoder on what is left of the text gives this width. -/
theorem decodeGo_drop (s : ByteArray) (i : Nat) (h : i < s.size) : (Lib.decodeGo (s.extract i s.size)).2 = wd s i := by
  have hz : (s.extract i s.size).size = s.size - i := by rw [ByteArray.size_extract]; omega
  have hg : ∀ k, (s.extract i s.size).get! k = s.get! (i + k) := fun k => by
    by_cases hk : i + k < s.size
    · rw [Utf8W.get!_of_lt _ k (by omega), Utf8W.get!_of_lt s (i + k) hk]
      exact ByteArray.getElem_extract _
    · have out : ∀ (t : ByteArray) (j : Nat), t.size ≤ j → t.get! j = default := fun t j hj => by
        obtain ⟨a⟩ := t
        show a[j]! = default
        exact getElem!_neg _ _ (by show ¬ j < a.size; exact Nat.not_lt.2 hj)
      rw [out _ k (by omega), out s (i + k) (by omega)]
  unfold Lib.decodeGo
  rw [if_neg (by omega), wd_is, decode_at, hz, hg, hg, hg, hg]
  rfl

/-! ### The law's own width -/
def sz0 (b : Nat) : Nat := if b < 194 then 1 else if b < 224 then 2 else if b < 240 then 3 else if b < 245 then 4 else 1
def lo0 (b : Nat) : Nat := if b = 224 then 160 else if b = 240 then 144 else 128
def hi0 (b : Nat) : Nat := if b = 237 then 159 else if b = 244 then 143 else 191
/-- Lead byte by class, then the later bytes. -/
def wz (n b0 b1 b2 b3 : Nat) : Nat :=
  if sz0 b0 = 1 then 1
  else if n < sz0 b0 then 1
  else if b1 < lo0 b0 ∨ hi0 b0 < b1 then 1
  else if sz0 b0 = 2 then 2
  else if b2 < 128 ∨ 191 < b2 then 1
  else if sz0 b0 = 3 then 3
  else if b3 < 128 ∨ 191 < b3 then 1
  else 4
set_option maxHeartbeats 2000000 in
theorem wz_is (n b0 b1 b2 b3 : Nat) (hn : 1 ≤ n) (h0 : b0 < 256) (h1 : b1 < 256) (h2 : b2 < 256) (h3 : b3 < 256) : wz n b0 b1 b2 b3 = (decodeN n b0 b1 b2 b3).2 := by
  by_cases c1 : b0 < 128
  · have e : sz0 b0 = 1 := by unfold sz0; rw [if_pos (by omega)]
    unfold wz decodeN
    rw [if_pos e, if_pos c1]
  by_cases c2 : b0 < 194 ∨ 245 ≤ b0
  · have e : sz0 b0 = 1 := by
      unfold sz0
      rcases c2 with c2 | c2
      · rw [if_pos c2]
      · rw [if_neg (by omega), if_neg (by omega), if_neg (by omega), if_neg (by omega)]
    unfold wz
    rw [if_pos e]
    unfold decodeN
    repeat' split
    all_goals first | rfl | (exfalso; omega)
  have fin : ∀ sz lo hi, sz0 b0 = sz → lo0 b0 = lo → hi0 b0 = hi → (sz = 2 ∨ sz = 3 ∨ sz = 4) → wz n b0 b1 b2 b3 = (slowN n b0 b1 b2 b3 sz lo hi).2 := fun sz lo hi e1 e2 e3 h => by
    unfold wz slowN
    rw [e1, e2, e3]
    repeat' split
    all_goals first | rfl | (exfalso; omega)
  by_cases d1 : b0 < 224
  · rw [fin 2 128 191 (by unfold sz0; rw [if_neg (by omega), if_pos d1]) (by unfold lo0; rw [if_neg (by omega), if_neg (by omega)]) (by unfold hi0; rw [if_neg (by omega), if_neg (by omega)]) (by omega), slow_C2 n b0 b1 b2 b3 hn h1 h2 h3 (by omega)]
  have s3 : b0 < 240 → sz0 b0 = 3 := fun h => by unfold sz0; rw [if_neg (by omega), if_neg d1, if_pos h]
  have s4 : ¬ b0 < 240 → sz0 b0 = 4 := fun h => by unfold sz0; rw [if_neg (by omega), if_neg d1, if_neg h, if_pos (by omega)]
  by_cases d2 : b0 = 224
  · rw [fin 3 160 191 (s3 (by omega)) (by unfold lo0; rw [if_pos d2]) (by unfold hi0; rw [if_neg (by omega), if_neg (by omega)]) (by omega), slow_E0 n b0 b1 b2 b3 hn h1 h2 h3 d2]
  by_cases d3 : b0 = 237
  · rw [fin 3 128 159 (s3 (by omega)) (by unfold lo0; rw [if_neg (by omega), if_neg (by omega)]) (by unfold hi0; rw [if_pos d3]) (by omega), slow_ED n b0 b1 b2 b3 hn h1 h2 h3 d3]
  by_cases d4 : b0 < 240
  · rw [fin 3 128 191 (s3 d4) (by unfold lo0; rw [if_neg (by omega), if_neg (by omega)]) (by unfold hi0; rw [if_neg (by omega), if_neg (by omega)]) (by omega), slow_E1 n b0 b1 b2 b3 hn h1 h2 h3 (by omega)]
  by_cases d5 : b0 = 240
  · rw [fin 4 144 191 (s4 d4) (by unfold lo0; rw [if_neg (by omega), if_pos d5]) (by unfold hi0; rw [if_neg (by omega), if_neg (by omega)]) (by omega), slow_F0 n b0 b1 b2 b3 hn h1 h2 h3 d5]
  by_cases d6 : b0 = 244
  · rw [fin 4 128 143 (s4 d4) (by unfold lo0; rw [if_neg (by omega), if_neg (by omega)]) (by unfold hi0; rw [if_neg (by omega), if_pos d6]) (by omega), slow_F4 n b0 b1 b2 b3 hn h1 h2 h3 d6]
  · rw [fin 4 128 191 (s4 d4) (by unfold lo0; rw [if_neg (by omega), if_neg (by omega)]) (by unfold hi0; rw [if_neg (by omega), if_neg (by omega)]) (by omega), slow_F1 n b0 b1 b2 b3 hn h1 h2 h3 (by omega)]
theorem wd_wz (s : ByteArray) (i : Nat) (h : i < s.size) : wd s i = wz (s.size - i) (bn s i) (bn s (i + 1)) (bn s (i + 2)) (bn s (i + 3)) := by
  rw [wd_is, wz_is _ _ _ _ _ (by omega) (bn_lt s _) (bn_lt s _) (bn_lt s _) (bn_lt s _)]

/-! ### Positions by characters -/
def pos (s : ByteArray) (st : Nat) : Nat → Nat
  | 0 => st
  | k + 1 => pos s st k + wd s (pos s st k)
theorem pos_ge (s : ByteArray) (st : Nat) : ∀ k, st + k ≤ pos s st k
  | 0 => Nat.le_refl _
  | k + 1 => by have := pos_ge s st k; have := wd_pos s (pos s st k); show st + (k + 1) ≤ pos s st k + wd s (pos s st k); omega
theorem pos_lt (s : ByteArray) (st : Nat) : ∀ (j k : Nat), j < k → pos s st j < pos s st k
  | j, k + 1, h => by
    have hw := wd_pos s (pos s st k)
    have e : pos s st (k + 1) = pos s st k + wd s (pos s st k) := rfl
    by_cases hj : j = k
    · subst hj; omega
    · have := pos_lt s st j k (by omega); omega
/-- k characters from st on lie wholly at or before off, and no more. -/
def At (s : ByteArray) (st off k : Nat) : Prop := pos s st k ≤ off ∧ off < pos s st (k + 1)
theorem At.same {s : ByteArray} {st off k k' : Nat} (h : At s st off k) (h' : At s st off k') : k = k' := by
  rcases Nat.lt_trichotomy k k' with g | g | g
  · have : pos s st (k + 1) ≤ pos s st k' := by
      rcases Nat.eq_or_lt_of_le (show k + 1 ≤ k' from g) with e | e
      · rw [e]; exact Nat.le_refl _
      · exact Nat.le_of_lt (pos_lt s st _ _ e)
    have := h.2; have := h'.1; omega
  · exact g
  · have : pos s st (k' + 1) ≤ pos s st k := by
      rcases Nat.eq_or_lt_of_le (show k' + 1 ≤ k from g) with e | e
      · rw [e]; exact Nat.le_refl _
      · exact Nat.le_of_lt (pos_lt s st _ _ e)
    have := h'.2; have := h.1; omega

/-! ### Line starts -/
def ls (s : ByteArray) : Nat → Nat
  | 0 => 0
  | k + 1 => if bn s k = 10 then k + 1 else ls s k
theorem ls_le (s : ByteArray) : ∀ k, ls s k ≤ k
  | 0 => Nat.le_refl _
  | k + 1 => by unfold ls; split; exact Nat.le_refl _; have := ls_le s k; omega
theorem ls_same (s : ByteArray) (p : Nat) : ∀ (d : Nat), (∀ j, p ≤ j → j < p + d → bn s j ≠ 10) → ls s (p + d) = ls s p
  | 0, _ => rfl
  | d + 1, h => by
    have ih := ls_same s p d fun j h1 h2 => h j h1 (by omega)
    rw [← Nat.add_assoc]
    rw [ls, if_neg (h (p + d) (by omega) (by omega)), ih]
/-- Over one character that is no line feed the line stays. -/
theorem ls_char (s : ByteArray) (p q : Nat) (h10 : bn s p ≠ 10) (h1 : p ≤ q) (h2 : q ≤ p + wd s p) : ls s q = ls s p := by
  have := ls_same s p (q - p) fun j hj1 hj2 => by
    by_cases e : j = p
    · rw [e]; exact h10
    · have := wd_inner s p j (by omega) (by omega); omega
  rw [← this]; congr 1; omega
theorem ls_lf (s : ByteArray) (p : Nat) (h10 : bn s p = 10) : ls s (p + 1) = p + 1 := by rw [ls, if_pos h10]
/-- Inside a character the line is its own first byte's. -/
theorem ls_in (s : ByteArray) (p q : Nat) (h1 : p ≤ q) (h2 : q < p + wd s p) : ls s q = ls s p := by
  by_cases h10 : bn s p = 10
  · have := wd_ascii s p (by omega)
    obtain rfl : q = p := by omega
    rfl
  · exact ls_char s p q h10 h1 (by omega)

/-- The starts of the lines that begin within the first k bytes, or just behind them. -/
def stL (s : ByteArray) : Nat → List Int
  | 0 => [0]
  | k + 1 => if bn s k = 10 then stL s k ++ [((k + 1 : Nat) : Int)] else stL s k
theorem stL_len (s : ByteArray) : ∀ k, 1 ≤ (stL s k).length ∧ (stL s k).length ≤ k + 1
  | 0 => by simp [stL]
  | k + 1 => by
    have := stL_len s k
    unfold stL
    split
    · simp; omega
    · omega
theorem stL_le (s : ByteArray) : ∀ k, ∀ x ∈ stL s k, 0 ≤ x ∧ x ≤ (ls s k : Int)
  | 0 => by simp [stL, ls]
  | k + 1 => by
    intro x hx
    unfold stL at hx
    unfold ls
    split at hx
    · rename_i h10
      rw [if_pos h10]
      have hl := ls_le s k
      rcases List.mem_append.1 hx with h | h
      · have := stL_le s k x h; omega
      · simp at h; omega
    · rename_i h10
      rw [if_neg h10]
      exact stL_le s k x hx
theorem stL_sorted (s : ByteArray) : ∀ k, (stL s k).Pairwise (· < ·)
  | 0 => by simp [stL]
  | k + 1 => by
    unfold stL
    split
    · rw [List.pairwise_append]
      refine ⟨stL_sorted s k, by simp, fun a ha b hb => ?_⟩
      have := stL_le s k a ha
      have hl := ls_le s k
      simp at hb; omega
    · exact stL_sorted s k
theorem stL_last (s : ByteArray) : ∀ k, (stL s k).getD ((stL s k).length - 1) 0 = (ls s k : Int)
  | 0 => by simp [stL, ls]
  | k + 1 => by
    unfold stL ls
    split
    · simp
    · exact stL_last s k
/-- Behind off only greater starts come. -/
theorem stL_more (s : ByteArray) (off : Nat) : ∀ d, ∃ t, stL s (off + d) = stL s off ++ t ∧ ∀ x ∈ t, (off : Int) < x
  | 0 => ⟨[], by simp, by simp⟩
  | d + 1 => by
    obtain ⟨t, e, h⟩ := stL_more s off d
    rw [← Nat.add_assoc]
    have eu : stL s (off + d + 1) = if bn s (off + d) = 10 then stL s (off + d) ++ [((off + d + 1 : Nat) : Int)] else stL s (off + d) := rfl
    rw [eu]
    split
    · refine ⟨t ++ [((off + d + 1 : Nat) : Int)], by rw [e]; simp, fun x hx => ?_⟩
      rcases List.mem_append.1 hx with hx | hx
      · exact h x hx
      · simp at hx; omega
    · exact ⟨t, e, h⟩

/-- THE LINE OF AN OFFSET, as the search finds it. -/
theorem search_line (s : ByteArray) (n off : Nat) (h : off ≤ n) :
    (if (stL s n).contains (off : Int) then (((stL s n).countP (· < (off : Int)) : Nat) : Int) else (((stL s n).countP (· < (off : Int)) : Nat) : Int) - 1) = (((stL s off).length - 1 : Nat) : Int) ∧
    (stL s n).getD ((stL s off).length - 1) 0 = (ls s off : Int) ∧ (stL s off).length - 1 < (stL s n).length := by
  obtain ⟨t, e, ht⟩ := stL_more s off (n - off)
  rw [show off + (n - off) = n from by omega] at e
  have hlen := (stL_len s off).1
  have hlast := stL_last s off
  have hle := stL_le s off
  have hso := stL_sorted s off
  have hls := ls_le s off
  have hct : t.countP (· < (off : Int)) = 0 := List.countP_eq_zero.2 fun x hx => by have := ht x hx; simp; omega
  have htc : t.contains (off : Int) = false := by
    cases hc : t.contains (off : Int) with
    | false => rfl
    | true => have := ht _ (List.contains_iff_mem.1 hc); omega
  refine ⟨?_, ?_, ?_⟩
  · rw [e, List.countP_append, hct, List.contains_append, htc, Bool.or_false, Nat.add_zero]
    by_cases heq : ls s off = off
    · -- the offset is a start itself: it is the last one of its list
      obtain ⟨a, x, hax⟩ : ∃ a x, stL s off = a ++ [x] := by
        rcases List.eq_nil_or_concat (stL s off) with h0 | ⟨a, x, h0⟩
        · rw [h0] at hlen; simp at hlen
        · exact ⟨a, x, by rw [h0, List.concat_eq_append]⟩
      have hx : x = (off : Int) := by rw [hax] at hlast; simp at hlast; omega
      subst hx
      have hcp : (stL s off).countP (· < (off : Int)) = a.length := by
        rw [hax, List.countP_append]
        rw [hax, List.pairwise_append] at hso
        have : a.countP (· < (off : Int)) = a.length := List.countP_eq_length.2 fun y hy => by
          have := hso.2.2 y hy _ (List.mem_singleton.2 rfl); simpa using this
        rw [this]; simp
      have hcn : (stL s off).contains (off : Int) = true := by rw [hax]; simp
      rw [hcp, hcn, hax]; simp
    · have hcp : (stL s off).countP (· < (off : Int)) = (stL s off).length := List.countP_eq_length.2 fun y hy => by
        have := hle y hy; simp; omega
      have hcn : (stL s off).contains (off : Int) = false := by
        cases hc : (stL s off).contains (off : Int) with
        | false => rfl
        | true => have := hle _ (List.contains_iff_mem.1 hc); omega
      rw [hcp, hcn]; simp; omega
  · rw [e, ← hlast]
    simp [List.getD_eq_getElem?_getD, List.getElem?_append_left (show (stL s off).length - 1 < (stL s off).length by omega)]
  · rw [e]; simp; omega

/-! ### The two laws -/
/-- One byte on. -/
theorem step_lf (s : ByteArray) (off k : Nat) (h10 : bn s off = 10) (h : At s (ls s (off + 1)) (off + 1) k) : k = 0 := by
  rw [ls_lf s off h10] at h
  have := pos_ge s (off + 1) k
  have := h.1; omega
theorem step_ascii (s : ByteArray) (off k k' : Nat) (h10 : bn s off ≠ 10) (ha : bn s off < 128) (h : At s (ls s off) off k) (h' : At s (ls s (off + 1)) (off + 1) k') : k' = k + 1 := by
  have e : ls s (off + 1) = ls s off := by rw [ls, if_neg h10]
  rw [e] at h'
  have e2 : pos s (ls s off) (k + 1) = pos s (ls s off) k + wd s (pos s (ls s off) k) := rfl
  have hp : pos s (ls s off) k = off := by
    have h1 := h.1
    have h2 := h.2
    by_cases g : pos s (ls s off) k < off
    · have := wd_inner s (pos s (ls s off) k) off g (by omega); omega
    · omega
  rw [hp, wd_ascii s off ha] at e2
  refine h'.same ⟨by omega, ?_⟩
  have := pos_lt s (ls s off) (k + 1) (k + 1 + 1) (by omega)
  omega
theorem step_any (s : ByteArray) (off k k' : Nat) (h10 : bn s off ≠ 10) (h : At s (ls s off) off k) (h' : At s (ls s (off + 1)) (off + 1) k') : k' = k ∨ k' = k + 1 := by
  have e : ls s (off + 1) = ls s off := by rw [ls, if_neg h10]
  rw [e] at h'
  have h1 := h.1
  have h2 := h.2
  by_cases g : pos s (ls s off) (k + 1) = off + 1
  · right
    refine h'.same ⟨by omega, ?_⟩
    have := pos_lt s (ls s off) (k + 1) (k + 1 + 1) (by omega)
    omega
  · left
    exact h'.same ⟨by omega, by omega⟩
theorem col_le (s : ByteArray) (off k : Nat) (h : At s (ls s off) off k) : k ≤ off - ls s off := by
  have := pos_ge s (ls s off) k
  have := h.1; omega

end Go.Proofs.Qxb6604505aFmt
