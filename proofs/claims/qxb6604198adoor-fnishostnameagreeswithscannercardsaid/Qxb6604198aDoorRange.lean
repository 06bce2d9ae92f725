/-
  A loop over the library's iterator of pieces: the iterator writes its own box, so the loop's invariant must abide that; stated for this program and this iterator.
-/
import Derived.Test.Qxb6604198aDoorSeq
namespace Go.Proofs.Qxb6604198aDoor
open Go.RowKit Go.Shelf
attribute [local go_sem] Oper.semAt_some

theorem range_split {g : Operand} {ps : Array Tmp} {assign body : Code} {Q : Exit → Act → World → Prop} {a : Act} {w : World} (n B n₀ : Nat) (hn : 4 ≤ n) (s : ByteArray) (hs : s.size ≤ 253)
    (hg : a.eval g = .func (.func 9) #[] #[.pointer (some ⟨B + 1, 0, none⟩), .pointer (some ⟨B, 0, none⟩), .pointer (some ⟨B + 2, 0, none⟩)]) (hps : ps.size = 1) (hB : B + 2 < n₀) (hn0 : n₀ ≤ w.heap.size)
    (hc0 : w.cell? ⟨B, 0, none⟩ = some (.string s)) (hf : w.frozen? ⟨B, 0, none⟩ = false) (hc1 : w.cell? ⟨B + 1, 0, none⟩ = some (.string ⟨#[46]⟩)) (hc2 : w.cell? ⟨B + 2, 0, none⟩ = some (.int .i64 0))
    (I : List ByteArray → World → Prop) (Ix : Code → List ByteArray → World → Prop)
    (hIp : ∀ pre W k o o', w.heap.size ≤ k → W.heap[k]? = some o → o.isCells = false → I pre W → I pre (W.putObj k o'))
    (hIxp : ∀ c pre W k o o', w.heap.size ≤ k → W.heap[k]? = some o → o.isCells = false → Ix c pre W → Ix c pre (W.putObj k o'))
    (hIs : ∀ pre W v, I pre W → I pre (W.setCell ⟨B, 0, none⟩ v)) (hI1 : ∀ o1 o2, I [] ((w.alloc o1).alloc o2)) (a₁ : ByteArray → Act)
    (hassign : ∀ (l : Nat) (x : ByteArray) (W : World) (K : Act → World → Prop), K (a₁ x) W →
      assign.wpIn (Fence.wide.inRound l) (n - 1 - 1) Tryd.prog (Exit.then K (fun _ _ _ => False)) { tmps := (ps.zip #[.string x]).foldl (fun t (p, v) => t.setIfInBounds p v) a.tmps, defers := [] } W)
    (hbody : ∀ (l : Nat) (pre : List ByteArray) (x : ByteArray) (W : World), I pre W → body.wpIn (Fence.wide.inRound l) (n - 1 - 1) Tryd.prog (ownPostK (Below n₀) I Ix (pre ++ [x]) W) (a₁ x) W)
    (hdone : ∀ (D : Nat) (pre : List ByteArray) (W : World), w.heap.size ≤ D → pre.map bs = splitI (bs s) → I pre W → W.heap[D]? = some (.deferred (some [])) → Q .normal { a with defers := { target := .collected D, args := #[] } :: a.defers } W)
    (hstop : ∀ (D : Nat) (c : Code) (pre : List ByteArray) (t : List (List Int)) (W : World), w.heap.size ≤ D → pre.map bs ++ t = splitI (bs s) → Ix c pre W → W.heap[D]? = some (.deferred (some [])) →
      c.wpIn Fence.wide n Tryd.prog Q { a with defers := { target := .collected D, args := #[] } :: a.defers } W) :
    (Code.rangeFunc g ps assign body).wpIn Fence.wide n Tryd.prog Q a w := by
  refine wpIn_rangeFunc ?_
  intro fn hfn
  have hro : Fence.wide.round = none := rfl
  rw [hro]
  obtain ⟨rec, hrec⟩ : ∃ rec : LoopState → Option Code → Loop, rec = fun st pe => { state := st, pending := pe, fn, tmps := a.tmps, params := ps, assign, body, defers := w.heap.size } := ⟨_, rfl⟩
  obtain ⟨W1, hW1⟩ : ∃ W1, (w.alloc (.deferred (some []))).alloc (.loop (rec .ready none)) = W1 := ⟨_, rfl⟩
  have hL1 : W1.heap[w.heap.size + 1]? = some (.loop (rec .ready none)) := by
    rw [← hW1]
    have := World.alloc_heap_new (w.alloc (.deferred (some []))) (.loop (rec .ready none))
    rwa [World.size_alloc] at this
  have hK1 : W1.heap[w.heap.size]? = some (.deferred (some [])) := by
    rw [← hW1]; exact (Below.heap_alloc _ _ _ (by simp)).trans (World.alloc_heap_new w _)
  have hb1 : Below w.heap.size w W1 := by
    rw [← hW1]; exact ((Below.refl _ w).alloc (Nat.le_refl _) _).alloc (by simp) _
  have hII : I [] W1 := by rw [← hW1]; exact hI1 _ _
  refine ⟨w.heap.size + 1, [{ target := .collected w.heap.size, args := #[] }], W1, { target := .fn (.func 9) #[.pointer (some ⟨B + 1, 0, none⟩), .pointer (some ⟨B, 0, none⟩), .pointer (some ⟨B + 2, 0, none⟩)], args := #[.func (.yield (w.heap.size + 1)) #[] #[]] }, W1, 9,
    #[.func (.yield (w.heap.size + 1)) #[] #[], .pointer (some ⟨B + 1, 0, none⟩), .pointer (some ⟨B, 0, none⟩), .pointer (some ⟨B + 2, 0, none⟩)], W1, ?_, ?_, ?_, ?_, fun _ => by omega, ?_⟩
  · rw [← hW1, hrec]; exact run_enterLoop_outer _ _ _ _ _
  · simp only [resolve, hg]
    simp [go_sem]
  · intro f' _; trivial
  · have eg : ∀ args w, (callFunc 9 args).run Tryd.prog w = .ok (.enter 9 args) w := enters_of Tryd.func9 (by kernel_rfl) rfl
    simp [invoke, go_sem, eg]
  · have hlt1 : B < w.heap.size := by omega
    have hlt2 : B + 1 < w.heap.size := by omega
    have hlt3 : B + 2 < w.heap.size := by omega
    refine (seq_in (n - 1) (w.heap.size + 1) B n₀ (by omega) s hs
      (fun pre W => I pre W ∧ W.heap[w.heap.size + 1]? = some (.loop (rec .ready none)) ∧ W.heap[w.heap.size]? = some (.deferred (some [])))
      (fun pre W => ∃ c, Ix c pre W ∧ W.heap[w.heap.size + 1]? = some (.loop (rec .done (some c))) ∧ W.heap[w.heap.size]? = some (.deferred (some [])))
      (fun pre W v h => ⟨hIs pre W v h.1, (KeepsOthers.setCell W ⟨B, 0, none⟩ v).same _ _ h.2.1 rfl, (KeepsOthers.setCell W ⟨B, 0, none⟩ v).same _ _ h.2.2 rfl⟩)
      ?_ W1 hB ((hb1.cell (p := ⟨B, 0, none⟩) hlt1).trans hc0) ((hb1.frozen (p := ⟨B, 0, none⟩) hlt1).trans hf) ((hb1.cell (p := ⟨B + 1, 0, none⟩) hlt2).trans hc1) ((hb1.cell (p := ⟨B + 2, 0, none⟩) hlt3).trans hc2) ⟨hII, hL1, hK1⟩).mono ?_
    · rintro pre x W ⟨hi, hl, hk⟩
      have hlt : w.heap.size + 1 < W.heap.size := (Array.getElem?_eq_some_iff.1 hl).1
      have hy := run_yield (P := Tryd.prog) (args := #[.string x]) hl (by rw [hrec]; exact hps.symm)
      rw [hrec] at hy
      refine ⟨fn, _, assign, body, hy, roundIn_of_wpIn hfn (hassign _ x W _ ⟨_, run_beginRound hl (by rw [hrec]), ?_⟩)⟩
      have hl2 : (W.putObj (w.heap.size + 1) (.loop { rec .ready none with state := .busy })).heap[w.heap.size + 1]? = some (.loop { rec .ready none with state := .busy }) := World.putObj_heap_same hlt
      have hk2 : (W.putObj (w.heap.size + 1) (.loop { rec .ready none with state := .busy })).heap[w.heap.size]? = some (.deferred (some [])) := (World.putObj_heap_other (by omega)).trans hk
      have hw2 : Below n₀ W (W.putObj (w.heap.size + 1) (.loop { rec .ready none with state := .busy })) := belowK_b (w := w) hn0 _ _ _ _ (by omega) hl rfl rfl
      refine wpIn_mono (hbody _ pre x _ (hIp _ _ _ _ _ (by omega) hl rfl hi)) ?_
      have fin : ∀ (jump : Option Code) (W3 : World), KeepsOthers (W.putObj (w.heap.size + 1) (.loop { rec .ready none with state := .busy })) W3 →
          (Instr.endRound (w.heap.size + 1) jump).run Tryd.prog W3 = .ok (.bool jump.isNone) (W3.putObj (w.heap.size + 1) (.loop (rec (if jump.isNone then .ready else .done) jump))) ∧
          W3.heap[w.heap.size + 1]? = some (.loop { rec .ready none with state := .busy }) ∧
          (W3.putObj (w.heap.size + 1) (.loop (rec (if jump.isNone then .ready else .done) jump))).heap[w.heap.size + 1]? = some (.loop (rec (if jump.isNone then .ready else .done) jump)) ∧
          (W3.putObj (w.heap.size + 1) (.loop (rec (if jump.isNone then .ready else .done) jump))).heap[w.heap.size]? = some (.deferred (some [])) := fun jump W3 hk3 => by
        have hl3 := hk3.same _ _ hl2 rfl
        have he := run_endRound (P := Tryd.prog) jump hl3
        rw [hrec] at he ⊢
        exact ⟨he, by rw [hrec] at hl3; exact hl3, World.putObj_heap_same (Array.getElem?_eq_some_iff.1 hl3).1, (World.putObj_heap_other (by omega)).trans (hk3.same _ _ hk2 rfl)⟩
      rintro e a3 W3 hp
      cases e with
      | normal =>
        obtain ⟨hk3, hkp3, hi3⟩ := hp
        obtain ⟨hr, hl3, hl4, hk4⟩ := fin none W3 hk3
        exact ⟨_, _, hr, .inl ⟨rfl, ⟨hIp _ _ _ _ _ (by omega) hl3 rfl hi3, hl4, hk4⟩, (hw2.trans hkp3).trans (belowK_b (w := w) hn0 _ _ _ _ (by omega) hl3 rfl rfl)⟩⟩
      | ret =>
        obtain ⟨hk3, hi3⟩ := hp
        obtain ⟨hr, hl3, hl4, hk4⟩ := fin (some .ret) W3 hk3
        exact ⟨_, _, hr, .inr ⟨rfl, .ret, hIxp _ _ _ _ _ _ (by omega) hl3 rfl hi3, hl4, hk4⟩⟩
      | exit id =>
        obtain ⟨hk3, hi3⟩ := hp
        obtain ⟨hr, hl3, hl4, hk4⟩ := fin (some (.exit id)) W3 hk3
        exact ⟨_, _, hr, .inr ⟨rfl, .exit id, hIxp _ _ _ _ _ _ (by omega) hl3 rfl hi3, hl4, hk4⟩⟩
      | goto t =>
        obtain ⟨hk3, hi3⟩ := hp
        obtain ⟨hr, hl3, hl4, hk4⟩ := fin (some (.goto t)) W3 hk3
        exact ⟨_, _, hr, .inr ⟨rfl, .goto t, hIxp _ _ _ _ _ _ (by omega) hl3 rfl hi3, hl4, hk4⟩⟩
      | panic ch => exact hp.elim
      | outgrown => exact hp.elim
    · rintro e W2 ⟨⟨v, rfl⟩, (⟨pre, hS, hi, hl, hk⟩ | ⟨pre, t, hSp, c, hi, hl, hk⟩)⟩
      · exact ⟨none, _, by have he := run_endLoop (P := Tryd.prog) hl (by rw [hrec]; simp); rw [hrec] at he; exact he, hdone _ pre _ (Nat.le_refl _) hS (hIp _ _ _ _ _ (by omega) hl rfl hi) ((World.putObj_heap_other (by omega)).trans hk)⟩
      · exact ⟨some c, _, by have he := run_endLoop (P := Tryd.prog) hl (by rw [hrec]; simp); rw [hrec] at he; exact he, hstop _ c pre t _ (Nat.le_refl _) hSp (hIxp _ _ _ _ _ _ (by omega) hl rfl hi) ((World.putObj_heap_other (by omega)).trans hk)⟩

end Go.Proofs.Qxb6604198aDoor
