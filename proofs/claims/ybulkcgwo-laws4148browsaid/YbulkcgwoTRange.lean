import Derived.Test.YbulkcgwoTSeq
namespace Go.Proofs.Ybulkcgwo.T
open Go.RowKit Go.Shelf
set_option linter.unusedVariables false
set_option linter.unusedSimpArgs false

theorem only_put {F : Nat → Prop} (W : World) (l : Nat) (o : Obj) (h : F l) : Only F W (W.putObj l o) :=
  ⟨rfl, rfl, rfl, by simp, fun k _ hF => World.putObj_heap_other (fun e => hF (e ▸ h))⟩
theorem only_at {F : Nat → Prop} {W W' : World} (hO : Only F W W') {l : Nat} {o : Obj} (h : W.heap[l]? = some o) (hF : ¬ F l) : W'.heap[l]? = some o :=
  (hO.block l (Array.getElem?_eq_some_iff.1 h).1 hF).trans h

/-- A range over an iterator that writes a block of its own: the first that it lays. -/
theorem range_law {g : Operand} {ps : Array Tmp} {assign body : Code} {Q : Exit → Act → World → Prop} {a : Act} {w : World} {n : Nat} (gf : Nat) (lb : Array Value) (hg : a.eval g = .func (.func gf) #[] lb) (eg : ∀ args w, (callFunc gf args).run Yba.prog w = .ok (.enter gf args) w)
    (N : Nat) (xs : List Int) (Bs : Nat) (hBs : Bs < w.heap.size) (hps : ps.size = 1)
    (I : List Int → World → Prop) (hI : ∀ s V V', I s V → Only (fun k => k = w.heap.size ∨ k = w.heap.size + 1 ∨ k = w.heap.size + 2) V V' → I s V') (h0 : I [] w)
    (hseq : ∀ (J : List Int → World → Prop) (W1 : World), W1.heap.size = w.heap.size + 2 → Only (fun _ => False) w W1 → Rounds (w.heap.size + 1) N (fun k => k = w.heap.size + 1 ∨ k = Bs ∨ w.heap.size + 2 < k) J → (∀ pre V V', J pre V → Only (fun k => k = w.heap.size + 2) V V' → J pre V') → J [] W1 →
      Calls Yba.prog gf (#[.func (.yield (w.heap.size + 1)) #[] #[]] ++ lb) W1 fun e W' => (∃ v, e = .returned v) ∧ J xs W')
    (a₁ : Int → Act)
    (hassign : ∀ (m l : Nat) (x : Int) (W : World) (K : Act → World → Prop), K (a₁ x) W → assign.wpIn (Fence.wide.inRound l) m Yba.prog (Exit.then K (fun _ _ _ => False)) { tmps := (ps.zip #[Value.int .i64 x]).foldl (fun t (p, v) => t.setIfInBounds p v) a.tmps, defers := [] } W)
    (hbody : ∀ (m l : Nat) (pre : List Int) (x : Int) (W : World), I pre W → pre.length < N → w.heap.size + 2 ≤ W.heap.size → body.wpIn (Fence.wide.inRound l) m Yba.prog (fun e _ W' => e = .normal ∧ I (pre ++ [x]) W' ∧ Only (fun k => k = Bs ∨ w.heap.size + 2 < k) W W') (a₁ x) W)
    (hdone : ∀ W, I xs W → W.heap[w.heap.size]? = some (.deferred (some [])) → Q .normal { a with defers := { target := .collected w.heap.size, args := #[] } :: a.defers } W) :
    (Code.rangeFunc g ps assign body).wpIn Fence.wide n Yba.prog Q a w := by
  refine wpIn_rangeFunc ?_
  intro fn hfn
  obtain ⟨rec, hrec⟩ : ∃ rec : LoopState → Option Code → Loop, rec = fun st pe => { state := st, pending := pe, fn, tmps := a.tmps, params := ps, assign, body, defers := w.heap.size } := ⟨_, rfl⟩
  obtain ⟨W1, hW1⟩ : ∃ W1, (w.alloc (.deferred (some []))).alloc (.loop (rec .ready none)) = W1 := ⟨_, rfl⟩
  have hL1 : W1.heap[w.heap.size + 1]? = some (.loop (rec .ready none)) := by
    rw [← hW1]; have := World.alloc_heap_new (w.alloc (.deferred (some []))) (.loop (rec .ready none)); rwa [World.size_alloc] at this
  have hO1 : Only (fun _ => False) w W1 := by rw [← hW1]; exact ((Only.refl _ _).alloc _).alloc _
  have hK1 : W1.heap[w.heap.size]? = some (.deferred (some [])) := by
    rw [← hW1]; exact (Below.heap_alloc _ _ _ (by simp)).trans (World.alloc_heap_new w _)
  have hs1 : W1.heap.size = w.heap.size + 2 := by rw [← hW1]; simp
  have hI1 : I [] W1 := hI _ _ _ h0 (hO1.mono (fun _ _ h => h.elim))
  refine ⟨w.heap.size + 1, [{ target := .collected w.heap.size, args := #[] }], W1, { target := .fn (.func gf) lb, args := #[.func (.yield (w.heap.size + 1)) #[] #[]] }, W1, gf,
    #[.func (.yield (w.heap.size + 1)) #[] #[]] ++ lb, W1, ?_, ?_, ?_, ?_, fun h => ?_, ?_⟩
  · rw [← hW1, hrec]; exact run_enterLoop_outer _ _ _ _ _
  · simp only [resolve, hg]
    simp [go_sem]
  · intro f' hf'; trivial
  · simp [invoke, go_sem, eg]
  · simp [Fence.wide] at h
  · refine callsIn_wide.2 ?_
    refine (hseq (fun pre W => I pre W ∧ W.heap[w.heap.size + 1]? = some (.loop (rec .ready none)) ∧ W.heap[w.heap.size]? = some (.deferred (some []))) W1 hs1 hO1 ?_ ?_ ⟨hI1, hL1, hK1⟩).mono ?_
    · rintro pre x W ⟨hi, hl, hk⟩ hlen m
      have hlt : w.heap.size + 1 < W.heap.size := (Array.getElem?_eq_some_iff.1 hl).1
      have hy := run_yield (P := Yba.prog) (args := #[Value.int .i64 x]) hl (by rw [hrec]; simp [hps])
      rw [hrec] at hy
      refine ⟨fn, _, assign, body, hy, roundIn_of_wpIn hfn (hassign _ _ x W _ ⟨_, run_beginRound hl (by rw [hrec]), ?_⟩)⟩
      have hl2 : (W.putObj (w.heap.size + 1) (.loop { rec .ready none with state := .busy })).heap[w.heap.size + 1]? = some (.loop { rec .ready none with state := .busy }) := World.putObj_heap_same hlt
      have hk2 : (W.putObj (w.heap.size + 1) (.loop { rec .ready none with state := .busy })).heap[w.heap.size]? = some (.deferred (some [])) := (World.putObj_heap_other (by omega)).trans hk
      have hO2 : Only (fun k => k = w.heap.size ∨ k = w.heap.size + 1 ∨ k = w.heap.size + 2) W (W.putObj (w.heap.size + 1) (.loop { rec .ready none with state := .busy })) := only_put _ _ _ (.inr (.inl rfl))
      have hO2' : Only (fun k => k = w.heap.size + 1 ∨ k = Bs ∨ w.heap.size + 2 < k) W (W.putObj (w.heap.size + 1) (.loop { rec .ready none with state := .busy })) := only_put _ _ _ (.inl rfl)
      refine wpIn_mono (hbody _ _ pre x _ (hI _ _ _ hi hO2) hlen (by simp; omega)) ?_
      rintro e a3 W3 ⟨rfl, hi3, hO3⟩
      have hl3 := only_at hO3 hl2 (by omega)
      have hk3 := only_at hO3 hk2 (by omega)
      have hr := run_endRound (P := Yba.prog) none hl3
      rw [hrec] at hr
      have hl3' : w.heap.size + 1 < W3.heap.size := (Array.getElem?_eq_some_iff.1 hl3).1
      have hput : (W3.putObj (w.heap.size + 1) (.loop (rec .ready none))).heap[w.heap.size + 1]? = some (.loop (rec .ready none)) := World.putObj_heap_same hl3'
      refine ⟨.bool true, W3.putObj (w.heap.size + 1) (.loop (rec .ready none)), by rw [hrec]; exact hr, rfl, ⟨hI _ _ _ hi3 (only_put _ _ _ (.inr (.inl rfl))), hput, (World.putObj_heap_other (by omega)).trans hk3⟩, ?_⟩
      exact (hO2'.trans hO3 (fun k h => .inl (.inr h))).trans (only_put (F := fun k => k = w.heap.size + 1) _ _ _ rfl) (fun k h => .inl (.inl h))
    · rintro pre V V' ⟨hi, hl, hk⟩ hO
      exact ⟨hI _ _ _ hi (hO.mono (fun k _ h => .inr (.inr h))), only_at hO hl (by omega), only_at hO hk (by omega)⟩
    · rintro e W2 ⟨⟨v, rfl⟩, hi, hl, hk⟩
      exact ⟨none, _, by have := run_endLoop (P := Yba.prog) hl (by rw [hrec]; simp); rw [hrec] at this; exact this, hdone _ (hI _ _ _ hi (only_put _ _ _ (.inr (.inl rfl)))) ((World.putObj_heap_other (by omega)).trans hk)⟩
end Go.Proofs.Ybulkcgwo.T
