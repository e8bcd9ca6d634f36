import Derived.Test.YbulkcgwoTEach2
namespace Go.Proofs.Ybulkcgwo.T
open Go.RowKit Go.Shelf
set_option linter.unusedVariables false
set_option linter.unusedSimpArgs false

/-- What the iterator reads of the set. -/
structure Reads (w : World) (sb hb : Nat) (cv sv : Value) (n g : Int) (t : Tree) : Prop where
  ne : t ≠ none
  own : Own w sb cv sv (rootT t) n g (some ⟨hb, 0, none⟩)
  hol : Hol w sb hb g
  ok : TOK w t
  small : (flatT t).length ≤ 5000
theorem Reads.kept {w w' : World} {sb hb : Nat} {cv sv : Value} {n g : Int} {t : Tree} (h : Reads w sb hb cv sv n g t) {F : Nat → Prop} (hO : Only F w w') (h1 : ¬ F sb) (h2 : ¬ F hb) (h3 : ∀ k, footT t k → ¬ F k) : Reads w' sb hb cv sv n g t :=
  ⟨h.ne, h.own.kept hO h1, h.hol.kept hO h2, h.ok.kept hO h3, h.small⟩

theorem eachT (l N : Nat) (FF : Nat → Prop) (J : List Int → World → Prop) (hY : Rounds l N FF J) (cb sb hb : Nat) (hJs : ∀ pre W W', J pre W → Only (fun k => k = cb) W W' → J pre W') (cv sv : Value) (n g : Int) (t : Tree) (W : World) (hJ : J [] W) (hB : Begun W cb sb g t) (hR : Reads W sb hb cv sv n g t)
    (hFo : ∀ k, footT t k → ¬ (FF k ∨ k = cb)) (f2 : ¬ (FF sb ∨ sb = cb)) (f3 : ¬ (FF hb ∨ hb = cb)) (f4 : ¬ FF cb) (hN : (flatT t).length ≤ N) :
    Calls Yba.prog 72 #[.pointer (some ⟨cb, 0, none⟩), .func (.yield l) #[] #[]] W fun e W' => (∃ v, e = .returned v) ∧ J (flatT t) W' ∧ Only (fun k => FF k ∨ k = cb) W W' := by
  obtain ⟨hC, h25, hB⟩ := hB
  match t, hR, hB, hFo, hN with
  | none, hR, _, _, _ => exact absurd rfl hR.ne
  | some (.inl d), hR, hB, hFo, hN =>
    have a1 := hFo d.b (.inl rfl)
    have a2 := hFo d.eb (.inr rfl)
    exact each_leaf l N FF J hY cb sb hb hJs g d W hJ hC h25 hB.1 hB.2 hR.ok.1 hR.ok.2.1 hR.own.c5 hR.hol.c1 (fun h => a2 (.inl h)) (fun h => f2 (.inl h)) (fun h => f3 (.inl h)) f4 (fun h => a1 (.inl h)) hN (by have := hR.ok.2.2.1; omega) (fun h => a1 (.inr h.symm))
  | some (.inr (d, kb, L)), hR, hB, hFo, hN =>
    obtain ⟨b1, b2, n0, b3, b4⟩ := hB
    have hl := two_small hR.ok.1 hR.ok.2.1 hR.small
    exact each_two l N FF J hY cb sb hb hJs g d kb L W n0 ⟨by rw [← List.head?_eq_getElem?]; exact b3, hC, h25, b1, b2, b4, hJ, Only.refl _ _⟩ hR.ok.1 hR.ok.2.1 hR.own.c5 hR.hol.c1 hFo f2 f3 f4 hN (by omega)

set_option maxHeartbeats 1000000 in
set_option maxRecDepth 100000 in
theorem walk1_any (l N : Nat) (FF : Nat → Prop) (J : List Int → World → Prop) (hY : Rounds l N FF J) (p2 p3 sb hb : Nat) (cv sv : Value) (n g : Int) (t : Tree) (W : World) (hJs : ∀ pre V V', J pre V → Only (fun k => k = W.heap.size) V V' → J pre V') (hJ : J [] W) (hR : Reads W sb hb cv sv n g t) (c2 : W.cell? ⟨p2, 0, none⟩ = some (.pointer (some ⟨sb, 0, none⟩))) (c3 : W.cell? ⟨p3, 0, none⟩ = some (.int .i64 0))
    (hFo : ∀ k, footT t k → ¬ FF k) (f2 : ¬ FF sb) (f3 : ¬ FF hb) (f4 : ¬ FF W.heap.size) (hN : (flatT t).length ≤ N) :
    Calls Yba.prog 69 #[.func (.yield l) #[] #[], .pointer (some ⟨p2, 0, none⟩), .pointer (some ⟨p3, 0, none⟩)] W fun e W' => (∃ v, e = .returned v) ∧ J (flatT t) W' ∧ Only (fun k => FF k ∨ k = W.heap.size) W W' := by
  have hsl : sb < W.heap.size := World.block_lt_of_cell? W ⟨sb, 0, none⟩ hR.own.c0
  have hhl : hb < W.heap.size := World.block_lt_of_cell? W ⟨hb, 0, none⟩ hR.hol.c0
  have hfl : ∀ k, footT t k → k < W.heap.size := fun k hk => by
    have hok := hR.ok
    match t, hok, hk with
    | some (.inl d), h, hk => exact hk.elim (fun e => e ▸ h.1.lt.1) (fun e => e ▸ h.1.lt.2)
    | some (.inr (d, kb, L)), h, hk =>
      rcases hk with e | e | e | ⟨n, hn, e⟩
      · exact e ▸ h.1.E.lt.1
      · exact e ▸ h.1.E.lt.2
      · exact e ▸ h.1.K.lt.2
      · exact e.elim (fun e => e ▸ (h.1.leaf n hn).1.lt.1) (fun e => e ▸ (h.1.leaf n hn).1.lt.2)
  have HO1 : Hid (Only (fun k => k = W.heap.size) W (W.alloc (.cells (curCells sb) 130))) := (Only.refl _ _).alloc _
  have hO1 : Only (fun _ => False) W (W.alloc (.cells (curCells sb) 130)) := (Only.refl _ _).alloc _
  have HC1 := hide (cur_new sb W)
  have HR1 := hide (hR.kept hO1 (fun h => h) (fun h => h) (fun _ _ h => h))
  have HJ1 := hide (hJs _ _ _ hJ HO1.out)
  have HFi := hide (first71 W.heap.size sb hb cv sv g n t _ hR.ne HC1.out HR1.out.own HR1.out.hol HR1.out.ok (fun h => by have := hfl _ h; omega) (by omega) (by omega))
  have HY := hide hY
  have HJs := hide hJs
  have HF : Hid ((∀ k, footT t k → ¬ (FF k ∨ k = W.heap.size)) ∧ (¬ (FF sb ∨ sb = W.heap.size)) ∧ (¬ (FF hb ∨ hb = W.heap.size)) ∧ ¬ FF W.heap.size) := ⟨fun k hk h => h.elim (hFo k hk) (fun e => by have := hfl k hk; omega), fun h => h.elim f2 (fun e => by omega), fun h => h.elim f3 (fun e => by omega), f4⟩
  have HNF : Hid ((sb ≠ W.heap.size) ∧ (hb ≠ W.heap.size) ∧ ∀ k, footT t k → k ≠ W.heap.size) := ⟨by omega, by omega, fun k hk => by have := hfl k hk; omega⟩
  clear hY hJs hJ hR hFo f2 f3 f4 hfl hO1 hsl hhl
  go_enter Yba.func69, Yba.ntmps69
  go_wp2_with (first
    | (go_at_call 70; refine (cursor_any sb W).mono ?_; rintro r w1 ⟨rfl, rfl⟩; generalize (W.alloc (.cells (curCells sb) 130)) = w1 at HO1 HC1 HR1 HJ1 HFi ⊢)
    | (go_at_call 71; refine HFi.out.mono ?_; rintro r w2 ⟨rfl, hB, hO2⟩; have HB := hide hB; have HO2 := hide hO2; clear hB hO2 HFi)
    | (go_at_call 72; refine (eachT l N FF J HY.out W.heap.size sb hb HJs.out cv sv n g t w2 (HJs.out _ _ _ HJ1.out HO2.out) HB.out (HR1.out.kept HO2.out HNF.out.1 HNF.out.2.1 HNF.out.2.2) HF.out.1 HF.out.2.1 HF.out.2.2.1 HF.out.2.2.2 hN).mono ?_; rintro r w3 ⟨⟨v, rfl⟩, hJ3, hO3⟩; have HJ3 := hide hJ3; have HO3 := hide hO3; clear hJ3 hO3)
    | fail)
  go_end0
  refine ⟨⟨_, rfl⟩, HJ3.out, ?_⟩
  have o1 : Only (fun k => FF k ∨ k = W.heap.size) W w2 := (HO1.out.trans HO2.out (fun k h => .inl h)).mono (fun k _ h => .inr h)
  exact o1.trans HO3.out (fun k h => .inl h)
end Go.Proofs.Ybulkcgwo.T
