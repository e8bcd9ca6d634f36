import Derived.Test.YbulkcgwoTLib
namespace Go.Proofs.Ybulkcgwo.T
open Go.RowKit
set_option linter.unusedVariables false
set_option linter.unusedSimpArgs false

/-- A set of our own that holds N, beside a slice of our own that holds M. -/
structure Inv (o : Ords) (w0 w : World) (sb : Nat) (N M : List Int) (gb go gc : Nat) (hb : Option Nat) (t : Tree) : Prop where
  st : St o w sb hb t
  mem : ∀ y, y ∈ flatT t ↔ y ∈ N
  len : (flatT t).length ≤ N.length
  row : w.rangeAt gb go (ints M)
  room : w.there gb go gc
  le : M.length ≤ gc
  max : gc ≤ maxLen
  lt : gb < w.heap.size
  new : w0.heap.size ≤ gb
  a1 : gb ≠ sb
  a2 : hb ≠ some gb
  a3 : ¬ footT t gb
  a4 : ¬ o.reads gb
  only : Only (fun _ => False) w0 w
  sbn : w0.heap.size ≤ sb
  hbn : ∀ h, hb = some h → w0.heap.size ≤ h
  ftn : ∀ k, footT t k → w0.heap.size ≤ k
  fon : ∀ k, o.foot k → w0.heap.size ≤ k

theorem inv_add (o : Ords) (G : o.Good) {w0 w : World} {sb : Nat} {N M : List Int} {gb go gc : Nat} {hb : Option Nat} {t : Tree} (h : Inv o w0 w sb N M gb go gc hb t) (e : Int) (hn : N.length ≤ 4000) :
    Calls Yba.prog 17 #[.pointer (some ⟨sb, 0, none⟩), .int .i64 e] w fun r w' => (∃ v, r = .returned v) ∧ ∃ h' t', Inv o w0 w' sb (N ++ [e]) M gb go gc (some h') t' := by
  refine (add_any o G sb hb t e w h.st (by have := h.len; omega)).mono ?_
  rintro r w' ⟨hv, h', t', hS, hA⟩
  have hF : ¬ setFoot o sb hb t gb := by
    rintro (e | e | e | e)
    · exact h.a1 e
    · exact h.a2 e
    · exact h.a3 e
    · exact h.a4 (G.sub _ e)
  have hsz := h.only.size
  have hlt := h.lt
  refine ⟨hv, h', t', ⟨hS, fun y => ?_, ?_, hA.only.range h.row hF, hA.only.there h.room hF, h.le, h.max, Nat.lt_of_lt_of_le h.lt hA.only.size, h.new, h.a1, ?_, fun hk => ?_, h.a4, ?_, h.sbn, ?_, fun k hk => ?_, h.fon⟩⟩
  · rw [hA.mem, h.mem, List.mem_append, List.mem_singleton]; exact Or.comm
  · have := hA.len; have := h.len; simp; omega
  · intro e
    cases e
    rcases hA.hold with e | e
    · exact h.a2 e
    · omega
  · rcases hA.foot gb hk with e | e
    · exact h.a3 e
    · omega
  · refine h.only.trans hA.only (fun i hi => .inr ?_)
    rcases hi with e | e | e | e
    · rw [e]; exact h.sbn
    · exact h.hbn i e
    · exact h.ftn i e
    · exact h.fon i e
  · intro k hk
    cases hk
    rcases hA.hold with e | e
    · exact h.hbn _ e
    · omega
  · rcases hA.foot k hk with e | e
    · exact h.ftn k e
    · omega

theorem inv_keep {o : Ords} (G : o.Good) {w0 w w1 : World} {sb : Nat} {N M : List Int} {gb go gc : Nat} {hb : Option Nat} {t : Tree} (h : Inv o w0 w sb N M gb go gc hb t) (hO : Only (fun k => k = gb) w w1) {M' : List Int} {g1 o1 c1 : Nat} (hr : w1.rangeAt g1 o1 (ints M')) (ht : w1.there g1 o1 c1) (hl : M'.length ≤ c1) (hm : c1 ≤ maxLen) (hp : g1 = gb ∨ w.heap.size ≤ g1) (hlt : g1 < w1.heap.size) :
    Inv o w0 w1 sb N M' g1 o1 c1 hb t := by
  have hsz := h.only.size
  have hsl := World.block_lt_of_cell? w _ h.st.own.choose_spec.1.c0
  simp only at hsl
  have hhl : ∀ k, hb = some k → k < w.heap.size := fun k hk => World.block_lt_of_cell? w _ (h.st.own.choose_spec.2 k hk).c0
  refine ⟨h.st.kept G hO (fun e => h.a1 e.symm) (fun k hk e => h.a2 (by rw [hk, e])) (fun k hk e => h.a3 (e ▸ hk)) (fun k hk e => h.a4 (e ▸ hk)), h.mem, h.len, hr, ht, hl, hm, hlt, ?_, ?_, ?_, ?_, ?_, h.only.trans hO (fun i hi => .inr (by rw [hi]; exact h.new)), h.sbn, h.hbn, h.ftn, h.fon⟩
  · rcases hp with e | e
    · rw [e]; exact h.new
    · omega
  · rcases hp with e | e
    · rw [e]; exact h.a1
    · omega
  · rcases hp with e | e
    · rw [e]; exact h.a2
    · intro e2; have := hhl _ e2; omega
  · rcases hp with e | e
    · rw [e]; exact h.a3
    · intro e2; have := foot_lt h.st.ok e2; omega
  · rcases hp with e | e
    · rw [e]; exact h.a4
    · intro e2; have := G.lt w _ h.st.inv e2; omega

theorem inv_app {o : Ords} (G : o.Good) {w0 w w1 : World} {sb : Nat} {N M : List Int} {gb go gc : Nat} {hb : Option Nat} {t : Tree} (h : Inv o w0 w sb N M gb go gc hb t) {ob : Obj} {e : Int} {g1 o1 c1 : Nat} (hA : App (w.alloc ob) gb go gc (ints M ++ [.int .i64 e]) g1 o1 c1 w1) :
    Inv o w0 w1 sb N (M ++ [e]) g1 o1 c1 hb t := by
  have hO : Only (fun k => k = gb) w w1 := ((Only.refl (fun k => k = gb) w).alloc ob).trans hA.only (fun i h => .inl h)
  have hz : (w.alloc ob).heap.size = w.heap.size + 1 := by simp
  have hle := hA.le
  rw [List.length_append, ints_length] at hle
  refine inv_keep G h hO (by rw [ints_append]; exact hA.row) hA.room (by simpa using hle) hA.max (hA.place.elim (fun e => .inl e.1) (fun e => .inr (by omega))) (there_lt hA.room (by simp at hle; omega))
end Go.Proofs.Ybulkcgwo.T
