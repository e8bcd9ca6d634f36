import Derived.Test.YbulkcgwoTBuild
import Derived.Test.YbulkcgwoTExpect
namespace Go.Proofs.Ybulkcgwo.T
open Go.RowKit
set_option linter.unusedVariables false
set_option linter.unusedSimpArgs false

/-- A set of our own that holds N. -/
structure InvS (o : Ords) (w0 w : World) (sb : Nat) (N : List Int) (hb : Option Nat) (t : Tree) : Prop where
  st : St o w sb hb t
  mem : ∀ y, y ∈ flatT t ↔ y ∈ N
  len : (flatT t).length ≤ N.length
  only : Only (fun _ => False) w0 w
  sbn : w0.heap.size ≤ sb
  hbn : ∀ h, hb = some h → w0.heap.size ≤ h
  ftn : ∀ k, footT t k → w0.heap.size ≤ k
  fon : ∀ k, o.foot k → w0.heap.size ≤ k

theorem invs_add (o : Ords) (G : o.Good) {w0 w : World} {sb : Nat} {N : List Int} {hb : Option Nat} {t : Tree} (h : InvS o w0 w sb N hb t) (e : Int) (hn : N.length ≤ 4000) :
    Calls Yba.prog 17 #[.pointer (some ⟨sb, 0, none⟩), .int .i64 e] w fun r w' => (∃ v, r = .returned v) ∧ ∃ h' t', InvS o w0 w' sb (N ++ [e]) (some h') t' := by
  refine (add_any o G sb hb t e w h.st (by have := h.len; omega)).mono ?_
  rintro r w' ⟨hv, h', t', hS, hA⟩
  have hsz := h.only.size
  refine ⟨hv, h', t', ⟨hS, fun y => ?_, ?_, ?_, h.sbn, ?_, fun k hk => ?_, h.fon⟩⟩
  · rw [hA.mem, h.mem, List.mem_append, List.mem_singleton]; exact Or.comm
  · have := hA.len; have := h.len; simp; omega
  · refine h.only.trans hA.only (fun i hi => .inr ?_)
    rcases hi with e | e | e | e
    · rw [e]; exact h.sbn
    · exact h.hbn i e
    · exact h.ftn i e
    · exact h.fon i e
  · intro k hk
    cases hk
    rcases hA.hold with e | e
    · exact h.hbn _ e
    · omega
  · rcases hA.foot k hk with e | e
    · exact h.ftn k e
    · omega

theorem put_any (o : Ords) (G : o.Good) {w0 w : World} {sb eb eo cap : Nat} {xs : List Int} (n : Nat) (h : InvS o w0 w sb [] none none) (hr : w.rangeAt eb eo (ints xs)) (hel : eb < w.heap.size) (hle : xs.length ≤ cap) (hcm : cap ≤ maxLen) (hn : n ≤ xs.length) (hs : Sor o.lt (xs.take n)) (hb : xs.length ≤ 5000) :
    Calls Yba.prog 49 #[.pointer (some ⟨sb, 0, none⟩), .slice (some ⟨eb, eo, none⟩) n cap] w fun r w' => r = .returned (.tuple #[]) ∧ ∃ h' t', InvS o w0 w' sb (xs.take n) (some h') t' := by
  have hl : (xs.take n).length = n := by rw [List.length_take]; omega
  have HB := hide (build_any eb eo cap (xs.take n) w (ints_take _ _ ▸ range_take hr n) hel (by omega) hcm (by omega))
  rw [hl] at HB
  have HI := hide h
  have HL := hide hl
  have HS := hide hs
  clear h hl hs hr
  go_enter Yba.func49, Yba.ntmps49
  go_wp2_with (first
    | (go_at_call 73; refine HB.out.mono ?_; rintro r w1 ⟨t, rfl, hBt⟩; have HBt := hide hBt; clear hBt)
    | fail)
  obtain ⟨g, hg, -⟩ := HI.out.st.own
  refine (plant_any sb o.cmpV o.searchV (rootT none) (rootT t) _ n g none w1 (hg.kept HBt.out.only (fun h => h))).mono ?_
  rintro r w2 ⟨rfl, g', hOw, hHo, hO2⟩
  have HFin : Hid (∃ h' t', InvS o w0 w2 sb (xs.take n) (some h') t') := by
    have hI := HI.out
    have hB := HBt.out
    have hsl := World.block_lt_of_cell? w _ hg.c0
    simp only at hsl
    have s1 := hB.only.size
    have s2 := hO2.size
    have s0 := hI.only.size
    have hflt : ∀ k, footT t k → k < w1.heap.size := fun k hk => foot_lt hB.ok hk
    have hinv1 := G.kept _ _ _ hI.st.inv hB.only (fun _ _ h => h)
    have hH2 : w1.heap.size < w2.heap.size := World.block_lt_of_cell? w2 ⟨w1.heap.size, 0, none⟩ hHo.c0
    refine ⟨w1.heap.size, t, ⟨⟨⟨g', by rw [hB.flat, HL.out]; exact hOw, fun k hk => (by cases hk; exact hHo)⟩, fun h => (by cases h), hB.ok.kept hO2 (fun k hk e => by have := hB.new k hk; omega), by rw [hB.flat]; exact HS.out, G.kept _ _ _ hinv1 hO2 (fun k hr e => hI.st.aps (e ▸ hr)), fun k hk => ⟨?_, ?_, ?_⟩, hI.st.aps, fun k hk => ?_⟩, fun y => by rw [hB.flat], by rw [hB.flat]; exact Nat.le_refl _, ?_, hI.sbn, ?_, ?_, hI.fon⟩⟩
    · have := hB.new k hk; omega
    · intro e; cases e; have := hflt _ hk; omega
    · intro hr; have := hB.new k hk; have := G.lt w k hI.st.inv hr; omega
    · cases hk
      exact ⟨by omega, fun hr => by have := G.lt w1 _ hinv1 hr; omega⟩
    · exact (hI.only.trans hB.only (fun _ h => False.elim h)).trans hO2 (fun i e => .inr (by rw [e]; exact hI.sbn))
    · intro k hk; cases hk; omega
    · intro k hk; have := hB.new k hk; omega
  clear hOw hHo hO2 hg
  go_wp2
  go_end0
  exact ⟨rfl, HFin.out⟩
end Go.Proofs.Ybulkcgwo.T
