import Derived.Test.YbulkcgwoTLayW
import Derived.Deep.DeepCutAuto
namespace Go.Proofs.Ybulkcgwo.T
open Go.RowKit
set_option linter.unusedVariables false
set_option linter.unusedSimpArgs false

/-- A new row with room for one node. -/
def Up (w wx : World) (u : Value) : Prop := ∃ ub un ut, u = .pointer (some ⟨ub, 0, none⟩) ∧ Rw wx ub un 0 1 ut 0 0 [] [] ∧ w.heap.size ≤ ub ∧ w.heap.size ≤ un ∧ w.heap.size ≤ ut ∧ Only (fun _ => False) w wx

theorem three3 (w : World) (a b c : Obj) : (((w.alloc a).alloc b).alloc c).heap[w.heap.size]? = some a ∧ (((w.alloc a).alloc b).alloc c).heap[w.heap.size + 1]? = some b ∧ (((w.alloc a).alloc b).alloc c).heap[w.heap.size + 1 + 1]? = some c := by
  have z1 : (w.alloc a).heap.size = w.heap.size + 1 := by simp
  have z2 : ((w.alloc a).alloc b).heap.size = w.heap.size + 1 + 1 := by simp
  refine ⟨?_, ?_, ?_⟩
  · rw [Below.heap_alloc _ _ _ (by omega), Below.heap_alloc _ _ _ (by omega), heap_alloc_new]
  · rw [Below.heap_alloc _ _ _ (by omega), ← z1, heap_alloc_new]
  · rw [← z2, heap_alloc_new]

theorem up_of {w W : World} {ub un ut : Nat} (hb : W.heap[ub]? = some (.cells #[.slice (some ⟨un, 0, none⟩) 0 1, .slice (some ⟨ut, 0, none⟩) 0 0, .slice none 0 0] 89)) (hn : W.heap[un]? = some (madeObj (.pointer none) 1 28)) (ht : ut < W.heap.size) (hO : Only (fun _ => False) w W) (h1 : w.heap.size ≤ ub) (h2 : w.heap.size ≤ un) (h3 : w.heap.size ≤ ut) (d1 : un ≠ ub) (d2 : ut ≠ ub) (d3 : un ≠ ut) : Up w W (.pointer (some ⟨ub, 0, none⟩)) := by
  have hc : ∀ j, W.cell? ⟨ub, j, none⟩ = (#[.slice (some ⟨un, 0, none⟩) 0 1, .slice (some ⟨ut, 0, none⟩) 0 0, .slice none 0 0] : Array Value)[j]? := fun j => cell_of_row _ _ _ _ _ _ hb
  have hf : ∀ j, W.frozen? ⟨ub, j, none⟩ = false := fun j => by unfold World.frozen?; rw [hb]; simp
  have hun : un < W.heap.size := by
    rcases Nat.lt_or_ge un W.heap.size with h | h
    · exact h
    · rw [Array.getElem?_eq_none h] at hn; cases hn
  refine ⟨ub, un, ut, rfl, ⟨hc 0, hc 1, hc 2, hf 0, hf 1, Nat.zero_le _, by unfold maxLen; omega, fun j v hv => by simp [ptrs] at hv, fun j hj => ?_, Nat.zero_le _, by unfold maxLen; omega, fun j v hv => by simp [ints] at hv, fun j hj => by omega, d1, d2, d3, hun, ht⟩, h1, h2, h3, hO⟩
  have hj0 : j = 0 := by omega
  subst hj0
  unfold madeObj at hn
  refine ⟨?_, ?_⟩
  · rw [cell_of_row _ _ _ _ _ _ hn, Array.getElem?_eq_getElem (by rw [size_madeCells]; omega)]; rfl
  · unfold World.frozen?; rw [hn]; simp

theorem nils_there (w : World) : (w.alloc (.cells (nils 127).toArray 104)).there w.heap.size 0 127 := by
  intro j hj
  rw [Nat.zero_add]
  refine ⟨?_, ?_⟩
  · rw [cell_of_row _ _ _ _ _ _ (heap_alloc_new w _), Array.getElem?_eq_getElem (by simpa [nils] using hj)]; rfl
  · unfold World.frozen?; rw [heap_alloc_new]; simp

/-- A new node with its room for subtrees. -/
structure Kids (w : World) (R KB : Nat) (W : World) : Prop where
  c0 : W.cell? ⟨R, 0, none⟩ = some (.pointer (some ⟨KB, 0, none⟩))
  c1 : W.cell? ⟨R, 1, none⟩ = some (.slice (some ⟨R, 2, none⟩) 0 126)
  f1 : W.frozen? ⟨R, 1, none⟩ = false
  room : W.there R 2 126
  kids : W.there KB 0 127
  only : Only (fun _ => False) w W
  r1 : w.heap.size ≤ R
  r2 : w.heap.size ≤ KB
  ne : KB ≠ R
  l1 : R < W.heap.size
  l2 : KB < W.heap.size
theorem kids_made {w w1 : World} {R : Nat} (h : Fresh w w1 R) : Kids w R w1.heap.size ((w1.setCell ⟨R, 0, none⟩ (.pointer (some ⟨w1.heap.size, 0, none⟩))).alloc (.cells (nils 127).toArray 104)) := by
  have hR := h.eq
  have hl := h.lt
  have hs := h.only.size
  have z : (w1.setCell ⟨R, 0, none⟩ (.pointer (some ⟨w1.heap.size, 0, none⟩))).heap.size = w1.heap.size := by simp
  have O1 : Only (fun k => k = R) w1 (w1.setCell ⟨R, 0, none⟩ (.pointer (some ⟨w1.heap.size, 0, none⟩))) := (Only.refl (fun k => k = R) w1).setCell (p := ⟨R, 0, none⟩) (.inl rfl) _
  have a0 := World.cell?_setCell_same w1 ⟨R, 0, none⟩ (.pointer (some ⟨w1.heap.size, 0, none⟩)) h.c0
  have a1 : (w1.setCell ⟨R, 0, none⟩ (.pointer (some ⟨w1.heap.size, 0, none⟩))).cell? ⟨R, 1, none⟩ = some (.slice (some ⟨R, 2, none⟩) 0 126) := by
    rw [World.cell?_setCell_other _ _ _ _ (by simp)]; exact h.c1
  have af : (w1.setCell ⟨R, 0, none⟩ (.pointer (some ⟨w1.heap.size, 0, none⟩))).frozen? ⟨R, 1, none⟩ = false := by rw [World.frozen?_setCell]; exact h.f1
  have at' : (w1.setCell ⟨R, 0, none⟩ (.pointer (some ⟨w1.heap.size, 0, none⟩))).there R 2 126 := World.there_setCells h.room R 0 [_]
  have hk := nils_there (w1.setCell ⟨R, 0, none⟩ (.pointer (some ⟨w1.heap.size, 0, none⟩)))
  rw [z] at hk
  have hO2 : Only (fun _ => False) w (w1.setCell ⟨R, 0, none⟩ (.pointer (some ⟨w1.heap.size, 0, none⟩))) := h.only.trans O1 (fun i e => .inr (by omega))
  generalize (w1.setCell ⟨R, 0, none⟩ (.pointer (some ⟨w1.heap.size, 0, none⟩))) = w2 at *
  have O3 : Only (fun _ => False) w2 (w2.alloc (.cells (nils 127).toArray 104)) := (Only.refl _ _).alloc _
  have z3 : (w2.alloc (.cells (nils 127).toArray 104)).heap.size = w2.heap.size + 1 := by simp
  exact ⟨O3.cell a0 (fun h => h), O3.cell a1 (fun h => h), (O3.frozen (p := ⟨R, 1, none⟩) (show R < _ by omega) (fun h => h)).trans af, O3.there at' (fun h => h), hk, hO2.trans O3 (fun _ h => False.elim h), by omega, by omega, by omega, by omega, by omega⟩

/-- The root, filled. -/
structure Rooted (w : World) (R KB : Nat) (ks : List Nat) (d : Nd) (W : World) : Prop where
  b : d.b = R
  ok : EOK W d
  c0 : W.cell? ⟨R, 0, none⟩ = some (.pointer (some ⟨KB, 0, none⟩))
  row : W.rangeAt KB 0 (ptrs ks)
  room : W.there KB 0 127
  only : Only (fun _ => False) w W
  r1 : w.heap.size ≤ R
  r2 : w.heap.size ≤ KB
  r3 : w.heap.size ≤ d.eb
  n1 : KB ≠ R
  n2 : KB ≠ d.eb
theorem rooted {w w2 w4 : World} {R KB e2 o2 c2 : Nat} {ks : List Nat} {ss : List Int} (h : Kids w R KB w2) (hk : ks.length ≤ 127) (hA : App (w2.drew.setCells KB 0 (ptrs ks)).drew R 2 126 (([] : List Value) ++ ints ss) e2 o2 c2 w4) (hpos : 0 < ss.length) :
    Rooted w R KB ks ⟨R, e2, o2, c2, ss⟩ (w4.setCell ⟨R, 1, none⟩ (.slice (some ⟨e2, o2, none⟩) ss.length c2)) := by
  have hne := h.ne
  have O3 : Only (fun k => k = KB) w2 (w2.drew.setCells KB 0 (ptrs ks)).drew := (Only.setCells (F := fun k => k = KB) (.inl rfl) _ _ ((Only.refl _ _).drew)).drew
  have hRk : ¬ (R = KB) := fun e => hne e.symm
  have a0 := O3.cell h.c0 hRk
  have a1 := O3.cell h.c1 hRk
  have af := (O3.frozen (p := ⟨R, 1, none⟩) h.l1 hRk).trans h.f1
  have ar : (w2.drew.setCells KB 0 (ptrs ks)).drew.rangeAt KB 0 (ptrs ks) := (World.rangeAt_drew _ _ _ _).2 (World.rangeAt_setCells_same _ _ _ _ (there_mono ((World.there_drew _ _ _ _).2 h.kids) (by rw [ptrs_length]; exact hk)))
  have at' : (w2.drew.setCells KB 0 (ptrs ks)).drew.there KB 0 127 := (World.there_drew _ _ _ _).2 (World.there_setCells ((World.there_drew _ _ _ _).2 h.kids) _ _ _)
  have hs3 := O3.size
  have l1 := h.l1
  have l2 := h.l2
  have hO13 := h.only.trans O3 (fun i e => .inr (by rw [e]; exact h.r2))
  have r1 := h.r1
  have r2 := h.r2
  generalize (w2.drew.setCells KB 0 (ptrs ks)).drew = w3 at *
  have g1 := hA.keep a1 (fun _ => by omega)
  have g0 := hA.keep a0 (fun _ => by omega)
  have gf := hA.keepf (b' := R) (o' := 1) (by omega) af
  have hle := hA.le
  simp only [List.nil_append, ints_length] at hle
  have hrow := hA.row
  rw [List.nil_append] at hrow
  have hap : e2 = R → 2 ≤ o2 := by
    intro e
    rcases hA.place with h | h
    · omega
    · omega
  have hp : w.heap.size ≤ e2 := by
    rcases hA.place with h | h
    · omega
    · have := hO13.size; omega
  have hKe : KB ≠ e2 := by
    rcases hA.place with h | h
    · omega
    · omega
  have O4 : Only (fun k => k = R) w3 (w4.setCell ⟨R, 1, none⟩ (.slice (some ⟨e2, o2, none⟩) ss.length c2)) := hA.only.setCell (p := ⟨R, 1, none⟩) (.inl rfl) _
  refine ⟨rfl, ⟨World.cell?_setCell_same _ _ _ g1, by rw [World.frozen?_setCell]; exact gf, hle, hA.max, ?_, World.there_setCells hA.room _ _ [_], hap, by show 0 < c2; omega⟩, ?_, O4.range ar hne, O4.there at' hne, hO13.trans O4 (fun i e => .inr (by rw [e]; exact r1)), r1, r2, hp, hne, hKe⟩
  · exact World.rangeAt_setCells_apart hrow R 1 [_] ((Decidable.em (e2 = R)).elim (fun h => .inr (.inr (by have := hap h; simpa using this))) .inl)
  · rw [World.cell?_setCell_other _ _ _ _ (by simp)]; exact g0

/-- What raise leaves. -/
structure Raised (B : Nat) (L : List Nd) (ss : List Int) (w w' : World) (d : Nd) (kb : Nat) : Prop where
  xs : d.xs = ss
  two : Two w' d kb L
  new : ∀ k, twoFoot d kb L k → B ≤ k
  only : Only (fun k => B ≤ k) w w'

theorem raised {w wc w5 w7 w8 : World} {B rb nb no nc tb ti tc ub un R KB : Nat} {L : List Nd} {ss : List Int} {d : Nd} (hS : LayS w B rb nb no nc tb ti tc L ss) (hBw : B ≤ w.heap.size) (hl : L.length = ss.length + 1) (hL : L.length ≤ 100) (hO1 : Only (fun _ => False) w wc) (hub : ub < wc.heap.size) (hun : un < wc.heap.size) (hub2 : w.heap.size ≤ ub) (hun2 : w.heap.size ≤ un)
    (hW : Rooted wc.drew R KB (L.map Nd.b) d w5) (hd : d.xs = ss) (hO7 : Only (fun k => k = ub ∨ k = un) w5 w7) (hO8 : Only (fun k => k = rb) w7 w8) : Raised B L ss w w8 d KB := by
  have hrl : rb < w.heap.size := World.block_lt_of_cell? w ⟨rb, 0, none⟩ hS.rw.c0
  have hz : wc.drew.heap.size = wc.heap.size := rfl
  have hs1 := hO1.size
  have r1 := hW.r1
  have r2 := hW.r2
  have r3 := hW.r3
  have hb := hW.b
  have k7 : ∀ k, wc.heap.size ≤ k → ¬ (k = ub ∨ k = un) := fun k hk e => by omega
  have k8 : ∀ k, wc.heap.size ≤ k → ¬ (k = rb) := fun k hk e => by omega
  have k7' : ∀ k, k < w.heap.size → ¬ (k = ub ∨ k = un) := fun k hk e => by omega
  have hO15 : Only (fun _ => False) w w5 := hO1.drew.trans hW.only (fun _ h => False.elim h)
  refine ⟨hd, ⟨(hW.ok.kept hO7 (k7 _ (by omega)) (k7 _ (by omega))).kept hO8 (k8 _ (by omega)) (k8 _ (by omega)), ⟨?_, hO8.range (hO7.range hW.row (k7 _ (by omega))) (k8 _ (by omega)), hO8.there (hO7.there hW.room (k7 _ (by omega))) (k8 _ (by omega)), by rw [List.length_map]; omega⟩, by rw [hd]; exact hl, ?_, by rw [hb]; exact hW.n1, hW.n2, ?_, hS.dis⟩, ?_, ?_⟩
  · rw [hb]; exact hO8.cell (hO7.cell hW.c0 (k7 R (by omega))) (k8 R (by omega))
  · intro n hn
    obtain ⟨e1, e2⟩ := hS.ok n hn
    obtain ⟨⟨a1, a2, a3⟩, a4, a5, a6⟩ := hS.ap n hn
    have ln := e1.lt
    exact ⟨((e1.kept hO15 (fun h => h) (fun h => h)).kept hO7 (k7' _ ln.1) (k7' _ ln.2)).kept hO8 a1 a4, hO8.cell (hO7.cell (hO15.cell e2 (fun h => h)) (k7' _ ln.1)) a1⟩
  · intro n hn
    have ln := (hS.ok n hn).1.lt
    exact ⟨by omega, by omega, by omega, by omega, by omega, by omega⟩
  · intro k hk
    rcases hk with e | e | e | ⟨n, hn, e⟩
    · omega
    · omega
    · omega
    · have := hS.new n hn; omega
  · refine ((hO15.mono (fun _ _ h => False.elim h)).trans hO7 (fun i e => .inl (show B ≤ i by omega))).trans hO8 (fun i e => .inl (by rw [e]; exact hS.b1))

set_option maxHeartbeats 4000000 in
set_option maxRecDepth 100000 in
theorem raise_any (B rb nb no nc tb ti tc : Nat) (L : List Nd) (ss : List Int) (w : World) (hS : LayS w B rb nb no nc tb ti tc L ss) (hBw : B ≤ w.heap.size) (hl : L.length = ss.length + 1) (h1 : 2 ≤ L.length) (h2 : L.length ≤ 100) :
    Calls Yba.prog 87 #[.pointer (some ⟨rb, 0, none⟩)] w fun r w' => ∃ (d : Nd) (kb : Nat), r = .returned (.pointer (some ⟨d.b, 0, none⟩)) ∧ Raised B L ss w w' d kb := by
  have c0 := hS.rw.c0
  have c1 := hS.rw.c1
  have c2 := hS.rw.c2
  have f0 := hS.rw.f0
  have f1 := hS.rw.f1
  have f2 := hS.f2
  rw [List.length_map] at c0
  have HS := hide hS
  have HL := hide hl
  clear hS hl
  have HK : Hid (((L.length : Int) + 125) / 126 = 1) := by show _ = _; omega
  have i1 : (1 : Int) < (L.length : Int) := by omega
  have hl1 := fun (w : World) => run_mk one87 1 1 rfl (by omega) w
  have hl0 := fun (w : World) => run_mk one23 0 0 rfl (by omega) w
  go_enter Yba.func87, Yba.ntmps87
  go_wp2
  refine wp_loop_rounds 2 ?_
  rw [rounds_succ]
  go_wp2
  rw [HK.out]
  go_region
  go_upto_region 4 with fail
  go_cut [6] from 39 to 44 (fun u wx => Up w wx u)
  case first =>
    go_wp2_with fail
    go_region
    all_goals (go_wp2_with fail; go_meet)
    all_goals (first
      | exact up_of (ub := w.heap.size) (un := w.heap.size + 1) (ut := w.heap.size + 1 + 1) (three3 w _ _ _).1 (three3 w _ _ _).2.1 (by simp <;> omega) (((((Only.refl _ _).alloc _).alloc _).alloc _).drew.drew) (by omega) (by omega) (by omega) (by omega) (by omega) (by omega)
      | exact up_of (ub := w.heap.size) (un := w.heap.size + 1 + 1) (ut := w.heap.size + 1) (three3 w _ _ _).1 (three3 w _ _ _).2.2 (by simp <;> omega) (((((Only.refl _ _).alloc _).alloc _).alloc _).drew.drew) (by omega) (by omega) (by omega) (by omega) (by omega) (by omega)
      | exact up_of (ub := w.heap.size + 1) (un := w.heap.size) (ut := w.heap.size + 1 + 1) (three3 w _ _ _).2.1 (three3 w _ _ _).1 (by simp <;> omega) (((((Only.refl _ _).alloc _).alloc _).alloc _).drew.drew) (by omega) (by omega) (by omega) (by omega) (by omega) (by omega)
      | exact up_of (ub := w.heap.size + 1) (un := w.heap.size + 1 + 1) (ut := w.heap.size) (three3 w _ _ _).2.1 (three3 w _ _ _).2.2 (by simp <;> omega) (((((Only.refl _ _).alloc _).alloc _).alloc _).drew.drew) (by omega) (by omega) (by omega) (by omega) (by omega) (by omega)
      | exact up_of (ub := w.heap.size + 1 + 1) (un := w.heap.size) (ut := w.heap.size + 1) (three3 w _ _ _).2.2 (three3 w _ _ _).1 (by simp <;> omega) (((((Only.refl _ _).alloc _).alloc _).alloc _).drew.drew) (by omega) (by omega) (by omega) (by omega) (by omega) (by omega)
      | exact up_of (ub := w.heap.size + 1 + 1) (un := w.heap.size + 1) (ut := w.heap.size) (three3 w _ _ _).2.2 (three3 w _ _ _).2.1 (by simp <;> omega) (((((Only.refl _ _).alloc _).alloc _).alloc _).drew.drew) (by omega) (by omega) (by omega) (by omega) (by omega) (by omega))
  case rest =>
    obtain ⟨ub, un, ut, rfl, hUp, q1, q2, q3, hO1⟩ := hcut
    have HUp := hide hUp
    have HO1 := hide hO1
    have c0 := hO1.cell c0 (fun h => h)
    have c1 := hO1.cell c1 (fun h => h)
    have c2 := hO1.cell c2 (fun h => h)
    have d0 := hUp.c0
    have df := hUp.f0
    clear hUp hO1
    go_wp2_with fail
    go_region
    go_wp2_with fail
    refine wp_loop_rounds 2 ?_
    rw [rounds_succ]
    go_wp2_with (first
      | (go_at_call 55; refine (newNode_any _).mono ?_; rintro r w1 ⟨rfl, rfl⟩; have HF := hide (fresh_new wc.drew); obtain ⟨R, hR⟩ : ∃ R, R = wc.drew.heap.size := ⟨_, rfl⟩; rw [← hR] at HF ⊢; clear hR; generalize wc.drew.alloc (newObj R) = w1 at HF ⊢; have q1 := HF.out.c1; have qf := HF.out.f1; have qf0 := HF.out.f0; have ql := HF.out.lt; have qc0 := HF.out.c0)
      | fail)
    rw [zero104]
    have HKd := hide (kids_made HF.out)
    obtain ⟨KB, hKB⟩ : ∃ KB, KB = w1.heap.size := ⟨_, rfl⟩
    rw [← hKB] at HKd ⊢
    clear hKB
    generalize ((w1.setCell ⟨R, 0, none⟩ (.pointer (some ⟨KB, 0, none⟩))).alloc (.cells (nils 127).toArray 104)) = w2 at HKd ⊢
    have n0 := HKd.out.c0
    have hKne := HKd.out.ne
    have s1 := run_acutAll KB
    have s2 := run_cutTo one87 nb no L.length nc L.length (L.length : Int) rfl (by have := HS.out.rw.nl; rw [List.length_map] at this; exact this)
    have HN2 : Hid (w2.rangeAt nb no (ptrs (L.map Nd.b))) := HKd.out.only.range ((HO1.out.drew).range HS.out.rw.nr (fun h => h)) (fun h => h)
    clear q1 qf qf0 ql qc0
    go_region_held3 (fun w' => w'.cell? ⟨R, 0, none⟩ = some (.pointer (some ⟨KB, 0, none⟩))) (first | exact (by simpa using n0) | exact cell_cells (by simpa using n0) _ _ _ (fun h => absurd h.symm hKne)) ((refine step_cpy (t2 := 87) one87 rfl (.tmp 73) (.tmp 76) rfl _ _ _ _ _ _ KB 0 (ptrs (L.map Nd.b)) rfl rfl ?_ ?_ ?_ (ptrs_one _) ?_; (rw [ptrs_length, List.length_map]; exact (Nat.min_eq_left (by omega)).symm); (exact fun _ => ⟨rfl, _, rfl, src_of ((World.rangeAt_drew _ _ _ _).2 HN2.out)⟩); (exact there_mono ((World.there_drew _ _ _ _).2 HKd.out.kids) (by rw [ptrs_length, List.length_map]; omega))))
    have b1 := (HKd.out.only.cell (HO1.out.drew.cell HS.out.rw.c1 (fun h => h)) (fun h => h))
    have O3 : Hid (Only (fun k => k = KB) w2 (w2.drew.setCells KB 0 (ptrs (L.map Nd.b)))) := Only.setCells (F := fun k => k = KB) (.inl rfl) _ _ ((Only.refl _ _).drew)
    have HRoot := hide (fun e2 o2 c2 w4 hA hp => rooted (e2 := e2) (o2 := o2) (c2 := c2) (w4 := w4) (ss := ss) (ks := L.map Nd.b) HKd.out (by rw [List.length_map]; omega) hA hp)
    have hrk : rb ≠ KB := by have := HKd.out.r2; have := World.block_lt_of_cell? wc _ c1; simp only at this; have e : wc.drew.heap.size = wc.heap.size := rfl; omega
    have htk : tb ≠ KB := by have := HKd.out.r2; have := HS.out.rw.n2; have := HO1.out.size; have e : wc.drew.heap.size = wc.heap.size := rfl; omega
    have m1 := O3.out.cell HKd.out.c1 (fun e => hKne e.symm)
    have mf := (O3.out.frozen (p := ⟨R, 1, none⟩) HKd.out.l1 (fun e => hKne e.symm)).trans HKd.out.f1
    have ml : R < (w2.drew.setCells KB 0 (ptrs (L.map Nd.b))).heap.size := Nat.lt_of_lt_of_le HKd.out.l1 O3.out.size
    have HM := hide (O3.out.there HKd.out.room (fun e => hKne e.symm))
    have HT3 := hide (O3.out.range (HKd.out.only.range (HO1.out.drew.range HS.out.rw.er (fun h => h)) (fun h => h)) htk)
    generalize (w2.drew.setCells KB 0 (ptrs (L.map Nd.b))) = w3 at O3 HRoot m1 mf ml HM HT3 ⊢
    have hsl : 0 < ss.length := by have := HL.out; omega
    have hwL : IntKind.i64.wrap ((L.length : Int) - 1) = (ss.length : Int) := by have := HL.out; simp only [IntKind.wrap_i64]; omega
    have s3 := run_cutTo one23 tb ti ss.length tc ss.length (ss.length : Int) rfl HS.out.rw.el
    have hss40 : ss.length ≤ 99 := by have := HL.out; omega
    clear s1 s2 n0
    go_wp2_with fail
    go_region_law ((refine step_app one23 rfl (.tmp 82) (.tmp 86) rfl R 2 0 126 [] rfl rfl (fun j v hv => by simp at hv) ((World.there_drew _ _ _ _).2 HM.out) (by omega) (by unfold maxLen; omega) ⟨tb, ti, none⟩ ss.length tc (ints ss) rfl (ints_length _) (src_of ((World.rangeAt_drew _ _ _ _).2 HT3.out)) (ints_one _) (by omega) ?_; intro e2 o2 c2' w4 hA; have g1 := hA.keep (by simpa using m1) (fun _ => by omega); have g2 := hA.keepf (b' := R) (o' := 1) (by simpa using ml) (by simpa using mf)))
    all_goals
      have HW := hide (HRoot.out e2 o2 c2' w4 hA hsl)
      generalize (w4.setCell ⟨R, 1, none⟩ (.slice (some ⟨e2, o2, none⟩) ss.length c2')) = w5 at HW ⊢
      clear hA g1 g2 m1 mf ml s3 HRoot
      have HU5 := hide ((HUp.out.kept ((Only.refl (fun _ => False) wc).drew) (fun h => h) (fun h => h) (fun h => h)).kept HW.out.only (fun h => h) (fun h => h) (fun h => h))
      have d0 := HU5.out.c0
      have df := HU5.out.f0
      have dl : ub < w5.heap.size := World.block_lt_of_cell? w5 _ d0
      simp only [List.length_nil] at d0
      go_wp2_with (first
        | (at_builtin; refine wpList_app one87 rfl (.tmp 91) (.tmp 93) rfl un 0 0 1 [] rfl rfl (fun j v hv => by simp at hv) (World.there_alloc HU5.out.nt _) (by omega) (by unfold maxLen; omega) ⟨w5.heap.size, 0, none⟩ 1 1 [.pointer (some ⟨R, 0, none⟩)] rfl rfl (new_one _ _ _) (by simp [Value.oneCell']) (by omega) ?_; intro n6 o6 c6 w6 hA6; obtain ⟨k0, kf⟩ := rw_app_n HU5.out ((Only.refl _ _).alloc _) hA6; have HA6 := hide hA6; clear hA6)
        | fail)
      have HP := hide (rw_push_n HU5.out HA6.out)
      simp only [List.length_nil, List.nil_append, Nat.zero_add] at HP
      generalize (w6.setCell ⟨ub, 0, none⟩ (.slice (some ⟨n6, o6, none⟩) 1 c6)) = w7 at HP ⊢
      clear k0 kf HA6 d0 df
      have e0 := HP.out.1.c0
      have e1 := HP.out.1.c1
      have e2' := HP.out.1.c2
      simp only [List.length_singleton, List.length_nil] at e0 e1
      have s4 := run_cut one87 (some ⟨nb, no, none⟩) L.length nc L.length (L.length : Int) rfl (Nat.le_refl _)
      have s5 := run_cut one23 (some ⟨tb, ti, none⟩) ss.length tc ss.length (ss.length : Int) rfl (Nat.le_refl _)
      generalize cutA (some ⟨nb, no, none⟩) nc L.length = ca4 at s4
      generalize cutA (some ⟨tb, ti, none⟩) tc ss.length = ca5 at s5
      have hrub : rb ≠ ub ∧ rb ≠ un := by have := World.block_lt_of_cell? w _ HS.out.rw.c0; simp only at this; omega
      have hO7 : Hid (Only (fun k => k = ub ∨ k = un) wc.drew w7) := (HW.out.only.mono (fun _ _ h => False.elim h)).trans HP.out.2.2 (fun i h => .inl h)
      have hr7 : ¬ (rb = ub ∨ rb = un) := fun e => e.elim hrub.1 hrub.2
      have x0 := hO7.out.cell (by simpa using c0) hr7
      have x1 := hO7.out.cell (by simpa using c1) hr7
      have x2 := hO7.out.cell (by simpa using c2) hr7
      have hrl : rb < wc.heap.size := World.block_lt_of_cell? wc _ c0
      have xf : ∀ j, w.frozen? ⟨rb, j, none⟩ = false → w7.frozen? ⟨rb, j, none⟩ = false := fun j hj => by
        rw [hO7.out.frozen (p := ⟨rb, j, none⟩) hrl hr7]
        exact (HO1.out.frozen (p := ⟨rb, j, none⟩) (show rb < w.heap.size from World.block_lt_of_cell? w ⟨rb, 0, none⟩ HS.out.rw.c0) (fun h => h)).trans hj
      have xf0 := xf 0 f0
      have xf1 := xf 1 f1
      have xf2 := xf 2 f2
      clear xf
      have hn6 : n6 ≠ rb := by
        have := World.block_lt_of_cell? w ⟨rb, 0, none⟩ HS.out.rw.c0
        simp only at this
        have h5 := HW.out.only.size
        have h6 := HO1.out.size
        have e : wc.drew.heap.size = wc.heap.size := rfl
        rcases HP.out.2.1 with e | e <;> omega
      have hn6' : rb ≠ n6 := fun e => hn6 e.symm
      have hx : w7.cell? ⟨n6, o6, none⟩ = some (.pointer (some ⟨R, 0, none⟩)) := by
        have := HP.out.1.nr 0 (ptr R) (by simp [ptrs])
        rwa [Nat.add_zero] at this
      go_region
      go_wp2_with fail
      rw [rounds_succ]
      go_wp2_with fail
      rw [rounds_succ]
      go_wp2_with fail
      go_ret
      refine ⟨⟨R, e2, o2, c2', ss⟩, KB, rfl, raised HS.out hBw HL.out h2 HO1.out (World.block_lt_of_cell? wc ⟨ub, 0, none⟩ HUp.out.c0) HUp.out.n1 q1 q2 HW.out rfl HP.out.2.2 ?_⟩
      exact ((((Only.refl (fun k => k = rb) w7).drew.setCell (p := ⟨rb, 0, none⟩) (.inl rfl) _).setCell (p := ⟨rb, 1, none⟩) (.inl rfl) _).setCell (p := ⟨rb, 2, none⟩) (.inl rfl) _)
end Go.Proofs.Ybulkcgwo.T
