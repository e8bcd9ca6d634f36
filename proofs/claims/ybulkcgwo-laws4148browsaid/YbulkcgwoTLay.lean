import Derived.Test.YbulkcgwoTGrow
namespace Go.Proofs.Ybulkcgwo.T
open Go.RowKit
set_option linter.unusedVariables false
set_option linter.unusedSimpArgs false

theorem leaf_new (rb : Nat) (w : World) (c2 : w.cell? ⟨rb, 2, none⟩ = some (.slice none 0 0)) :
    Calls Yba.prog 95 #[.pointer (some ⟨rb, 0, none⟩)] w fun r w' => r = .returned (.pointer (some ⟨w.heap.size, 0, none⟩)) ∧ w' = w.alloc (newObj w.heap.size) := by
  go_enter Yba.func95, Yba.ntmps95
  go_wp2_with (first | (go_at_call 55; refine (newNode_any w).mono ?_; rintro r w1 ⟨rfl, rfl⟩) | fail)
  go_ret
  exact ⟨rfl, rfl⟩

/-- A new row, as a variable is made. -/
structure Row0 (w : World) (rb : Nat) : Prop where
  c0 : w.cell? ⟨rb, 0, none⟩ = some (.slice none 0 0)
  c1 : w.cell? ⟨rb, 1, none⟩ = some (.slice none 0 0)
  c2 : w.cell? ⟨rb, 2, none⟩ = some (.slice none 0 0)
  f0 : w.frozen? ⟨rb, 0, none⟩ = false
  f1 : w.frozen? ⟨rb, 1, none⟩ = false
  f2 : w.frozen? ⟨rb, 2, none⟩ = false

theorem lay_start {w w1 w3 : World} {rb k1 k2 nc tc : Nat} (h : Row0 w rb) (hG : Grew w k1 nc w1) (hG2 : Grew (w1.setCell ⟨rb, 0, none⟩ (.slice (some ⟨w.heap.size, 0, none⟩) 0 nc)) k2 tc w3) :
    Rw (w3.setCell ⟨rb, 1, none⟩ (.slice (some ⟨(w1.setCell ⟨rb, 0, none⟩ (.slice (some ⟨w.heap.size, 0, none⟩) 0 nc)).heap.size, 0, none⟩) 0 tc)) rb w.heap.size 0 nc (w1.setCell ⟨rb, 0, none⟩ (.slice (some ⟨w.heap.size, 0, none⟩) 0 nc)).heap.size 0 tc [] [] ∧
    Only (fun k => k = rb) w (w3.setCell ⟨rb, 1, none⟩ (.slice (some ⟨(w1.setCell ⟨rb, 0, none⟩ (.slice (some ⟨w.heap.size, 0, none⟩) 0 nc)).heap.size, 0, none⟩) 0 tc)) ∧
    (w3.setCell ⟨rb, 1, none⟩ (.slice (some ⟨(w1.setCell ⟨rb, 0, none⟩ (.slice (some ⟨w.heap.size, 0, none⟩) 0 nc)).heap.size, 0, none⟩) 0 tc)).frozen? ⟨rb, 2, none⟩ = false := by
  have hl : rb < w.heap.size := World.block_lt_of_cell? w _ h.c0
  have O2 : Only (fun k => k = rb) w1 (w1.setCell ⟨rb, 0, none⟩ (.slice (some ⟨w.heap.size, 0, none⟩) 0 nc)) := (Only.refl (fun k => k = rb) w1).setCell (p := ⟨rb, 0, none⟩) (.inl rfl) _
  have a0 := hG.only.cell h.c0 (fun h => h)
  have a1 := hG.only.cell h.c1 (fun h => h)
  have a2 := hG.only.cell h.c2 (fun h => h)
  have z1 := hG.size
  have z2 : (w1.setCell ⟨rb, 0, none⟩ (.slice (some ⟨w.heap.size, 0, none⟩) 0 nc)).heap.size = w1.heap.size := by simp
  generalize hw2 : (w1.setCell ⟨rb, 0, none⟩ (.slice (some ⟨w.heap.size, 0, none⟩) 0 nc)) = w2 at *
  have b0 : w2.cell? ⟨rb, 0, none⟩ = some (.slice (some ⟨w.heap.size, 0, none⟩) 0 nc) := by rw [← hw2]; exact World.cell?_setCell_same _ _ _ a0
  have b1 : w2.cell? ⟨rb, 1, none⟩ = some (.slice none 0 0) := by rw [← hw2, World.cell?_setCell_other _ _ _ _ (by simp)]; exact a1
  have b2 : w2.cell? ⟨rb, 2, none⟩ = some (.slice none 0 0) := by rw [← hw2, World.cell?_setCell_other _ _ _ _ (by simp)]; exact a2
  have e0 := hG2.only.cell b0 (fun h => h)
  have e1 := hG2.only.cell b1 (fun h => h)
  have e2 := hG2.only.cell b2 (fun h => h)
  have z3 := hG2.size
  have F : ∀ j, w.frozen? ⟨rb, j, none⟩ = false → w3.frozen? ⟨rb, j, none⟩ = false := by
    intro j hj
    rw [hG2.only.frozen (p := ⟨rb, j, none⟩) (show rb < _ by omega) (fun h => h), ← hw2, World.frozen?_setCell, hG.only.frozen (p := ⟨rb, j, none⟩) hl (fun h => h)]
    exact hj
  have O4 : Only (fun k => k = rb) w3 (w3.setCell ⟨rb, 1, none⟩ (.slice (some ⟨w2.heap.size, 0, none⟩) 0 tc)) := (Only.refl (fun k => k = rb) w3).setCell (p := ⟨rb, 1, none⟩) (.inl rfl) _
  have z4 : (w3.setCell ⟨rb, 1, none⟩ (.slice (some ⟨w2.heap.size, 0, none⟩) 0 tc)).heap.size = w3.heap.size := by simp
  have n1 : ¬ (w.heap.size = rb) := by omega
  have n2 : ¬ (w2.heap.size = rb) := by omega
  refine ⟨⟨?_, ?_, ?_, ?_, ?_, Nat.zero_le _, hG.max, fun j v hv => by simp [ptrs] at hv, ?_, Nat.zero_le _, hG2.max, fun j v hv => by simp [ints] at hv, O4.there hG2.room n2, n1, n2, by omega, by omega, by omega⟩, ?_, by rw [World.frozen?_setCell]; exact F 2 h.f2⟩
  · rw [World.cell?_setCell_other _ _ _ _ (by simp)]; exact e0
  · exact World.cell?_setCell_same _ _ _ e1
  · rw [World.cell?_setCell_other _ _ _ _ (by simp)]; exact e2
  · rw [World.frozen?_setCell]; exact F 0 h.f0
  · rw [World.frozen?_setCell]; exact F 1 h.f1
  · exact O4.there (hG2.only.there (O2.there hG.room n1) (fun h => h)) n1
  · exact (((hG.only.mono (fun _ _ h => False.elim h)).trans O2 (fun i h => .inl h)).trans hG2.only (fun _ h => False.elim h)).trans O4 (fun i h => .inl h)

/-- A row and its leaves, all of them new. -/
structure LayS (w : World) (B rb nb no nc tb to tc : Nat) (L : List Nd) (ss : List Int) : Prop where
  rw : Rw w rb nb no nc tb to tc (L.map Nd.b) ss
  f2 : w.frozen? ⟨rb, 2, none⟩ = false
  b1 : B ≤ rb
  b2 : B ≤ nb
  b3 : B ≤ tb
  ok : ∀ n ∈ L, EOK w n ∧ w.cell? ⟨n.b, 0, none⟩ = some (.pointer none)
  new : ∀ n ∈ L, B ≤ n.b ∧ B ≤ n.eb
  ap : ∀ n ∈ L, (n.b ≠ rb ∧ n.b ≠ nb ∧ n.b ≠ tb) ∧ (n.eb ≠ rb ∧ n.eb ≠ nb ∧ n.eb ≠ tb)
  dis : L.Pairwise (fun m n => m.b ≠ n.b ∧ m.b ≠ n.eb ∧ m.eb ≠ n.b ∧ m.eb ≠ n.eb)

theorem lay_push {w w2 w3 : World} {B rb nb no nc tb to tc : Nat} {L : List Nd} {ss : List Int} (h : LayS w B rb nb no nc tb to tc L ss) (hB : B ≤ w.heap.size) (hO : Only (fun _ => False) w w2) {n : Nd} (hn : EOK w2 n) (hn0 : w2.cell? ⟨n.b, 0, none⟩ = some (.pointer none)) (hb1 : w.heap.size ≤ n.b) (hb2 : w.heap.size ≤ n.eb)
    {ob : Obj} {nb' no' nc' : Nat} (hA : App (w2.alloc ob) nb no nc (ptrs (L.map Nd.b) ++ [ptr n.b]) nb' no' nc' w3) :
    LayS (w3.setCell ⟨rb, 0, none⟩ (.slice (some ⟨nb', no', none⟩) ((L.map Nd.b).length + 1) nc')) B rb nb' no' nc' tb to tc (L ++ [n]) ss ∧ Only (fun k => B ≤ k) w (w3.setCell ⟨rb, 0, none⟩ (.slice (some ⟨nb', no', none⟩) ((L.map Nd.b).length + 1) nc')) := by
  have hR2 := h.rw.kept hO (fun h => h) (fun h => h) (fun h => h)
  obtain ⟨hR3, hp, hO3⟩ := rw_push_n hR2 hA
  have hl := World.block_lt_of_cell? w _ h.rw.c0
  simp only at hl
  have l1 := h.rw.n1
  have l2 := h.rw.n2
  have ltn := hn.lt
  have hsz := hO.size
  have hp2 : ∀ k, k < w2.heap.size → k ≠ nb → k ≠ nb' := by
    intro k hk hne e
    rcases hp with e2 | e2
    · exact hne (e.trans e2)
    · omega
  have hO3' : ∀ k, k ≠ rb → k ≠ nb → ¬ (k = rb ∨ k = nb) := fun k h1 h2 e => e.elim h1 h2
  refine ⟨⟨by rw [List.map_append]; exact hR3, ?_, h.b1, hp.elim (fun e => e ▸ h.b2) (fun e => by omega), h.b3, ?_, ?_, ?_, ?_⟩, ?_⟩
  · rw [World.frozen?_setCell, hA.fz rb 2 (by simp; omega), ((Only.refl (fun _ => False) w2).alloc ob).frozen (p := ⟨rb, 2, none⟩) (show rb < _ by omega) (fun h => h), hO.frozen (p := ⟨rb, 2, none⟩) hl (fun h => h)]
    exact h.f2
  · intro m hm
    rcases List.mem_append.1 hm with hm | hm
    · obtain ⟨e1, e2⟩ := h.ok m hm
      obtain ⟨⟨a1, a2, a3⟩, a4, a5, a6⟩ := h.ap m hm
      exact ⟨(e1.kept hO (fun h => h) (fun h => h)).kept hO3 (hO3' _ a1 a2) (hO3' _ a4 a5), hO3.cell (hO.cell e2 (fun h => h)) (hO3' _ a1 a2)⟩
    · simp only [List.mem_singleton] at hm
      subst hm
      exact ⟨hn.kept hO3 (show ¬ (m.b = rb ∨ m.b = nb) by omega) (show ¬ (m.eb = rb ∨ m.eb = nb) by omega), hO3.cell hn0 (show ¬ (m.b = rb ∨ m.b = nb) by omega)⟩
  · intro m hm
    rcases List.mem_append.1 hm with hm | hm
    · exact h.new m hm
    · simp only [List.mem_singleton] at hm
      subst hm
      exact ⟨by omega, by omega⟩
  · intro m hm
    rcases List.mem_append.1 hm with hm | hm
    · obtain ⟨⟨a1, a2, a3⟩, a4, a5, a6⟩ := h.ap m hm
      have lm := (h.ok m hm).1.lt
      exact ⟨⟨a1, hp2 _ (by omega) a2, a3⟩, a4, hp2 _ (by omega) a5, a6⟩
    · simp only [List.mem_singleton] at hm
      subst hm
      exact ⟨⟨by omega, hp2 _ (by omega) (by omega), by omega⟩, by omega, hp2 _ (by omega) (by omega), by omega⟩
  · refine List.pairwise_append.2 ⟨h.dis, by simp, fun a ha b hb => ?_⟩
    simp only [List.mem_singleton] at hb
    subst hb
    have la := (h.ok a ha).1.lt
    exact ⟨by omega, by omega, by omega, by omega⟩
  · refine (hO.mono (fun _ _ h => False.elim h)).trans hO3 (fun i e => .inl ?_)
    rcases e with e | e
    · rw [e]; exact h.b1
    · rw [e]; exact h.b2

theorem lay_sep {w w0 w1 : World} {B rb nb no nc tb to tc : Nat} {L : List Nd} {ss : List Int} (h : LayS w B rb nb no nc tb to tc L ss) (hB : B ≤ w.heap.size) {v : Int} {tb' to' tc' : Nat} (hA : App w0 tb to tc (ints ss ++ [.int .i64 v]) tb' to' tc' w1) (h0 : Only (fun _ => False) w w0) :
    LayS (w1.setCell ⟨rb, 1, none⟩ (.slice (some ⟨tb', to', none⟩) (ss.length + 1) tc')) B rb nb no nc tb' to' tc' L (ss ++ [v]) ∧ Only (fun k => B ≤ k) w (w1.setCell ⟨rb, 1, none⟩ (.slice (some ⟨tb', to', none⟩) (ss.length + 1) tc')) := by
  obtain ⟨hR3, hp, hO3⟩ := rw_push_s h.rw hA h0 h0.size
  have hp2 : ∀ k, k < w.heap.size → k ≠ tb → k ≠ tb' := by
    intro k hk hne e
    rcases hp with e2 | e2
    · exact hne (e.trans e2)
    · omega
  have hl : rb < w.heap.size := World.block_lt_of_cell? w _ h.rw.c0
  refine ⟨⟨hR3, ?_, h.b1, h.b2, hp.elim (fun e => e ▸ h.b3) (fun e => by omega), ?_, h.new, ?_, h.dis⟩, hO3.mono (fun k _ e => ?_)⟩
  · rw [World.frozen?_setCell, hA.fz rb 2 (by have := h0.size; omega), h0.frozen (p := ⟨rb, 2, none⟩) hl (fun h => h)]
    exact h.f2
  · intro m hm
    obtain ⟨e1, e2⟩ := h.ok m hm
    obtain ⟨⟨a1, a2, a3⟩, a4, a5, a6⟩ := h.ap m hm
    exact ⟨e1.kept hO3 (show ¬ (m.b = rb ∨ m.b = tb) by omega) (show ¬ (m.eb = rb ∨ m.eb = tb) by omega), hO3.cell e2 (show ¬ (m.b = rb ∨ m.b = tb) by omega)⟩
  · intro m hm
    obtain ⟨⟨a1, a2, a3⟩, a4, a5, a6⟩ := h.ap m hm
    have lm := (h.ok m hm).1.lt
    exact ⟨⟨a1, a2, hp2 _ (by omega) a3⟩, a4, a5, hp2 _ (by omega) a6⟩
  · rcases e with e | e
    · rw [e]; exact h.b1
    · rw [e]; exact h.b3

/-- A new leaf that has been filled. -/
theorem leaf_filled {w w2 : World} {e2 o2 c2 : Nat} {ys : List Int} {n : Nat} (hA : App (w.alloc (newObj w.heap.size)).drew w.heap.size 2 126 (([] : List Value) ++ ints ys) e2 o2 c2 w2) (hn : n = ys.length) (hpos : 0 < ys.length) :
    EOK (w2.setCell ⟨w.heap.size, 1, none⟩ (.slice (some ⟨e2, o2, none⟩) n c2)) ⟨w.heap.size, e2, o2, c2, ys⟩ ∧ (w2.setCell ⟨w.heap.size, 1, none⟩ (.slice (some ⟨e2, o2, none⟩) n c2)).cell? ⟨w.heap.size, 0, none⟩ = some (.pointer none) ∧ w.heap.size ≤ e2 ∧ Only (fun _ => False) w (w2.setCell ⟨w.heap.size, 1, none⟩ (.slice (some ⟨e2, o2, none⟩) n c2)) := by
  subst hn
  obtain ⟨hE, h0, hf0⟩ := new_ok w
  have hz : (w.alloc (newObj w.heap.size)).drew.heap.size = w.heap.size + 1 := by simp
  have g1 := hA.keep (b' := w.heap.size) (o' := 1) (v := .slice (some ⟨w.heap.size, 2, none⟩) 0 126) (by simpa using hE.cell) (fun _ => by omega)
  have g0 := hA.keep (b' := w.heap.size) (o' := 0) (v := .pointer none) (by simpa using h0) (fun _ => by omega)
  have gf := hA.keepf (b' := w.heap.size) (o' := 1) (by omega) (by simpa using hE.free)
  have hle := hA.le
  simp only [List.nil_append, ints_length] at hle
  have hrow := hA.row
  rw [List.nil_append] at hrow
  have hap : e2 = w.heap.size → 2 ≤ o2 := by
    intro e
    rcases hA.place with h | h
    · omega
    · omega
  have hp : w.heap.size ≤ e2 := by
    rcases hA.place with h | h
    · omega
    · omega
  refine ⟨⟨World.cell?_setCell_same _ _ _ g1, by rw [World.frozen?_setCell]; exact gf, hle, hA.max, ?_, World.there_setCells hA.room _ _ [_], hap, by show 0 < c2; omega⟩, ?_, hp, ?_⟩
  · exact World.rangeAt_setCells_apart hrow w.heap.size 1 [_] ((Decidable.em (e2 = w.heap.size)).elim (fun h => .inr (.inr (by have := hap h; simpa using this))) .inl)
  · rw [World.cell?_setCell_other _ _ _ _ (by simp)]; exact g0
  · exact ((((Only.refl (fun _ => False) w).alloc _).drew).trans hA.only (fun i h => .inr (by omega))).setCell (p := ⟨w.heap.size, 1, none⟩) (.inr (Nat.le_refl _)) _
/-- A leaf just made. -/
structure Fresh (w w1 : World) (R : Nat) : Prop where
  eq : R = w.heap.size
  lt : R < w1.heap.size
  c1 : w1.cell? ⟨R, 1, none⟩ = some (.slice (some ⟨R, 2, none⟩) 0 126)
  c0 : w1.cell? ⟨R, 0, none⟩ = some (.pointer none)
  f1 : w1.frozen? ⟨R, 1, none⟩ = false
  f0 : w1.frozen? ⟨R, 0, none⟩ = false
  room : w1.there R 2 126
  only : Only (fun _ => False) w w1
  fill : ∀ (w2 : World) (e2 o2 c2 : Nat) (ys : List Int) (n : Nat), App w1.drew R 2 126 (([] : List Value) ++ ints ys) e2 o2 c2 w2 → n = ys.length → 0 < ys.length →
    EOK (w2.setCell ⟨R, 1, none⟩ (.slice (some ⟨e2, o2, none⟩) n c2)) ⟨R, e2, o2, c2, ys⟩ ∧ (w2.setCell ⟨R, 1, none⟩ (.slice (some ⟨e2, o2, none⟩) n c2)).cell? ⟨R, 0, none⟩ = some (.pointer none) ∧ w.heap.size ≤ e2 ∧ Only (fun _ => False) w (w2.setCell ⟨R, 1, none⟩ (.slice (some ⟨e2, o2, none⟩) n c2))
theorem fresh_new (w : World) : Fresh w (w.alloc (newObj w.heap.size)) w.heap.size := by
  obtain ⟨h1, h2, h3⟩ := new_ok w
  exact ⟨rfl, by simp, h1.cell, h2, h1.free, h3, h1.room, (Only.refl _ _).alloc _, fun w2 e2 o2 c2 ys n hA hn hp => leaf_filled hA hn hp⟩
end Go.Proofs.Ybulkcgwo.T
