import Derived.Test.YbulkcgwoTInsT
import Derived.Test.YbulkcgwoTRegion
namespace Go.Proofs.Ybulkcgwo.T
open Go.RowKit
set_option linter.unusedVariables false
set_option linter.unusedSimpArgs false

/-- A set that lies in memory. -/
structure St (o : Ords) (w : World) (sb : Nat) (hb : Option Nat) (t : Tree) : Prop where
  own : ∃ g, Own w sb o.cmpV o.searchV (rootT t) (flatT t).length g (hb.map fun h => ⟨h, 0, none⟩) ∧ ∀ h, hb = some h → Hol w sb h g
  nil : hb = none → t = none
  ok : TOK w t
  sor : Sor o.lt (flatT t)
  inv : o.inv w
  ap : ∀ k, footT t k → k ≠ sb ∧ hb ≠ some k ∧ ¬ o.reads k
  aps : ¬ o.reads sb
  aph : ∀ h, hb = some h → h ≠ sb ∧ ¬ o.reads h
def setFoot (o : Ords) (sb : Nat) (hb : Option Nat) (t : Tree) (k : Nat) : Prop := k = sb ∨ hb = some k ∨ footT t k ∨ o.foot k

theorem St.kept {o : Ords} (G : o.Good) {w w' : World} {sb : Nat} {hb : Option Nat} {t : Tree} (h : St o w sb hb t) {F : Nat → Prop} (hO : Only F w w') (h1 : ¬ F sb) (h2 : ∀ k, hb = some k → ¬ F k) (h3 : ∀ k, footT t k → ¬ F k) (h4 : ∀ k, o.reads k → ¬ F k) : St o w' sb hb t := by
  obtain ⟨g, hg, hh⟩ := h.own
  exact ⟨⟨g, hg.kept hO h1, fun k hk => (hh k hk).kept hO (h2 k hk)⟩, h.nil, h.ok.kept hO h3, h.sor, G.kept _ _ _ h.inv hO h4, h.ap, h.aps, h.aph⟩
theorem St.drewN {o : Ords} (G : o.Good) {w : World} {sb : Nat} {hb : Option Nat} {t : Tree} (h : St o w sb hb t) (n : Nat) : St o (w.drewN n) sb hb t :=
  h.kept G ((Only.refl (fun _ => False) w).drewN n) (fun h => h) (fun _ _ h => h) (fun _ _ h => h) (fun _ _ h => h)

theorem holdS (o : Ords) (G : o.Good) (sb : Nat) (hb : Option Nat) (t : Tree) (w : World) (hS : St o w sb hb t) :
    Calls Yba.prog 36 #[.pointer (some ⟨sb, 0, none⟩)] w fun r w' => r = .returned (.tuple #[]) ∧ ∃ h', St o w' sb (some h') t ∧ Only (fun k => k = sb) w w' ∧ (hb = some h' ∨ w.heap.size ≤ h') := by
  obtain ⟨g, hg, hh⟩ := hS.own
  cases hb with
  | none =>
    have ht := hS.nil rfl
    subst ht
    refine (hold_nil sb o.cmpV o.searchV _ g w hg).mono ?_
    rintro r w' ⟨rfl, g', h', hle, hOw, hHo, hO⟩
    have hsl := World.block_lt_of_cell? w _ hg.c0
    simp only at hsl
    refine ⟨rfl, h', ⟨⟨g', hOw, fun k hk => (by cases hk; exact hHo)⟩, fun h => (by cases h), trivial, hS.sor, G.kept _ _ _ hS.inv hO (fun k hk h => hS.aps (h ▸ hk)), fun k hk => False.elim hk, hS.aps, ?_⟩, hO, .inr hle⟩
    intro k hk
    cases hk
    exact ⟨by omega, fun hr => by have := G.lt w _ hS.inv hr; omega⟩
  | some h =>
    refine (hold_held sb h o.cmpV o.searchV (rootT t) _ g w hg (hh h rfl)).mono ?_
    rintro r w' ⟨rfl, m, rfl⟩
    exact ⟨rfl, h, hS.drewN G m, (Only.refl _ _).drewN m, .inl rfl⟩

/-- A new path. -/
abbrev pathObj : Obj := .cells #[.pointer none, .int .i64 0, .pointer none, .int .i64 0, .pointer none, .int .i64 0, .pointer none, .int .i64 0, .pointer none, .int .i64 0, .pointer none, .int .i64 0, .pointer none, .int .i64 0, .pointer none, .int .i64 0, .pointer none, .int .i64 0, .pointer none, .int .i64 0, .pointer none, .int .i64 0, .int .i64 0] 80
theorem path_new (w : World) : Path0 (w.alloc pathObj) w.heap.size := by
  refine ⟨fun j hj => ?_⟩
  rw [Nat.zero_add, cell_of_row _ _ _ _ _ _ (heap_alloc_new w _)]
  refine ⟨?_, ?_⟩
  · rw [Array.getElem?_eq_getElem (by simpa using hj)]; rfl
  · unfold World.frozen?; rw [heap_alloc_new]; simp

theorem foot_lt {w : World} {t : Tree} (h : TOK w t) {k : Nat} (hk : footT t k) : k < w.heap.size := by
  match t, h, hk with
  | none, _, hk => exact False.elim hk
  | some (.inl d), h, hk => exact hk.elim (fun e => e ▸ h.1.lt.1) (fun e => e ▸ h.1.lt.2)
  | some (.inr (d, kb, L)), h, hk =>
    rcases hk with e | e | e | ⟨n, hn, e⟩
    · exact e ▸ h.1.E.lt.1
    · exact e ▸ h.1.E.lt.2
    · exact e ▸ h.1.K.lt.2
    · exact e.elim (fun e => e ▸ (h.1.leaf n hn).1.lt.1) (fun e => e ▸ (h.1.leaf n hn).1.lt.2)

theorem St.kept2 {o : Ords} (G : o.Good) {w w' : World} {sb pb : Nat} {hb : Option Nat} {t : Tree} (h : St o w sb hb t) (hW : SeekW o pb w w') (h1 : ¬ (sb = pb ∨ o.foot sb)) (h2 : ∀ k, hb = some k → k ≠ pb) (h3 : ¬ footT t pb) : St o w' sb hb t := by
  obtain ⟨g, hg, hh⟩ := h.own
  refine ⟨⟨g, hg.kept hW.only h1, fun k hk => (hh k hk).kept hW.only ?_⟩, h.nil, h.ok.kept hW.only ?_, h.sor, hW.inv, h.ap, h.aps, h.aph⟩
  · exact fun hc => hc.elim (h2 k hk) (fun hc => (h.aph k hk).2 (G.sub _ hc))
  · exact fun k hk hc => hc.elim (fun e => h3 (e ▸ hk)) (fun hc => (h.ap k hk).2.2 (G.sub _ hc))

theorem eql30 (f : Fn) (a c : Array Value) (w : World) : (binOp .eql 30 (.func f a c) .nilFunc).run Yba.prog w = .ok (.bool false) w := by kernel_rfl

set_option maxHeartbeats 1000000 in
set_option maxRecDepth 100000 in
theorem add_yes (o : Ords) (G : o.Good) (sb : Nat) (hb : Option Nat) (t : Tree) (e : Int) (w : World) (hS : St o w sb hb t) (hx : e ∈ flatT t) (hn : (flatT t).length ≤ 5000) :
    Calls Yba.prog 17 #[.pointer (some ⟨sb, 0, none⟩), .int .i64 e] w fun r w' => r = .returned (.bool false) ∧ ∃ h', St o w' sb (some h') t ∧ Only (setFoot o sb hb t) w w' ∧ (hb = some h' ∨ w.heap.size ≤ h') := by
  obtain ⟨g, hg, hh⟩ := hS.own
  have c0 := hg.c0
  unfold Ords.cmpV at c0
  have HS := hide hS
  have hq := eql30
  clear hg hh hS
  go_enter Yba.func17, Yba.ntmps17
  go_wp2_with fail
  refine (holdS o G sb hb t w HS.out).mono ?_
  rintro r w1 ⟨rfl, h', hS1, hO1, hh1⟩
  have HS1 := hide hS1
  have HO1 := hide hO1
  have HH1 := hide hh1
  clear hS1 hO1 hh1 c0
  go_wp2
  have hP2 := hide (path_new w1)
  have hO2 : Hid (Only (fun _ => False) w1 (w1.alloc pathObj)) := (Only.refl _ _).alloc _
  obtain ⟨pb, hpb⟩ : ∃ pb, pb = w1.heap.size := ⟨_, rfl⟩
  rw [← hpb] at hP2 ⊢
  unfold pathObj at hP2 hO2
  generalize (w1.alloc (.cells #[.pointer none, .int .i64 0, .pointer none, .int .i64 0, .pointer none, .int .i64 0, .pointer none, .int .i64 0, .pointer none, .int .i64 0, .pointer none, .int .i64 0, .pointer none, .int .i64 0, .pointer none, .int .i64 0, .pointer none, .int .i64 0, .pointer none, .int .i64 0, .pointer none, .int .i64 0, .int .i64 0] 80)) = w2 at hP2 hO2 ⊢
  have HS2 := hide (HS1.out.kept G hO2.out (fun h => h) (fun _ _ h => h) (fun _ _ h => h) (fun _ _ h => h))
  obtain ⟨g2, hg2, hh2⟩ := HS2.out.own
  have c0 := hg2.c0
  have c1 := hg2.c1
  have c2 := hg2.c2
  have hsl := World.block_lt_of_cell? w1 _ HS1.out.own.choose_spec.1.c0
  simp only at hsl
  have hps : pb ≠ sb := by omega
  have hnf : ¬ footT t pb := fun h => by have := foot_lt HS1.out.ok h; omega
  have hnr : ¬ o.reads pb := fun h => by have := G.lt w1 _ HS1.out.inv h; omega
  have hsn : ¬ (sb = pb ∨ o.foot sb) := fun h => h.elim (fun h => hps h.symm) (fun h => HS1.out.aps (G.sub _ h))
  have hS3 : Hid (St o w2.drew sb (some h') t) := HS2.out.drewN G 1
  have hF3 : Hid (Fits o w2.drew t) := ⟨hS3.out.ok, hS3.out.sor, hS3.out.inv, fun k hk => (hS3.out.ap k hk).2.2, hn⟩
  have hP3 : Hid (Path0 w2.drew pb) := ⟨(World.there_drew _ _ _ _).2 hP2.out.room⟩
  have HPB := hide hpb
  unfold Ords.cmpV at c0
  clear hg2 hh2 hpb
  refine wp_region_noPanic ?_
  refine wp_region_held_drew (S := fun w' => w'.cell? ⟨sb, 0, none⟩ = some (.func (.func o.fc) #[] o.ccaps) ∧ w'.cell? ⟨sb, 1, none⟩ = some o.searchV ∧ w'.cell? ⟨sb, 2, none⟩ = some (.pointer (rootT t))) (by kernel_rfl) ⟨by simpa using c0, by simpa using c1, by simpa using c2⟩ (fun hHeld => ?_)
  refine takeYes 0 (some 19) (.pointer (some ⟨sb, 0, none⟩)) (by kernel_rfl) (by kernel_rfl) (by kernel_rfl) (by kernel_rfl) (fun _ _ _ h => h) (by kernel_rfl) ?_ hHeld ?_
  · intro w' hSw; obtain ⟨y0, y1, y2⟩ := hSw; simp only [List.getElem?_toArray, List.getElem?_cons_zero, List.getElem?_cons_succ, Option.map_some]; go_simp
  simp only [Act.put, List.setIfInBounds_toArray, List.set_cons_zero, List.set_cons_succ]
  refine takeYes 1 (some 20) (.pointer (some ⟨sb, 0, none⟩)) (by kernel_rfl) (by kernel_rfl) (by kernel_rfl) (by kernel_rfl) (fun _ _ _ h => h) (by kernel_rfl) ?_ hHeld ?_
  · intro w' hSw; obtain ⟨y0, y1, y2⟩ := hSw; simp only [List.getElem?_toArray, List.getElem?_cons_zero, List.getElem?_cons_succ, Option.map_some]; go_simp
  simp only [Act.put, List.setIfInBounds_toArray, List.set_cons_zero, List.set_cons_succ]
  refine takeYes 2 (some 21) (.pointer (some ⟨sb, 2, none⟩)) (by kernel_rfl) (by kernel_rfl) (by kernel_rfl) (by kernel_rfl) (fun _ _ _ h => h) (by kernel_rfl) ?_ hHeld ?_
  · intro w' hSw; obtain ⟨y0, y1, y2⟩ := hSw; simp only [List.getElem?_toArray, List.getElem?_cons_zero, List.getElem?_cons_succ, Option.map_some]; go_simp
  simp only [Act.put, List.setIfInBounds_toArray, List.set_cons_zero, List.set_cons_succ]
  refine takeYes 3 (some 22) (.pointer (rootT t)) (by kernel_rfl) (by kernel_rfl) (by kernel_rfl) (by kernel_rfl) (fun _ _ _ h => h) (by kernel_rfl) ?_ hHeld ?_
  · intro w' hSw; obtain ⟨y0, y1, y2⟩ := hSw; simp only [List.getElem?_toArray, List.getElem?_cons_zero, List.getElem?_cons_succ, Option.map_some]; go_simp
  simp only [Act.put, List.setIfInBounds_toArray, List.set_cons_zero, List.set_cons_succ]
  refine takeYes 4 (some 23) (.int .i64 e) (by kernel_rfl) (by kernel_rfl) (by kernel_rfl) (by kernel_rfl) (fun _ _ _ h => h) (by kernel_rfl) ?_ hHeld ?_
  · intro w' hSw; obtain ⟨y0, y1, y2⟩ := hSw; simp only [List.getElem?_toArray, List.getElem?_cons_zero, List.getElem?_cons_succ, Option.map_some]; go_simp
  simp only [Act.put, List.setIfInBounds_toArray, List.set_cons_zero, List.set_cons_succ]
  refine takeYes 5 (some 24) (.pointer (some ⟨sb, 0, none⟩)) (by kernel_rfl) (by kernel_rfl) (by kernel_rfl) (by kernel_rfl) (fun _ _ _ h => h) (by kernel_rfl) ?_ hHeld ?_
  · intro w' hSw; obtain ⟨y0, y1, y2⟩ := hSw; simp only [List.getElem?_toArray, List.getElem?_cons_zero, List.getElem?_cons_succ, Option.map_some]; go_simp
  simp only [Act.put, List.setIfInBounds_toArray, List.set_cons_zero, List.set_cons_succ]
  refine takeYes 6 (some 25) (.pointer (some ⟨sb, 0, none⟩)) (by kernel_rfl) (by kernel_rfl) (by kernel_rfl) (by kernel_rfl) (fun _ _ _ h => h) (by kernel_rfl) ?_ hHeld ?_
  · intro w' hSw; obtain ⟨y0, y1, y2⟩ := hSw; simp only [List.getElem?_toArray, List.getElem?_cons_zero, List.getElem?_cons_succ, Option.map_some]; go_simp
  simp only [Act.put, List.setIfInBounds_toArray, List.set_cons_zero, List.set_cons_succ]
  refine takeYes 7 (some 26) (.pointer (some ⟨sb, 0, none⟩)) (by kernel_rfl) (by kernel_rfl) (by kernel_rfl) (by kernel_rfl) (fun _ _ _ h => h) (by kernel_rfl) ?_ hHeld ?_
  · intro w' hSw; obtain ⟨y0, y1, y2⟩ := hSw; simp only [List.getElem?_toArray, List.getElem?_cons_zero, List.getElem?_cons_succ, Option.map_some]; go_simp
  simp only [Act.put, List.setIfInBounds_toArray, List.set_cons_zero, List.set_cons_succ]
  refine takeYes 8 (some 27) (.pointer (some ⟨sb, 1, none⟩)) (by kernel_rfl) (by kernel_rfl) (by kernel_rfl) (by kernel_rfl) (fun _ _ _ h => h) (by kernel_rfl) ?_ hHeld ?_
  · intro w' hSw; obtain ⟨y0, y1, y2⟩ := hSw; simp only [List.getElem?_toArray, List.getElem?_cons_zero, List.getElem?_cons_succ, Option.map_some]; go_simp
  simp only [Act.put, List.setIfInBounds_toArray, List.set_cons_zero, List.set_cons_succ]
  refine takeYes 9 (some 28) o.searchV (by kernel_rfl) (by kernel_rfl) (by kernel_rfl) (by kernel_rfl) (fun _ _ _ h => h) (by kernel_rfl) ?_ hHeld ?_
  · intro w' hSw; obtain ⟨y0, y1, y2⟩ := hSw; simp only [List.getElem?_toArray, List.getElem?_cons_zero, List.getElem?_cons_succ, Option.map_some]; go_simp
  simp only [Act.put, List.setIfInBounds_toArray, List.set_cons_zero, List.set_cons_succ]
  refine wpAnyH_ready (rs := [10]) (by kernel_rfl) (by simp) ?_
  refine AllReadyH.cons rfl (fun K hK => ?_) AllReadyH.nil
  have HK := hide hK
  clear hK
  go_simp
  clear hHeld
  refine (seekT_yes o G pb t e w2.drew hP3.out hF3.out hnf hnr hx).mono ?_
  rintro r w3 ⟨rfl, hW⟩
  have HW := hide hW
  clear hW
  refine HK.out _ _ ⟨HW.out.only.cell (by simpa using c0) hsn, HW.out.only.cell (by simpa using c1) hsn, HW.out.only.cell (by simpa using c2) hsn⟩ (fun hHeld => ?_)
  clear HK K
  refine takeYes 11 (some 30) (.bool true) (by kernel_rfl) (by kernel_rfl) (by kernel_rfl) (by kernel_rfl) (fun _ _ _ h => h) (by kernel_rfl) ?_ hHeld ?_
  · intro w' hSw; obtain ⟨y0, y1, y2⟩ := hSw; simp only [List.getElem?_toArray, List.getElem?_cons_zero, List.getElem?_cons_succ, Option.map_some]; go_simp
  simp only [Act.put, List.setIfInBounds_toArray, List.set_cons_zero, List.set_cons_succ]
  refine takeNo 12 (some 31) (by kernel_rfl) (by kernel_rfl) (by kernel_rfl) (by kernel_rfl) (fun _ _ _ h => h) (by kernel_rfl) hHeld ?_
  simp only [Act.put, List.setIfInBounds_toArray, List.set_cons_zero, List.set_cons_succ]
  refine takeNo 13 (some 32) (by kernel_rfl) (by kernel_rfl) (by kernel_rfl) (by kernel_rfl) (fun _ _ _ h => h) (by kernel_rfl) hHeld ?_
  simp only [Act.put, List.setIfInBounds_toArray, List.set_cons_zero, List.set_cons_succ]
  refine takeNo 14 (some 33) (by kernel_rfl) (by kernel_rfl) (by kernel_rfl) (by kernel_rfl) (fun _ _ _ h => h) (by kernel_rfl) hHeld ?_
  simp only [Act.put, List.setIfInBounds_toArray, List.set_cons_zero, List.set_cons_succ]
  refine takeNo 15 (some 34) (by kernel_rfl) (by kernel_rfl) (by kernel_rfl) (by kernel_rfl) (fun _ _ _ h => h) (by kernel_rfl) hHeld ?_
  simp only [Act.put, List.setIfInBounds_toArray, List.set_cons_zero, List.set_cons_succ]
  refine takeNo 16 (some 35) (by kernel_rfl) (by kernel_rfl) (by kernel_rfl) (by kernel_rfl) (fun _ _ _ h => h) (by kernel_rfl) hHeld ?_
  simp only [Act.put, List.setIfInBounds_toArray, List.set_cons_zero, List.set_cons_succ]
  refine takeNo 17 (some 36) (by kernel_rfl) (by kernel_rfl) (by kernel_rfl) (by kernel_rfl) (fun _ _ _ h => h) (by kernel_rfl) hHeld ?_
  simp only [Act.put, List.setIfInBounds_toArray, List.set_cons_zero, List.set_cons_succ]
  refine takeNo 18 (some 37) (by kernel_rfl) (by kernel_rfl) (by kernel_rfl) (by kernel_rfl) (fun _ _ _ h => h) (by kernel_rfl) hHeld ?_
  simp only [Act.put, List.setIfInBounds_toArray, List.set_cons_zero, List.set_cons_succ]
  refine takeNo 19 (some 38) (by kernel_rfl) (by kernel_rfl) (by kernel_rfl) (by kernel_rfl) (fun _ _ _ h => h) (by kernel_rfl) hHeld ?_
  simp only [Act.put, List.setIfInBounds_toArray, List.set_cons_zero, List.set_cons_succ]
  refine takeNo 20 (some 39) (by kernel_rfl) (by kernel_rfl) (by kernel_rfl) (by kernel_rfl) (fun _ _ _ h => h) (by kernel_rfl) hHeld ?_
  simp only [Act.put, List.setIfInBounds_toArray, List.set_cons_zero, List.set_cons_succ]
  refine takeYes 21 (some 40) (.bool true) (by kernel_rfl) (by kernel_rfl) (by kernel_rfl) (by kernel_rfl) (fun _ _ _ h => h) (by kernel_rfl) ?_ hHeld ?_
  · intro w' hSw; obtain ⟨y0, y1, y2⟩ := hSw; simp only [List.getElem?_toArray, List.getElem?_cons_zero, List.getElem?_cons_succ, Option.map_some]; go_simp
  simp only [Act.put, List.setIfInBounds_toArray, List.set_cons_zero, List.set_cons_succ]
  refine wpAnyH_done (by kernel_rfl) ?_ _
  refine NoPanic.normal ?_
  clear hHeld c0 c1 c2
  go_wp2
  go_ret
  have hh2 : h' < w1.heap.size := by
    obtain ⟨g1, _, hh1⟩ := HS1.out.own
    exact World.block_lt_of_cell? w1 _ (hh1 h' rfl).c0
  have hF : Hid (St o w3 sb (some h') t) := hS3.out.kept2 G HW.out hsn (fun k hk => by cases hk; have := HPB.out; omega) hnf
  refine ⟨rfl, h', hF.out, ?_, HH1.out⟩
  have HO2 : Only (fun k => k = sb) w w2.drew := ((HO1.out.trans hO2.out (fun i h => False.elim h)).drew)
  refine (HO2.mono (fun k _ h => (.inl h : setFoot o sb hb t k))).trans HW.out.only (fun i h => ?_)
  rcases h with h | h
  · right; have := HPB.out; have := HO1.out.size; omega
  · exact .inl (.inr (.inr (.inr h)))

theorem SeekNo.kept {lt : Int → Int → Prop} {pb : Nat} {x : Int} {w w' : World} {F : Nat → Prop} {t : Tree} (h : SeekNo lt pb x w t) (hO : Only F w w') (hp : ¬ F pb) : SeekNo lt pb x w' t := by
  match t, h with
  | none, h => exact hO.cell (p := ⟨pb, 22, none⟩) h hp
  | some (.inl d), ⟨i, h1, h2, h3⟩ => exact ⟨i, h1, ⟨hO.cell h2.1 hp, hO.cell h2.2 hp⟩, hO.cell (p := ⟨pb, 22, none⟩) h3 hp⟩
  | some (.inr (d, kb, L)), ⟨L1, n, L2, j, h1, h2, h3, h4, h5, h6, h7⟩ => exact ⟨L1, n, L2, j, h1, h2, h3, ⟨hO.cell h4.1 hp, hO.cell h4.2 hp⟩, hO.cell (p := ⟨pb, 2, none⟩) h5 hp, hO.cell (p := ⟨pb, 3, none⟩) h6 hp, hO.cell (p := ⟨pb, 22, none⟩) h7 hp⟩

/-- What an Add of a new element leaves. -/
structure AddW (o : Ords) (sb : Nat) (hb : Option Nat) (t : Tree) (e : Int) (w w' : World) (h' : Nat) (t' : Tree) : Prop where
  mem : ∀ y, y ∈ flatT t' ↔ y = e ∨ y ∈ flatT t
  len : (flatT t').length ≤ (flatT t).length + 1
  only : Only (setFoot o sb hb t) w w'
  hold : hb = some h' ∨ w.heap.size ≤ h'
  foot : ∀ k, footT t' k → footT t k ∨ w.heap.size ≤ k

theorem add_end {o : Ords} (G : o.Good) {sb h' : Nat} {hb : Option Nat} {t t' : Tree} {e : Int} {w w5 w6 w7 : World} {g7 : Int} (hS : St o w5 sb (some h') t) (hO : Only (setFoot o sb hb t) w w5) (hh : hb = some h' ∨ w.heap.size ≤ h') (hx : True) (hlt : w.heap.size ≤ w5.heap.size)
    (hI : InsT o t e w5 w6 t') (h7 : Own w7 sb o.cmpV o.searchV (rootT t') ((flatT t).length + 1 : Int) g7 (some ⟨h', 0, none⟩)) (k7 : Hol w7 sb h' g7) (o7 : Only (fun k => k = sb ∨ k = h') w6 w7) :
    St o w7 sb (some h') t' ∧ AddW o sb hb t e w w7 h' t' := by
  have hsl := World.block_lt_of_cell? w5 _ hS.own.choose_spec.1.c0
  simp only at hsl
  have hhl : h' < w5.heap.size := World.block_lt_of_cell? w5 _ (hS.own.choose_spec.2 h' rfl).c0
  have hap : ∀ k, footT t' k → k ≠ sb ∧ (some h' : Option Nat) ≠ some k ∧ ¬ o.reads k := by
    intro k hk
    rcases hI.foot k hk with h | h
    · exact hS.ap k h
    · exact ⟨by omega, by simp; omega, fun hr => by have := G.lt w5 k hS.inv hr; omega⟩
  refine ⟨⟨⟨g7, by rw [hI.len]; simpa using h7, fun k hk => by cases hk; exact k7⟩, fun h => (by cases h), hI.ok.kept o7 (fun k hk h => ?_), hI.sor, ?_, hap, hS.aps, hS.aph⟩, ⟨hI.mem, by rw [hI.len]; exact Nat.le_refl _, ?_, hh, ?_⟩⟩
  · obtain ⟨a, b, _⟩ := hap k hk
    rcases h with h | h
    · exact a h
    · exact b (by rw [h])
  · refine G.kept _ _ _ (G.kept _ _ _ hS.inv hI.only (fun k hr hf => (hS.ap k hf).2.2 hr)) o7 (fun k hr h => ?_)
    rcases h with h | h
    · exact hS.aps (h ▸ hr)
    · exact (hS.aph h' rfl).2 (h ▸ hr)
  · refine (hO.trans hI.only (fun i h => .inl (.inr (.inr (.inl h))))).trans o7 (fun i h => ?_)
    rcases h with h | h
    · exact .inl (.inl h)
    · subst h
      exact hh.elim (fun h => .inl (.inr (.inl h))) (fun h => .inr h)
  · intro k hk
    exact (hI.foot k hk).imp id (fun h => by omega)

set_option maxHeartbeats 1000000 in
set_option maxRecDepth 100000 in
theorem add_no (o : Ords) (G : o.Good) (sb : Nat) (hb : Option Nat) (t : Tree) (e : Int) (w : World) (hS : St o w sb hb t) (hx : e ∉ flatT t) (hn : (flatT t).length ≤ 5000) :
    Calls Yba.prog 17 #[.pointer (some ⟨sb, 0, none⟩), .int .i64 e] w fun r w' => r = .returned (.bool true) ∧ ∃ h' t', St o w' sb (some h') t' ∧ AddW o sb hb t e w w' h' t' := by
  obtain ⟨g, hg, hh⟩ := hS.own
  have c0 := hg.c0
  unfold Ords.cmpV at c0
  have HS := hide hS
  have hq := eql30
  clear hg hh hS
  go_enter Yba.func17, Yba.ntmps17
  go_wp2_with fail
  refine (holdS o G sb hb t w HS.out).mono ?_
  rintro r w1 ⟨rfl, h', hS1, hO1, hh1⟩
  have HS1 := hide hS1
  have HO1 := hide hO1
  have HH1 := hide hh1
  clear hS1 hO1 hh1 c0
  go_wp2
  have hP2 := hide (path_new w1)
  have hO2 : Hid (Only (fun _ => False) w1 (w1.alloc pathObj)) := (Only.refl _ _).alloc _
  obtain ⟨pb, hpb⟩ : ∃ pb, pb = w1.heap.size := ⟨_, rfl⟩
  rw [← hpb] at hP2 ⊢
  unfold pathObj at hP2 hO2
  generalize (w1.alloc (.cells #[.pointer none, .int .i64 0, .pointer none, .int .i64 0, .pointer none, .int .i64 0, .pointer none, .int .i64 0, .pointer none, .int .i64 0, .pointer none, .int .i64 0, .pointer none, .int .i64 0, .pointer none, .int .i64 0, .pointer none, .int .i64 0, .pointer none, .int .i64 0, .pointer none, .int .i64 0, .int .i64 0] 80)) = w2 at hP2 hO2 ⊢
  have HS2 := hide (HS1.out.kept G hO2.out (fun h => h) (fun _ _ h => h) (fun _ _ h => h) (fun _ _ h => h))
  obtain ⟨g2, hg2, hh2⟩ := HS2.out.own
  have c0 := hg2.c0
  have c1 := hg2.c1
  have c2 := hg2.c2
  have hsl := World.block_lt_of_cell? w1 _ HS1.out.own.choose_spec.1.c0
  simp only at hsl
  have hps : pb ≠ sb := by omega
  have hnf : ¬ footT t pb := fun h => by have := foot_lt HS1.out.ok h; omega
  have hnr : ¬ o.reads pb := fun h => by have := G.lt w1 _ HS1.out.inv h; omega
  have hsn : ¬ (sb = pb ∨ o.foot sb) := fun h => h.elim (fun h => hps h.symm) (fun h => HS1.out.aps (G.sub _ h))
  have hS3 : Hid (St o w2.drew sb (some h') t) := HS2.out.drewN G 1
  have hF3 : Hid (Fits o w2.drew t) := ⟨hS3.out.ok, hS3.out.sor, hS3.out.inv, fun k hk => (hS3.out.ap k hk).2.2, hn⟩
  have hP3 : Hid (Path0 w2.drew pb) := ⟨(World.there_drew _ _ _ _).2 hP2.out.room⟩
  have HPB := hide hpb
  unfold Ords.cmpV at c0
  clear hg2 hh2 hpb
  refine wp_region_noPanic ?_
  refine wp_region_held_drew (S := fun w' => w'.cell? ⟨sb, 0, none⟩ = some (.func (.func o.fc) #[] o.ccaps) ∧ w'.cell? ⟨sb, 1, none⟩ = some o.searchV ∧ w'.cell? ⟨sb, 2, none⟩ = some (.pointer (rootT t))) (by kernel_rfl) ⟨by simpa using c0, by simpa using c1, by simpa using c2⟩ (fun hHeld => ?_)
  refine takeYes 0 (some 19) (.pointer (some ⟨sb, 0, none⟩)) (by kernel_rfl) (by kernel_rfl) (by kernel_rfl) (by kernel_rfl) (fun _ _ _ h => h) (by kernel_rfl) ?_ hHeld ?_
  · intro w' hSw; obtain ⟨y0, y1, y2⟩ := hSw; simp only [List.getElem?_toArray, List.getElem?_cons_zero, List.getElem?_cons_succ, Option.map_some]; go_simp
  simp only [Act.put, List.setIfInBounds_toArray, List.set_cons_zero, List.set_cons_succ]
  refine takeYes 1 (some 20) (.pointer (some ⟨sb, 0, none⟩)) (by kernel_rfl) (by kernel_rfl) (by kernel_rfl) (by kernel_rfl) (fun _ _ _ h => h) (by kernel_rfl) ?_ hHeld ?_
  · intro w' hSw; obtain ⟨y0, y1, y2⟩ := hSw; simp only [List.getElem?_toArray, List.getElem?_cons_zero, List.getElem?_cons_succ, Option.map_some]; go_simp
  simp only [Act.put, List.setIfInBounds_toArray, List.set_cons_zero, List.set_cons_succ]
  refine takeYes 2 (some 21) (.pointer (some ⟨sb, 2, none⟩)) (by kernel_rfl) (by kernel_rfl) (by kernel_rfl) (by kernel_rfl) (fun _ _ _ h => h) (by kernel_rfl) ?_ hHeld ?_
  · intro w' hSw; obtain ⟨y0, y1, y2⟩ := hSw; simp only [List.getElem?_toArray, List.getElem?_cons_zero, List.getElem?_cons_succ, Option.map_some]; go_simp
  simp only [Act.put, List.setIfInBounds_toArray, List.set_cons_zero, List.set_cons_succ]
  refine takeYes 3 (some 22) (.pointer (rootT t)) (by kernel_rfl) (by kernel_rfl) (by kernel_rfl) (by kernel_rfl) (fun _ _ _ h => h) (by kernel_rfl) ?_ hHeld ?_
  · intro w' hSw; obtain ⟨y0, y1, y2⟩ := hSw; simp only [List.getElem?_toArray, List.getElem?_cons_zero, List.getElem?_cons_succ, Option.map_some]; go_simp
  simp only [Act.put, List.setIfInBounds_toArray, List.set_cons_zero, List.set_cons_succ]
  refine takeYes 4 (some 23) (.int .i64 e) (by kernel_rfl) (by kernel_rfl) (by kernel_rfl) (by kernel_rfl) (fun _ _ _ h => h) (by kernel_rfl) ?_ hHeld ?_
  · intro w' hSw; obtain ⟨y0, y1, y2⟩ := hSw; simp only [List.getElem?_toArray, List.getElem?_cons_zero, List.getElem?_cons_succ, Option.map_some]; go_simp
  simp only [Act.put, List.setIfInBounds_toArray, List.set_cons_zero, List.set_cons_succ]
  refine takeYes 5 (some 24) (.pointer (some ⟨sb, 0, none⟩)) (by kernel_rfl) (by kernel_rfl) (by kernel_rfl) (by kernel_rfl) (fun _ _ _ h => h) (by kernel_rfl) ?_ hHeld ?_
  · intro w' hSw; obtain ⟨y0, y1, y2⟩ := hSw; simp only [List.getElem?_toArray, List.getElem?_cons_zero, List.getElem?_cons_succ, Option.map_some]; go_simp
  simp only [Act.put, List.setIfInBounds_toArray, List.set_cons_zero, List.set_cons_succ]
  refine takeYes 6 (some 25) (.pointer (some ⟨sb, 0, none⟩)) (by kernel_rfl) (by kernel_rfl) (by kernel_rfl) (by kernel_rfl) (fun _ _ _ h => h) (by kernel_rfl) ?_ hHeld ?_
  · intro w' hSw; obtain ⟨y0, y1, y2⟩ := hSw; simp only [List.getElem?_toArray, List.getElem?_cons_zero, List.getElem?_cons_succ, Option.map_some]; go_simp
  simp only [Act.put, List.setIfInBounds_toArray, List.set_cons_zero, List.set_cons_succ]
  refine takeYes 7 (some 26) (.pointer (some ⟨sb, 0, none⟩)) (by kernel_rfl) (by kernel_rfl) (by kernel_rfl) (by kernel_rfl) (fun _ _ _ h => h) (by kernel_rfl) ?_ hHeld ?_
  · intro w' hSw; obtain ⟨y0, y1, y2⟩ := hSw; simp only [List.getElem?_toArray, List.getElem?_cons_zero, List.getElem?_cons_succ, Option.map_some]; go_simp
  simp only [Act.put, List.setIfInBounds_toArray, List.set_cons_zero, List.set_cons_succ]
  refine takeYes 8 (some 27) (.pointer (some ⟨sb, 1, none⟩)) (by kernel_rfl) (by kernel_rfl) (by kernel_rfl) (by kernel_rfl) (fun _ _ _ h => h) (by kernel_rfl) ?_ hHeld ?_
  · intro w' hSw; obtain ⟨y0, y1, y2⟩ := hSw; simp only [List.getElem?_toArray, List.getElem?_cons_zero, List.getElem?_cons_succ, Option.map_some]; go_simp
  simp only [Act.put, List.setIfInBounds_toArray, List.set_cons_zero, List.set_cons_succ]
  refine takeYes 9 (some 28) o.searchV (by kernel_rfl) (by kernel_rfl) (by kernel_rfl) (by kernel_rfl) (fun _ _ _ h => h) (by kernel_rfl) ?_ hHeld ?_
  · intro w' hSw; obtain ⟨y0, y1, y2⟩ := hSw; simp only [List.getElem?_toArray, List.getElem?_cons_zero, List.getElem?_cons_succ, Option.map_some]; go_simp
  simp only [Act.put, List.setIfInBounds_toArray, List.set_cons_zero, List.set_cons_succ]
  refine wpAnyH_ready (rs := [10]) (by kernel_rfl) (by simp) ?_
  refine AllReadyH.cons rfl (fun K hK => ?_) AllReadyH.nil
  have HK := hide hK
  clear hK
  go_simp
  clear hHeld
  refine (seekT_no o G pb t e w2.drew hP3.out hF3.out hnf hnr hx).mono ?_
  rintro r w3 ⟨rfl, hN, hW⟩
  have HN := hide hN
  have HW := hide hW
  clear hN hW
  refine HK.out _ _ ⟨HW.out.only.cell (by simpa using c0) hsn, HW.out.only.cell (by simpa using c1) hsn, HW.out.only.cell (by simpa using c2) hsn⟩ (fun hHeld => ?_)
  clear HK K
  have c03 : w3.cell? ⟨sb, 0, none⟩ = some (.func (.func o.fc) #[] o.ccaps) := hHeld.1
  have c13 : w3.cell? ⟨sb, 1, none⟩ = some o.searchV := hHeld.2.1
  have c23 : w3.cell? ⟨sb, 2, none⟩ = some (.pointer (rootT t)) := hHeld.2.2
  clear c0 c1 c2
  refine takeYes 11 (some 30) (.bool false) (by kernel_rfl) (by kernel_rfl) (by kernel_rfl) (by kernel_rfl) (fun _ _ _ h => h) (by kernel_rfl) ?_ hHeld ?_
  · intro w' hSw; obtain ⟨y0, y1, y2⟩ := hSw; simp only [List.getElem?_toArray, List.getElem?_cons_zero, List.getElem?_cons_succ, Option.map_some]; go_simp
  simp only [Act.put, List.setIfInBounds_toArray, List.set_cons_zero, List.set_cons_succ]
  refine takeYes 12 (some 31) (.pointer (some ⟨sb, 0, none⟩)) (by kernel_rfl) (by kernel_rfl) (by kernel_rfl) (by kernel_rfl) (fun _ _ _ h => h) (by kernel_rfl) ?_ hHeld ?_
  · intro w' hSw; obtain ⟨y0, y1, y2⟩ := hSw; simp only [List.getElem?_toArray, List.getElem?_cons_zero, List.getElem?_cons_succ, Option.map_some]; go_simp
  simp only [Act.put, List.setIfInBounds_toArray, List.set_cons_zero, List.set_cons_succ]
  refine takeYes 13 (some 32) (.pointer (some ⟨sb, 0, none⟩)) (by kernel_rfl) (by kernel_rfl) (by kernel_rfl) (by kernel_rfl) (fun _ _ _ h => h) (by kernel_rfl) ?_ hHeld ?_
  · intro w' hSw; obtain ⟨y0, y1, y2⟩ := hSw; simp only [List.getElem?_toArray, List.getElem?_cons_zero, List.getElem?_cons_succ, Option.map_some]; go_simp
  simp only [Act.put, List.setIfInBounds_toArray, List.set_cons_zero, List.set_cons_succ]
  refine takeYes 14 (some 33) (.pointer (some ⟨sb, 0, none⟩)) (by kernel_rfl) (by kernel_rfl) (by kernel_rfl) (by kernel_rfl) (fun _ _ _ h => h) (by kernel_rfl) ?_ hHeld ?_
  · intro w' hSw; obtain ⟨y0, y1, y2⟩ := hSw; simp only [List.getElem?_toArray, List.getElem?_cons_zero, List.getElem?_cons_succ, Option.map_some]; go_simp
  simp only [Act.put, List.setIfInBounds_toArray, List.set_cons_zero, List.set_cons_succ]
  refine takeYes 15 (some 34) (.pointer (some ⟨sb, 0, none⟩)) (by kernel_rfl) (by kernel_rfl) (by kernel_rfl) (by kernel_rfl) (fun _ _ _ h => h) (by kernel_rfl) ?_ hHeld ?_
  · intro w' hSw; obtain ⟨y0, y1, y2⟩ := hSw; simp only [List.getElem?_toArray, List.getElem?_cons_zero, List.getElem?_cons_succ, Option.map_some]; go_simp
  simp only [Act.put, List.setIfInBounds_toArray, List.set_cons_zero, List.set_cons_succ]
  refine takeYes 16 (some 35) (.func (.func o.fc) #[] o.ccaps) (by kernel_rfl) (by kernel_rfl) (by kernel_rfl) (by kernel_rfl) (fun _ _ _ h => h) (by kernel_rfl) ?_ hHeld ?_
  · intro w' hSw; obtain ⟨y0, y1, y2⟩ := hSw; simp only [List.getElem?_toArray, List.getElem?_cons_zero, List.getElem?_cons_succ, Option.map_some]; go_simp
  simp only [Act.put, List.setIfInBounds_toArray, List.set_cons_zero, List.set_cons_succ]
  refine takeYes 17 (some 36) (.int .i64 e) (by kernel_rfl) (by kernel_rfl) (by kernel_rfl) (by kernel_rfl) (fun _ _ _ h => h) (by kernel_rfl) ?_ hHeld ?_
  · intro w' hSw; obtain ⟨y0, y1, y2⟩ := hSw; simp only [List.getElem?_toArray, List.getElem?_cons_zero, List.getElem?_cons_succ, Option.map_some]; go_simp
  simp only [Act.put, List.setIfInBounds_toArray, List.set_cons_zero, List.set_cons_succ]
  refine takeYes 18 (some 37) (.int .i64 e) (by kernel_rfl) (by kernel_rfl) (by kernel_rfl) (by kernel_rfl) (fun _ _ _ h => h) (by kernel_rfl) ?_ hHeld ?_
  · intro w' hSw; obtain ⟨y0, y1, y2⟩ := hSw; simp only [List.getElem?_toArray, List.getElem?_cons_zero, List.getElem?_cons_succ, Option.map_some]; go_simp
  simp only [Act.put, List.setIfInBounds_toArray, List.set_cons_zero, List.set_cons_succ]
  refine wpAnyH_ready (rs := [19]) (by kernel_rfl) (by simp) ?_
  refine AllReadyH.cons rfl (fun K hK => ?_) AllReadyH.nil
  have HK := hide hK
  clear hK hHeld
  have hec := G.enterC
  go_simp
  refine (G.cmp e e w3 HW.out.inv).mono ?_
  rintro r w4 ⟨⟨c, rfl, hc1, hc2⟩, hI4, hO4⟩
  obtain rfl : c = 0 := hc2.2 rfl
  have HO4 := hide hO4
  have HI4 := hide hI4
  clear hc1 hc2 hO4 hI4
  have hsf : ¬ o.foot sb := fun h => hsn (.inr h)
  refine HK.out _ _ ⟨HO4.out.cell c03 hsf, HO4.out.cell c13 hsf, HO4.out.cell c23 hsf⟩ (fun hHeld => ?_)
  clear HK K
  refine takeYes 20 (some 39) (.bool false) (by kernel_rfl) (by kernel_rfl) (by kernel_rfl) (by kernel_rfl) (fun _ _ _ h => h) (by kernel_rfl) ?_ hHeld ?_
  · intro w' hSw; obtain ⟨y0, y1, y2⟩ := hSw; simp only [List.getElem?_toArray, List.getElem?_cons_zero, List.getElem?_cons_succ, Option.map_some]; go_simp
  simp only [Act.put, List.setIfInBounds_toArray, List.set_cons_zero, List.set_cons_succ]
  refine takeYes 21 (some 40) (.bool false) (by kernel_rfl) (by kernel_rfl) (by kernel_rfl) (by kernel_rfl) (fun _ _ _ h => h) (by kernel_rfl) ?_ hHeld ?_
  · intro w' hSw; obtain ⟨y0, y1, y2⟩ := hSw; simp only [List.getElem?_toArray, List.getElem?_cons_zero, List.getElem?_cons_succ, Option.map_some]; go_simp
  simp only [Act.put, List.setIfInBounds_toArray, List.set_cons_zero, List.set_cons_succ]
  refine wpAnyH_done (by kernel_rfl) ?_ _
  refine NoPanic.normal ?_
  clear hHeld c03 c13 c23
  have hh2 : h' < w1.heap.size := by
    obtain ⟨g1, _, hh1⟩ := HS1.out.own
    exact World.block_lt_of_cell? w1 _ (hh1 h' rfl).c0
  have hpf : ¬ o.foot pb := fun h => hnr (G.sub _ h)
  have HP4 : Hid (Path0 w4 pb) := ⟨HO4.out.there HW.out.path.room hpf⟩
  have HW4 : Hid (SeekW o pb w2.drew w4) := ⟨HI4.out, HP4.out, HW.out.only.trans HO4.out (fun i h => .inl (.inr h))⟩
  have HS4 : Hid (St o w4 sb (some h') t) := hS3.out.kept2 G HW4.out hsn (fun k hk => by cases hk; have := HPB.out; omega) hnf
  have HN4 : Hid (SeekNo o.lt pb e w4 t) := HN.out.kept HO4.out hpf
  have HO14 : Hid (Only (setFoot o sb hb t) w w4) := by
    have HO2 : Only (fun k => k = sb) w w2.drew := ((HO1.out.trans hO2.out (fun i h => False.elim h)).drew)
    refine (HO2.mono (fun k _ h => (.inl h : setFoot o sb hb t k))).trans HW4.out.only (fun i h => ?_)
    rcases h with h | h
    · right; have := HPB.out; have := HO1.out.size; omega
    · exact .inl (.inr (.inr (.inr h)))
  have hne : h' ≠ sb := (HS4.out.aph h' rfl).1
  have HO1s := hide HO1.out.size
  clear HN HW HO4 HI4 HP4 hS3 hF3 hP3 HS2 hO2 hP2 HS1 HO1
  have HS5 : Hid (St o w4.drew sb (some h') t) := HS4.out.drewN G 1
  have HF5 : Hid (Fits o w4.drew t) := ⟨HS5.out.ok, HS5.out.sor, HS5.out.inv, fun k hk => (HS5.out.ap k hk).2.2, hn⟩
  have HN5 : Hid (SeekNo o.lt pb e w4.drew t) := HN4.out.kept ((Only.refl (fun _ => False) w4).drew) (fun h => h)
  obtain ⟨g5, hg5, hh5⟩ := HS5.out.own
  have c3 : w4.cell? ⟨sb, 3, none⟩ = some (.int .i64 (flatT t).length) := by simpa using hg5.c3
  have HG5 := hide hg5
  have HH5 := hide (hh5 h' rfl)
  clear hg5 hh5
  have hsum : IntKind.i64.wrap (((flatT t).length : Int) + 1) = ((flatT t).length : Int) + 1 := by simp only [IntKind.wrap_i64]; omega
  have hsfoot : ¬ footT t sb := fun h => (HS4.out.ap sb h).1 rfl
  go_wp2
  go_region_with (first
    | (go_at_call 39; refine (insertT o G pb t e w4.drew HF5.out HN5.out hnf).mono ?_; rintro r w6 ⟨t', rfl, hI⟩; have c36 : w6.cell? ⟨sb, 3, none⟩ = some (.int .i64 (flatT t).length) := hI.only.cell (by simpa using c3) hsfoot; have HI := hide hI; clear hI)
    | (go_at_call 38; refine (changed_any sb h' o.cmpV o.searchV (rootT t) (rootT t') ((flatT t).length : Int) _ g5 g5 w6 (HG5.out.kept HI.out.only hsfoot) (HH5.out.kept HI.out.only (fun h => (HS4.out.ap h' h).2.1 rfl)) hne).mono ?_; rintro r w7 ⟨rfl, g7, h7, k7, o7⟩; have H7 := hide h7; have K7 := hide k7; have O7 := hide o7; clear h7 k7 o7))
  all_goals (go_wp2; go_ret; exact ⟨rfl, h', t', add_end G HS5.out HO14.out.drew HH1.out trivial HO14.out.size HI.out H7.out K7.out O7.out⟩)

/-- Add, whatever is held. -/
theorem add_any (o : Ords) (G : o.Good) (sb : Nat) (hb : Option Nat) (t : Tree) (e : Int) (w : World) (hS : St o w sb hb t) (hn : (flatT t).length ≤ 5000) :
    Calls Yba.prog 17 #[.pointer (some ⟨sb, 0, none⟩), .int .i64 e] w fun r w' => (∃ v, r = .returned v) ∧ ∃ h' t', St o w' sb (some h') t' ∧ AddW o sb hb t e w w' h' t' := by
  by_cases hx : e ∈ flatT t
  · refine (add_yes o G sb hb t e w hS hx hn).mono ?_
    rintro r w' ⟨rfl, h', hS', hO, hh⟩
    exact ⟨⟨_, rfl⟩, h', t, hS', ⟨fun y => ⟨fun h => .inr h, fun h => h.elim (fun h => h ▸ hx) id⟩, by omega, hO, hh, fun k h => .inl h⟩⟩
  · refine (add_no o G sb hb t e w hS hx hn).mono ?_
    rintro r w' ⟨rfl, h', t', hS', hA⟩
    exact ⟨⟨_, rfl⟩, h', t', hS', hA⟩
end Go.Proofs.Ybulkcgwo.T
