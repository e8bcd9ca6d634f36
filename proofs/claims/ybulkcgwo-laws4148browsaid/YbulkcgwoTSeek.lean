import Derived.Test.YbulkcgwoTSet
import Derived.Test.YbulkcgwoTPure
namespace Go.Proofs.Ybulkcgwo.T
open Go.RowKit
set_option linter.unusedVariables false

/-- How a set is ordered, and by which function values. -/
structure Ords where
  lt : Int → Int → Prop
  fc : Nat
  ccaps : Array Value
  fs : Nat
  caps : Array Value
  inv : World → Prop
  foot : Nat → Prop
  reads : Nat → Prop
def Ords.searchV (o : Ords) : Value := .func (.func o.fs) #[] o.caps
def Ords.cmpV (o : Ords) : Value := .func (.func o.fc) #[] o.ccaps
/-- How a comparison ends. -/
def Sign (lt : Int → Int → Prop) (x y : Int) (e : Ending) : Prop := ∃ c : Int, e = .returned (.int .i64 c) ∧ (c < 0 ↔ lt x y) ∧ (c = 0 ↔ x = y)

structure Ords.Good (o : Ords) : Prop where
  W : Whole o.lt
  enterS : ∀ (args : Array Value) (w : World), (callFunc o.fs args).run Yba.prog w = .ok (.enter o.fs args) w
  enterC : ∀ (args : Array Value) (w : World), (callFunc o.fc args).run Yba.prog w = .ok (.enter o.fc args) w
  search : ∀ (eb eo cap : Nat) (xs : List Int) (x : Int) (w : World), Sor o.lt xs → w.rangeAt eb eo (ints xs) → xs.length ≤ 100000 → o.inv w → ¬ o.reads eb →
    Calls Yba.prog o.fs (#[.slice (some ⟨eb, eo, none⟩) xs.length cap, .int .i64 x] ++ o.caps) w fun e w' => Answer o.lt xs x e ∧ o.inv w' ∧ Only o.foot w w'
  cmp : ∀ (x y : Int) (w : World), o.inv w → Calls Yba.prog o.fc (#[.int .i64 x, .int .i64 y] ++ o.ccaps) w fun e w' => Sign o.lt x y e ∧ o.inv w' ∧ Only o.foot w w'
  kept : ∀ (F : Nat → Prop) (w w' : World), o.inv w → Only F w w' → (∀ k, o.reads k → ¬ F k) → o.inv w'
  sub : ∀ k, o.foot k → o.reads k
  lt : ∀ (w : World) (k : Nat), o.inv w → o.reads k → k < w.heap.size

/-- The depth of a path. -/
structure Path0 (w : World) (pb : Nat) : Prop where
  room : w.there pb 0 23

theorem Path0.cell {w : World} {pb : Nat} (h : Path0 w pb) (j : Nat) (hj : j < 23) : ∃ u, w.cell? ⟨pb, j, none⟩ = some u ∧ w.frozen? ⟨pb, j, none⟩ = false := by
  obtain ⟨h1, h2⟩ := h.room j hj
  rw [Nat.zero_add] at h1 h2
  obtain ⟨u, hu⟩ := Option.isSome_iff_exists.1 h1
  exact ⟨u, hu, h2⟩

theorem seek_nil (pb : Nat) (x : Int) (sv : Value) (w : World) (hP : Path0 w pb) :
    Calls Yba.prog 37 #[.pointer (some ⟨pb, 0, none⟩), .pointer none, .int .i64 x, sv] w fun r w' => r = .returned (.bool false) ∧ w'.cell? ⟨pb, 22, none⟩ = some (.int .i64 0) ∧ Only (fun k => k = pb) w w' ∧ Path0 w' pb := by
  obtain ⟨u, hu, hf⟩ := hP.cell 22 (by omega)
  have HP := hide hP
  clear hP
  go_enter Yba.func37, Yba.ntmps37
  go_wp2
  refine wp_loop_rounds 1 ?_
  rw [rounds_succ]
  go_wp2
  go_ret
  exact ⟨rfl, World.cell?_setCell_same _ _ _ hu, (Only.refl (fun k => k = pb) _).setCell (.inl rfl) _, ⟨World.there_setCells HP.out.room pb 22 [_]⟩⟩

/-- A path whose frames are known. -/
structure Path1 (w : World) (pb b i : Nat) : Prop where
  n : w.cell? ⟨pb, 0, none⟩ = some (.pointer (some ⟨b, 0, none⟩))
  i : w.cell? ⟨pb, 1, none⟩ = some (.int .i64 i)

/-- The first frame stored. -/
def Fr (w2 : World) (pb : Nat) (v u : Value) (w3 : World) : Prop :=
  w3.cell? ⟨pb, 0, none⟩ = some v ∧ w3.cell? ⟨pb, 1, none⟩ = some u ∧ True ∧ Path0 w3 pb ∧ Only (fun k => k = pb) w2 w3 ∧ ∀ j, j ≠ 0 → j ≠ 1 → w3.cell? ⟨pb, j, none⟩ = w2.cell? ⟨pb, j, none⟩
theorem fr_mk {w2 : World} {pb : Nat} {v u u0 u1 : Value} (hP : Path0 w2 pb) (h0 : w2.cell? ⟨pb, 0, none⟩ = some u0) (h1 : w2.cell? ⟨pb, 1, none⟩ = some u1) : Fr w2 pb v u ((w2.setCell ⟨pb, 0, none⟩ v).setCell ⟨pb, 1, none⟩ u).drew := by
  have e1 : (w2.setCell ⟨pb, 0, none⟩ v).cell? ⟨pb, 1, none⟩ = some u1 := by rw [World.cell?_setCell_other _ _ _ _ (by simp)]; exact h1
  refine ⟨?_, ?_, trivial, ⟨(World.there_drew _ _ _ _).2 (World.there_setCells (World.there_setCells hP.room pb 0 [_]) pb 1 [_])⟩, (((Only.refl (fun k => k = pb) _).setCell (.inl rfl) _).setCell (.inl rfl) _).drew, fun j h0 h1 => ?_⟩
  · rw [World.cell?_drew, World.cell?_setCell_other _ _ _ _ (by simp)]; exact World.cell?_setCell_same _ _ _ h0
  · rw [World.cell?_drew]; exact World.cell?_setCell_same _ _ _ e1
  · rw [World.cell?_drew, World.cell?_setCell_other _ _ _ _ (fun e => h1 (by injection e with _ e2 _; exact e2.symm)), World.cell?_setCell_other _ _ _ _ (fun e => h0 (by injection e with _ e2 _; exact e2.symm))]

def LeafSeek (o : Ords) (pb : Nat) (d : Nd) (x : Int) (w : World) (r : Ending) (w' : World) : Prop :=
  ∃ (i : Nat) (f : Bool), r = .returned (.bool f) ∧ Found o.lt d.xs x i f ∧ Path1 w' pb d.b i ∧ w'.cell? ⟨pb, 22, none⟩ = some (.int .i64 1) ∧ Path0 w' pb ∧ o.inv w' ∧ Only (fun k => k = pb ∨ o.foot k) w w'

set_option maxHeartbeats 1000000 in
set_option maxRecDepth 100000 in
theorem seek_leaf (o : Ords) (G : o.Good) (pb : Nat) (d : Nd) (x : Int) (w : World) (hP : Path0 w pb) (hE : EOK w d) (h0 : w.cell? ⟨d.b, 0, none⟩ = some (.pointer none)) (hs : Sor o.lt d.xs) (hl : d.xs.length ≤ 1000) (hi : o.inv w) (hr : ¬ o.reads d.eb) (hr2 : ¬ o.reads d.b) (hp1 : pb ≠ d.b) (hp2 : pb ≠ d.eb) (hp3 : ¬ o.reads pb) :
    Calls Yba.prog 37 #[.pointer (some ⟨pb, 0, none⟩), .pointer (some ⟨d.b, 0, none⟩), .int .i64 x, o.searchV] w fun r w' => LeafSeek o pb d x w r w' := by
  obtain ⟨b, eb, eo, cap, xs⟩ := d
  obtain ⟨u, hu, hf⟩ := hP.cell 22 (by omega)
  have c1 := hE.cell
  have HE := hide hE
  have HP := hide hP
  clear hE hP
  simp only at c1 h0 hs hl hr hr2 hp1 hp2 ⊢
  unfold Ords.searchV
  have hen := G.enterS
  have HG := hide G
  have HS := hide hs
  clear G hs
  go_enter Yba.func37, Yba.ntmps37
  go_wp2
  refine wp_loop_rounds 1 ?_
  rw [rounds_succ]
  have hO1 : Hid (Only (fun k => k = pb) w (w.setCell ⟨pb, 22, none⟩ (.int .i64 0))) := (Only.refl (fun k => k = pb) _).setCell (.inl rfl) _
  have p22 := World.cell?_setCell_same w ⟨pb, 22, none⟩ (.int .i64 0) hu
  have HP1 : Hid (Path0 (w.setCell ⟨pb, 22, none⟩ (.int .i64 0)) pb) := ⟨World.there_setCells HP.out.room pb 22 [_]⟩
  generalize w.setCell ⟨pb, 22, none⟩ (.int .i64 0) = w1 at hO1 p22 HP1 ⊢
  have c1' := hO1.out.cell c1 (fun h => hp1 h.symm)
  have h0' := hO1.out.cell h0 (fun h => hp1 h.symm)
  have HE1 := hide (HE.out.kept hO1.out (fun h => hp1 h.symm) (fun h => hp2 h.symm))
  have HI1 := hide (HG.out.kept _ _ _ hi hO1.out (fun k hk h => hp3 (h ▸ hk)))
  clear hu hf c1 h0 hi
  go_wp2_with fail
  refine (HG.out.search eb eo cap xs x w1 HS.out HE1.out.row (by omega) HI1.out hr).mono ?_
  rintro e w2 ⟨⟨i, f, rfl, hF⟩, hI2, hO2⟩
  have hnp : ¬ o.foot pb := fun h => hp3 (HG.out.sub _ h)
  have q22 := hO2.cell p22 hnp
  have HP2 : Hid (Path0 w2 pb) := ⟨hO2.there HP1.out.room hnp⟩
  have h0'' := hO2.cell h0' (fun h => hr2 (HG.out.sub _ h))
  obtain ⟨u0, hu0, hf0⟩ := HP2.out.cell 0 (by omega)
  obtain ⟨u1, hu1, hf1⟩ := HP2.out.cell 1 (by omega)
  obtain ⟨u22, hu22, hf22⟩ := HP2.out.cell 22 (by omega)
  have HO2 := hide ((hO1.out.mono (G := fun k => k = pb ∨ o.foot k) (fun k _ h => .inl h)).trans hO2 (fun k h => .inl (.inr h)))
  have HI2 := hide hI2
  have HF := hide hF
  clear hO2 hI2 hF p22 c1' h0' hu22 u22
  go_wp2
  go_region_held3 (fun w' => w'.cell? ⟨pb, 22, none⟩ = some (.int .i64 0)) (first | (go_simp; done) | go_keep) (fail)
  have H3 : Hid (Fr w2 pb (.pointer (some ⟨b, 0, none⟩)) (.int .i64 i) ((w2.setCell ⟨pb, 0, none⟩ (.pointer (some ⟨b, 0, none⟩))).setCell ⟨pb, 1, none⟩ (.int .i64 i)).drew) := fr_mk HP2.out hu0 hu1
  generalize ((w2.setCell ⟨pb, 0, none⟩ (.pointer (some ⟨b, 0, none⟩))).setCell ⟨pb, 1, none⟩ (.int .i64 i)).drew = w3 at H3 ⊢
  obtain ⟨r0, r1, -, rP, rO, rk⟩ := H3.out
  have r22 := (rk 22 (by omega) (by omega)).trans q22
  obtain ⟨v22, hv22, hg22⟩ := rP.cell 22 (by omega)
  have s0 := rO.cell h0'' (fun h => hp1 h.symm)
  have HRP := hide rP
  have HRO := hide rO
  clear rP rO rk hv22 v22 hu0 hf0 hu1 hf1 q22 hf22 h0''
  have fin : ∀ ff : Bool, ff = f → LeafSeek o pb ⟨b, eb, eo, cap, xs⟩ x w (.returned (.bool ff)) (w3.setCell ⟨pb, 22, none⟩ (.int .i64 1)) := by
    rintro ff rfl
    refine ⟨i, ff, rfl, HF.out, ⟨?_, ?_⟩, World.cell?_setCell_same _ _ _ r22, ⟨World.there_setCells HRP.out.room pb 22 [_]⟩, ?_, ?_⟩
    · rw [World.cell?_setCell_other _ _ _ _ (by simp)]; exact r0
    · rw [World.cell?_setCell_other _ _ _ _ (by simp)]; exact r1
    · exact HG.out.kept _ _ _ HI2.out (HRO.out.setCell (.inl rfl) _) (fun k hk h => hp3 (h ▸ hk))
    · exact HO2.out.trans (HRO.out.setCell (p := ⟨pb, 22, none⟩) (.inl rfl) _) (fun k h => .inl (.inl h))
  have FIN := hide fin
  clear fin
  cases f
  · go_wp2
    go_ret
    exact FIN.out false rfl
  · go_wp2
    go_ret
    exact FIN.out true rfl

/-- The second frame stored. -/
def Fr2 (w2 : World) (pb : Nat) (v u : Value) (w3 : World) : Prop :=
  w3.cell? ⟨pb, 2, none⟩ = some v ∧ w3.cell? ⟨pb, 3, none⟩ = some u ∧ Path0 w3 pb ∧ Only (fun k => k = pb) w2 w3 ∧ ∀ j, j ≠ 2 → j ≠ 3 → w3.cell? ⟨pb, j, none⟩ = w2.cell? ⟨pb, j, none⟩
theorem fr2_mk {w2 : World} {pb : Nat} {v u u0 u1 : Value} (hP : Path0 w2 pb) (h0 : w2.cell? ⟨pb, 2, none⟩ = some u0) (h1 : w2.cell? ⟨pb, 3, none⟩ = some u1) : Fr2 w2 pb v u ((w2.setCell ⟨pb, 2, none⟩ v).setCell ⟨pb, 3, none⟩ u).drew := by
  have e1 : (w2.setCell ⟨pb, 2, none⟩ v).cell? ⟨pb, 3, none⟩ = some u1 := by rw [World.cell?_setCell_other _ _ _ _ (by simp)]; exact h1
  refine ⟨?_, ?_, ⟨(World.there_drew _ _ _ _).2 (World.there_setCells (World.there_setCells hP.room pb 2 [_]) pb 3 [_])⟩, (((Only.refl (fun k => k = pb) _).setCell (.inl rfl) _).setCell (.inl rfl) _).drew, fun j h0 h1 => ?_⟩
  · rw [World.cell?_drew, World.cell?_setCell_other _ _ _ _ (by simp)]; exact World.cell?_setCell_same _ _ _ h0
  · rw [World.cell?_drew]; exact World.cell?_setCell_same _ _ _ e1
  · rw [World.cell?_drew, World.cell?_setCell_other _ _ _ _ (fun e => h1 (by injection e with _ e2 _; exact e2.symm)), World.cell?_setCell_other _ _ _ _ (fun e => h0 (by injection e with _ e2 _; exact e2.symm))]

/-- A tree of two levels. -/
structure Two (w : World) (d : Nd) (kb : Nat) (L : List Nd) : Prop where
  E : EOK w d
  K : KOK w d.b kb (L.map Nd.b)
  len : L.length = d.xs.length + 1
  leaf : ∀ n ∈ L, EOK w n ∧ w.cell? ⟨n.b, 0, none⟩ = some (.pointer none)
  kb1 : kb ≠ d.b
  kb2 : kb ≠ d.eb
  sep : ∀ n ∈ L, n.b ≠ d.b ∧ n.b ≠ d.eb ∧ n.b ≠ kb ∧ n.eb ≠ d.b ∧ n.eb ≠ d.eb ∧ n.eb ≠ kb
  dis : L.Pairwise (fun m n => m.b ≠ n.b ∧ m.b ≠ n.eb ∧ m.eb ≠ n.b ∧ m.eb ≠ n.eb)
/-- Its blocks. -/
def twoFoot (d : Nd) (kb : Nat) (L : List Nd) (k : Nat) : Prop := k = d.b ∨ k = d.eb ∨ k = kb ∨ ∃ n ∈ L, k = n.b ∨ k = n.eb
theorem Two.kept {w w' : World} {d : Nd} {kb : Nat} {L : List Nd} (h : Two w d kb L) {F : Nat → Prop} (hO : Only F w w') (hF : ∀ k, twoFoot d kb L k → ¬ F k) : Two w' d kb L :=
  ⟨h.E.kept hO (hF _ (.inl rfl)) (hF _ (.inr (.inl rfl))), h.K.kept hO (hF _ (.inl rfl)) (hF _ (.inr (.inr (.inl rfl)))), h.len,
    fun n hn => ⟨(h.leaf n hn).1.kept hO (hF _ (.inr (.inr (.inr ⟨n, hn, .inl rfl⟩)))) (hF _ (.inr (.inr (.inr ⟨n, hn, .inr rfl⟩)))), hO.cell (h.leaf n hn).2 (hF _ (.inr (.inr (.inr ⟨n, hn, .inl rfl⟩))))⟩, h.kb1, h.kb2, h.sep, h.dis⟩

def TwoSeek (o : Ords) (pb : Nat) (d : Nd) (L : List Nd) (x : Int) (w : World) (r : Ending) (w' : World) : Prop :=
  ∃ (i : Nat) (f0 : Bool), Found o.lt d.xs x i f0 ∧ Path1 w' pb d.b i ∧ Path0 w' pb ∧ o.inv w' ∧ Only (fun k => k = pb ∨ o.foot k) w w' ∧
    ((f0 = true ∧ r = .returned (.bool true) ∧ w'.cell? ⟨pb, 22, none⟩ = some (.int .i64 1)) ∨
     (f0 = false ∧ ∃ (n : Nd) (j : Nat) (f : Bool), L[i]? = some n ∧ r = .returned (.bool f) ∧ Found o.lt n.xs x j f ∧ w'.cell? ⟨pb, 2, none⟩ = some (.pointer (some ⟨n.b, 0, none⟩)) ∧ w'.cell? ⟨pb, 3, none⟩ = some (.int .i64 j) ∧ w'.cell? ⟨pb, 22, none⟩ = some (.int .i64 2)))

set_option maxHeartbeats 2000000 in
set_option maxRecDepth 100000 in
theorem seek_two (o : Ords) (G : o.Good) (pb : Nat) (d : Nd) (kb : Nat) (L : List Nd) (x : Int) (w : World) (hP : Path0 w pb) (hT : Two w d kb L) (hs : Sor o.lt d.xs) (hsL : ∀ n ∈ L, Sor o.lt n.xs ∧ n.xs.length ≤ 1000) (hl : d.xs.length ≤ 126) (hi : o.inv w) (hr : ∀ k, twoFoot d kb L k → ¬ o.reads k) (hp : ¬ twoFoot d kb L pb) (hp3 : ¬ o.reads pb) :
    Calls Yba.prog 37 #[.pointer (some ⟨pb, 0, none⟩), .pointer (some ⟨d.b, 0, none⟩), .int .i64 x, o.searchV] w fun r w' => TwoSeek o pb d L x w r w' := by
  obtain ⟨u, hu, hf⟩ := hP.cell 22 (by omega)
  have HT := hide hT
  have HP := hide hP
  have HR := hide hr
  have HPP := hide hp
  have HSL := hide hsL
  obtain ⟨b, eb, eo, cap, xs⟩ := d
  have hp1 : pb ≠ b := fun h => hp (.inl h)
  clear hP hT hr hp hsL
  simp only at hs hl ⊢
  unfold Ords.searchV
  have hen := G.enterS
  have HG := hide G
  have HS := hide hs
  clear G hs
  go_enter Yba.func37, Yba.ntmps37
  go_wp2
  refine wp_loop_rounds 2 ?_
  rw [rounds_succ]
  have hO1 : Hid (Only (fun k => k = pb) w (w.setCell ⟨pb, 22, none⟩ (.int .i64 0))) := (Only.refl (fun k => k = pb) _).setCell (.inl rfl) _
  have p22 := World.cell?_setCell_same w ⟨pb, 22, none⟩ (.int .i64 0) hu
  have HP1 : Hid (Path0 (w.setCell ⟨pb, 22, none⟩ (.int .i64 0)) pb) := ⟨World.there_setCells HP.out.room pb 22 [_]⟩
  generalize w.setCell ⟨pb, 22, none⟩ (.int .i64 0) = w1 at hO1 p22 HP1 ⊢
  have HT1 := hide (HT.out.kept hO1.out (fun k hk h => HPP.out (h ▸ hk)))
  have c1' := HT1.out.E.cell
  have HI1 := hide (HG.out.kept _ _ _ hi hO1.out (fun k hk h => hp3 (h ▸ hk)))
  clear hu hf hi
  simp only at c1'
  go_wp2_with fail
  refine (HG.out.search eb eo cap xs x w1 HS.out HT1.out.E.row (by omega) HI1.out (HR.out _ (.inr (.inl rfl)))).mono ?_
  rintro e w2 ⟨⟨i, f, rfl, hF⟩, hI2, hO2⟩
  have hnp : ¬ o.foot pb := fun h => hp3 (HG.out.sub _ h)
  have q22 := hO2.cell p22 hnp
  have HP2 : Hid (Path0 w2 pb) := ⟨hO2.there HP1.out.room hnp⟩
  have HT2 := hide (HT1.out.kept hO2 (fun k hk h => HR.out k hk (HG.out.sub _ h)))
  have h0'' := HT2.out.K.cell
  obtain ⟨u0, hu0, hf0⟩ := HP2.out.cell 0 (by omega)
  obtain ⟨u1, hu1, hf1⟩ := HP2.out.cell 1 (by omega)
  obtain ⟨u22, hu22, hf22⟩ := HP2.out.cell 22 (by omega)
  have HO2 := hide ((hO1.out.mono (G := fun k => k = pb ∨ o.foot k) (fun k _ h => .inl h)).trans hO2 (fun k h => .inl (.inr h)))
  have HI2 := hide hI2
  have HF := hide hF
  clear hO2 hI2 hF p22 c1' hu22 u22
  simp only at h0''
  go_wp2
  go_region_held3 (fun w' => w'.cell? ⟨pb, 22, none⟩ = some (.int .i64 0)) (first | (go_simp; done) | go_keep) (fail)
  have H3 : Hid (Fr w2 pb (.pointer (some ⟨b, 0, none⟩)) (.int .i64 i) ((w2.setCell ⟨pb, 0, none⟩ (.pointer (some ⟨b, 0, none⟩))).setCell ⟨pb, 1, none⟩ (.int .i64 i)).drew) := fr_mk HP2.out hu0 hu1
  generalize ((w2.setCell ⟨pb, 0, none⟩ (.pointer (some ⟨b, 0, none⟩))).setCell ⟨pb, 1, none⟩ (.int .i64 i)).drew = w3 at H3 ⊢
  obtain ⟨r0, r1, -, rP, rO, rk⟩ := H3.out
  have r22 := (rk 22 (by omega) (by omega)).trans q22
  obtain ⟨v22, hv22, hg22⟩ := rP.cell 22 (by omega)
  have s0 := rO.cell h0'' (fun h => hp1 h.symm)
  have HRP := hide rP
  have HRO := hide rO
  clear rP rO rk hv22 v22 hu0 hf0 hu1 hf1 q22 hf22 h0''
  have hO4 : Hid (Only (fun k => k = pb ∨ o.foot k) w (w3.setCell ⟨pb, 22, none⟩ (.int .i64 1))) := HO2.out.trans (HRO.out.setCell (p := ⟨pb, 22, none⟩) (.inl rfl) _) (fun k h => .inl (.inl h))
  have hI4 : Hid (o.inv (w3.setCell ⟨pb, 22, none⟩ (.int .i64 1))) := HG.out.kept _ _ _ HI2.out (HRO.out.setCell (.inl rfl) _) (fun k hk h => hp3 (h ▸ hk))
  have hP4 : Hid (Path0 (w3.setCell ⟨pb, 22, none⟩ (.int .i64 1)) pb) := ⟨World.there_setCells HRP.out.room pb 22 [_]⟩
  have hQ4 : Hid (Path1 (w3.setCell ⟨pb, 22, none⟩ (.int .i64 1)) pb b i) := ⟨by rw [World.cell?_setCell_other _ _ _ _ (by simp)]; exact r0, by rw [World.cell?_setCell_other _ _ _ _ (by simp)]; exact r1⟩
  have hT4 := hide (HT2.out.kept (HRO.out.setCell (p := ⟨pb, 22, none⟩) (.inl rfl) (.int .i64 1)) (fun k hk h => HPP.out (h ▸ hk)))
  have t22 := World.cell?_setCell_same w3 ⟨pb, 22, none⟩ (.int .i64 1) r22
  have t0 := hT4.out.K.cell
  simp only at t0
  cases f
  · have hil : i < L.length := by have h1 : L.length = xs.length + 1 := HT.out.len; have h2 : i ≤ xs.length := HF.out.le; omega
    obtain ⟨n, hn⟩ : ∃ n, L[i]? = some n := ⟨_, List.getElem?_eq_getElem hil⟩
    have hnm : n ∈ L := List.mem_of_getElem? hn
    have tk : (w3.setCell ⟨pb, 22, none⟩ (.int .i64 1)).cell? ⟨kb, i, none⟩ = some (.pointer (some ⟨n.b, 0, none⟩)) := by
      have := hT4.out.K.row i (ptr n.b) (by simp [ptrs, hn])
      rw [Nat.zero_add] at this; exact this
    obtain ⟨hEn, hn0⟩ := hT4.out.leaf n hnm
    have en := hEn.cell
    have i1 : (i : Int) < 127 := by have := hT4.out.K.len; rw [List.length_map] at this; omega
    have hpn1 : pb ≠ n.b := fun h => HPP.out (.inr (.inr (.inr ⟨n, hnm, .inl h⟩)))
    have HEN := hide hEn
    have HN := hide hn
    have HNM := hide hnm
    clear hEn hn hnm hil
    go_wp2_with fail
    generalize (w3.setCell ⟨pb, 22, none⟩ (.int .i64 1)) = w4 at hO4 hI4 hP4 hQ4 hT4 t22 t0 tk HEN hn0 en ⊢
    clear r0 r1 r22 hg22 s0 H3 HRP HRO
    rw [rounds_succ]
    go_wp2_with fail
    refine (HG.out.search n.eb n.eo n.cap n.xs x w4 (HSL.out n HNM.out).1 HEN.out.row (by have := (HSL.out n HNM.out).2; omega) hI4.out (HR.out _ (.inr (.inr (.inr ⟨n, HNM.out, .inr rfl⟩))))).mono ?_
    rintro e w5 ⟨⟨j, f, rfl, hF5⟩, hI5, hO5⟩
    have q22 := hO5.cell t22 hnp
    have q0 := hO5.cell hQ4.out.n hnp
    have q1 := hO5.cell hQ4.out.i hnp
    have HP5 : Hid (Path0 w5 pb) := ⟨hO5.there hP4.out.room hnp⟩
    have m0 := hO5.cell hn0 (fun h => HR.out _ (.inr (.inr (.inr ⟨n, HNM.out, .inl rfl⟩))) (HG.out.sub _ h))
    obtain ⟨u2, hu2, hf2⟩ := HP5.out.cell 2 (by omega)
    obtain ⟨u3, hu3, hf3⟩ := HP5.out.cell 3 (by omega)
    obtain ⟨u22, hu22, hf22⟩ := HP5.out.cell 22 (by omega)
    have HO5 := hide (hO4.out.trans hO5 (fun k h => .inl (.inr h)))
    have HI5 := hide hI5
    have HF5 := hide hF5
    clear hO5 hI5 hF5 t22 t0 tk hn0 en hu22 u22
    go_wp2
    go_region_held3 (fun w' => w'.cell? ⟨pb, 22, none⟩ = some (.int .i64 1)) (first | (go_simp; done) | go_keep) (fail)
    have H6 : Hid (Fr2 w5 pb (.pointer (some ⟨n.b, 0, none⟩)) (.int .i64 j) ((w5.setCell ⟨pb, 2, none⟩ (.pointer (some ⟨n.b, 0, none⟩))).setCell ⟨pb, 3, none⟩ (.int .i64 j)).drew) := fr2_mk HP5.out hu2 hu3
    generalize ((w5.setCell ⟨pb, 2, none⟩ (.pointer (some ⟨n.b, 0, none⟩))).setCell ⟨pb, 3, none⟩ (.int .i64 j)).drew = w6 at H6 ⊢
    obtain ⟨r2, r3, rP, rO, rk⟩ := H6.out
    have r22 := (rk 22 (by omega) (by omega)).trans q22
    have r0 := (rk 0 (by omega) (by omega)).trans q0
    have r1 := (rk 1 (by omega) (by omega)).trans q1
    obtain ⟨v22, hv22, hg22⟩ := rP.cell 22 (by omega)
    have s0 := rO.cell m0 (fun h => hpn1 h.symm)
    have HRP := hide rP
    have HRO := hide rO
    clear rP rO rk hv22 v22 hu2 hf2 hu3 hf3 q22 q0 q1 hf22 m0
    have fin : ∀ ff : Bool, ff = f → TwoSeek o pb ⟨b, eb, eo, cap, xs⟩ L x w (.returned (.bool ff)) (w6.setCell ⟨pb, 22, none⟩ (.int .i64 2)) := by
      rintro ff rfl
      refine ⟨i, false, HF.out, ⟨?_, ?_⟩, ⟨World.there_setCells HRP.out.room pb 22 [_]⟩, ?_, ?_, .inr ⟨rfl, n, j, ff, HN.out, rfl, HF5.out, ?_, ?_, World.cell?_setCell_same _ _ _ r22⟩⟩
      · rw [World.cell?_setCell_other _ _ _ _ (by simp)]; exact r0
      · rw [World.cell?_setCell_other _ _ _ _ (by simp)]; exact r1
      · exact HG.out.kept _ _ _ HI5.out (HRO.out.setCell (.inl rfl) _) (fun k hk h => hp3 (h ▸ hk))
      · exact HO5.out.trans (HRO.out.setCell (p := ⟨pb, 22, none⟩) (.inl rfl) _) (fun k h => .inl (.inl h))
      · rw [World.cell?_setCell_other _ _ _ _ (by simp)]; exact r2
      · rw [World.cell?_setCell_other _ _ _ _ (by simp)]; exact r3
    have FIN := hide fin
    clear fin
    cases f
    · go_wp2
      go_ret
      exact FIN.out false rfl
    · go_wp2
      go_ret
      exact FIN.out true rfl
  · go_wp2
    go_ret
    exact ⟨i, true, HF.out, hQ4.out, hP4.out, hI4.out, hO4.out, .inl ⟨rfl, rfl, t22⟩⟩
end Go.Proofs.Ybulkcgwo.T
