import Derived.Test.YbulkcgwoTSeek
namespace Go.Proofs.Ybulkcgwo.T
open Go.RowKit
set_option linter.unusedVariables false

/-- What insert leaves of a tree of one leaf. -/
def LeafIns (d : Nd) (i : Nat) (e : Int) (w : World) (r : Ending) (w' : World) : Prop :=
  ∃ d' : Nd, r = .returned (.pointer (some ⟨d.b, 0, none⟩)) ∧ d'.b = d.b ∧ d'.xs = ins i e d.xs ∧ (d'.eb = d.eb ∨ w.heap.size ≤ d'.eb) ∧ EOK w' d' ∧ w'.cell? ⟨d.b, 0, none⟩ = some (.pointer none) ∧ Only (fun k => k = d.b ∨ k = d.eb) w w'

set_option maxHeartbeats 1000000 in
set_option maxRecDepth 100000 in
theorem insert_nil (pb : Nat) (e : Int) (w : World) (h22 : w.cell? ⟨pb, 22, none⟩ = some (.int .i64 0)) :
    Calls Yba.prog 39 #[.pointer (some ⟨pb, 0, none⟩), .int .i64 e] w fun r w' => r = .returned (.pointer (some ⟨w.heap.size + 1, 0, none⟩)) ∧ w' = (w.alloc (.cells #[.int .i64 e] 3)).alloc (.cells #[.pointer none, .slice (some ⟨w.heap.size, 0, none⟩) 1 1] 74) := by
  go_enter Yba.func39, Yba.ntmps39
  go_wp2
  go_ret
  exact ⟨rfl, rfl⟩

set_option maxHeartbeats 1000000 in
set_option maxRecDepth 100000 in
theorem insert_leaf (pb : Nat) (d : Nd) (i : Nat) (e : Int) (w : World) (hP : Path1 w pb d.b i) (h22 : w.cell? ⟨pb, 22, none⟩ = some (.int .i64 1)) (hE : EOK w d) (h0 : w.cell? ⟨d.b, 0, none⟩ = some (.pointer none)) (hi : i ≤ d.xs.length) (hl : d.xs.length ≤ 124) (hp1 : pb ≠ d.b) (hp2 : pb ≠ d.eb) :
    Calls Yba.prog 39 #[.pointer (some ⟨pb, 0, none⟩), .int .i64 e] w fun r w' => LeafIns d i e w r w' := by
  obtain ⟨pn, pi⟩ := hP
  have HE := hide hE
  clear hE
  go_enter Yba.func39, Yba.ntmps39
  go_wp2
  refine wp_loop_rounds 1 ?_
  rw [rounds_succ]
  go_wp2_with fail
  have hO1 : Hid (Only (fun _ => False) w (w.alloc (.cells #[.pointer (some ⟨d.b, 0, none⟩), .int .i64 i] 77))) := (Only.refl _ _).alloc _
  have g0 : (w.alloc (.cells #[.pointer (some ⟨d.b, 0, none⟩), .int .i64 i] 77)).cell? ⟨w.heap.size, 0, none⟩ = some (.pointer (some ⟨d.b, 0, none⟩)) := by simp
  have hlt := HE.out.lt
  obtain ⟨fb, hfb⟩ : ∃ fb, fb = w.heap.size := ⟨_, rfl⟩
  rw [← hfb] at g0 ⊢
  generalize (w.alloc (.cells #[.pointer (some ⟨d.b, 0, none⟩), .int .i64 i] 77)) = w1 at hO1 g0 ⊢
  have hf1 : fb ≠ d.b := by omega
  have hf2 : fb ≠ d.eb := by omega
  have HFB := hide hfb
  clear hfb
  refine (insertAt_leaf d i e (.pointer none) w1 (HE.out.kept hO1.out (fun h => h) (fun h => h)) (hO1.out.cell h0 (fun h => h)) hi (by omega)).mono ?_
  rintro r w2 ⟨rfl, d', hb', hx', heb', hE', hO2, h02⟩
  have g2 := hO2.cell g0 (fun h => h.elim hf1 hf2)
  have p2 := hO2.cell (hO1.out.cell pn (fun h => h)) (fun h => h.elim hp1 hp2)
  have e2 := hE'.cell
  rw [hb', hx', ins_length] at e2
  have FIN : Hid (LeafIns d i e w (.returned (.pointer (some ⟨d.b, 0, none⟩))) w2) := ⟨d', rfl, hb', hx', heb'.elim .inl (fun h => .inr (Nat.le_trans hO1.out.size h)), hE', h02, (hO1.out.mono (G := fun k => k = d.b ∨ k = d.eb) (fun _ _ h => h.elim)).trans hO2 (fun k h => .inl h)⟩
  have hl' : ((d.xs.length + 1 : Nat) : Int) ≤ 125 := by omega
  clear hO2 heb' hE' hx' hb' h02 hO1 pn pi g0 h0 h22 HFB
  go_wp2
  go_ret
  exact FIN.out

def nils (n : Nat) : List Value := List.replicate n (Value.pointer none)
theorem nils_get (n j : Nat) : (nils n)[j]? = if j < n then some (Value.pointer none) else none := by unfold nils; rw [List.getElem?_replicate]
theorem zero104 : Yba.zeroCells104 = (nils 127).toArray := by kernel_rfl
theorem kids_cell (w : World) (j : Nat) : (w.alloc (.cells (nils 127).toArray 104)).cell? ⟨w.heap.size, j, none⟩ = (nils 127)[j]? := by
  rw [cell_of_row _ _ _ _ _ _ (heap_alloc_new w _), List.getElem?_toArray]
theorem kids_free (w : World) (j : Nat) : (w.alloc (.cells (nils 127).toArray 104)).frozen? ⟨w.heap.size, j, none⟩ = false := by
  unfold World.frozen?
  rw [heap_alloc_new]
  simp
theorem kids_there (w : World) : (w.alloc (.cells (nils 127).toArray 104)).there w.heap.size 0 127 := by
  intro j hj
  rw [Nat.zero_add, kids_cell, nils_get, if_pos hj]
  exact ⟨rfl, kids_free _ _⟩

/-- The new root, with room for its subtrees. -/
def RootMk (R eb eo cap KB : Nat) (mid : Int) (w5 w6 : World) : Prop :=
  EOK w6 ⟨R, eb, eo, cap, [mid]⟩ ∧ w6.cell? ⟨R, 0, none⟩ = some (.pointer (some ⟨KB, 0, none⟩)) ∧ w6.frozen? ⟨R, 0, none⟩ = false ∧ w6.there KB 0 127 ∧ Only (fun k => k = R) w5 w6 ∧ KB < w6.heap.size
theorem root_mk {w4 w5 : World} {o : Obj} {R eb eo cap : Nat} {mid : Int} {v1 v0 : Value} (hA : App (w4.alloc o) R 2 126 ([] ++ [.int .i64 mid]) eb eo cap w5) (k1 : w5.cell? ⟨R, 1, none⟩ = some v1) (k0 : w5.cell? ⟨R, 0, none⟩ = some v0) (kf : w5.frozen? ⟨R, 1, none⟩ = false) (kf0 : w5.frozen? ⟨R, 0, none⟩ = false) (kap : eb = R → 2 ≤ eo) :
    RootMk R eb eo cap w5.heap.size mid w5 (((w5.setCell ⟨R, 1, none⟩ (.slice (some ⟨eb, eo, none⟩) 1 cap)).setCell ⟨R, 0, none⟩ (.pointer (some ⟨w5.heap.size, 0, none⟩))).alloc (.cells (nils 127).toArray 104)) := by
  have hz : ((w5.setCell ⟨R, 1, none⟩ (.slice (some ⟨eb, eo, none⟩) 1 cap)).setCell ⟨R, 0, none⟩ (.pointer (some ⟨w5.heap.size, 0, none⟩))).heap.size = w5.heap.size := by simp
  have hR := World.block_lt_of_cell? w5 _ k0
  simp only at hR
  have hOR : Only (fun k => k = R) w5 (((w5.setCell ⟨R, 1, none⟩ (.slice (some ⟨eb, eo, none⟩) 1 cap)).setCell ⟨R, 0, none⟩ (.pointer (some ⟨w5.heap.size, 0, none⟩))).alloc (.cells (nils 127).toArray 104)) := (((Only.refl (fun k => k = R) w5).setCell (.inl rfl) _).setCell (.inl rfl) _).alloc _
  have e1 : (w5.setCell ⟨R, 1, none⟩ (.slice (some ⟨eb, eo, none⟩) 1 cap)).cell? ⟨R, 0, none⟩ = some v0 := by rw [World.cell?_setCell_other _ _ _ _ (by simp)]; exact k0
  have ht := kids_there ((w5.setCell ⟨R, 1, none⟩ (.slice (some ⟨eb, eo, none⟩) 1 cap)).setCell ⟨R, 0, none⟩ (.pointer (some ⟨w5.heap.size, 0, none⟩)))
  rw [hz] at ht
  have hap : ∀ o1 : Nat, o1 < 2 → eb ≠ R ∨ eo + (ints [mid]).length ≤ o1 ∨ o1 + 1 ≤ eo := fun o1 h1 => (Decidable.em (eb = R)).elim (fun h => .inr (.inr (by have := kap h; omega))) .inl
  have hrow : w5.rangeAt eb eo (ints [mid]) := hA.row
  refine ⟨⟨?_, ?_, ?_, hA.max, ?_, ?_, kap, ?_⟩, ?_, ?_, ht, hOR, by simp⟩
  · rw [World.cell?_alloc_past _ _ _ (by simp; exact hR), World.cell?_setCell_other _ _ _ _ (by simp)]; exact World.cell?_setCell_same _ _ _ k1
  · rw [World.frozen?_alloc_past _ _ _ (by simp; exact hR), World.frozen?_setCell, World.frozen?_setCell]; exact kf
  · have := hA.le; simpa using this
  · exact World.rangeAt_alloc (World.rangeAt_setCells_apart (World.rangeAt_setCells_apart hrow R 1 [_] (hap 1 (by omega))) R 0 [_] (hap 0 (by omega))) _
  · exact World.there_alloc (World.there_setCells (World.there_setCells hA.room R 1 [_]) R 0 [_]) _
  · have := hA.le; show 0 < cap; simp at this; omega
  · rw [World.cell?_alloc_past _ _ _ (by simp; exact hR)]; exact World.cell?_setCell_same _ _ _ e1
  · rw [World.frozen?_alloc_past _ _ _ (by simp; exact hR), World.frozen?_setCell, World.frozen?_setCell]; exact kf0

/-- What insert leaves of a full leaf: a root and two leaves. -/
def LeafSplit (d : Nd) (i : Nat) (e : Int) (w : World) (r : Ending) (w' : World) : Prop :=
  ∃ (R l q : Nd) (kb : Nat), r = .returned (.pointer (some ⟨R.b, 0, none⟩)) ∧ Two w' R kb [l, q] ∧ R.xs = [(ins i e d.xs).getD 62 0] ∧ l.xs = (ins i e d.xs).take 62 ∧ q.xs = (ins i e d.xs).drop 63 ∧
    (∀ k, twoFoot R kb [l, q] k → k = d.b ∨ k = d.eb ∨ w.heap.size ≤ k) ∧ Only (fun k => k = d.b ∨ k = d.eb) w w'

set_option maxHeartbeats 2000000 in
set_option maxRecDepth 100000 in
theorem insert_leaf_split (pb : Nat) (d : Nd) (i : Nat) (e : Int) (w : World) (hP : Path1 w pb d.b i) (h22 : w.cell? ⟨pb, 22, none⟩ = some (.int .i64 1)) (hE : EOK w d) (h0 : w.cell? ⟨d.b, 0, none⟩ = some (.pointer none)) (hi : i ≤ d.xs.length) (hl : d.xs.length = 125) (hp1 : pb ≠ d.b) (hp2 : pb ≠ d.eb) :
    Calls Yba.prog 39 #[.pointer (some ⟨pb, 0, none⟩), .int .i64 e] w fun r w' => LeafSplit d i e w r w' := by
  obtain ⟨pn, pi⟩ := hP
  have HE := hide hE
  have HL := hide hl
  clear hE hl
  have hpl := World.block_lt_of_cell? w _ pn
  simp only at hpl
  go_enter Yba.func39, Yba.ntmps39
  go_wp2
  refine wp_loop_rounds 2 ?_
  rw [rounds_succ]
  go_wp2_with fail
  have hO1 : Hid (Only (fun _ => False) w (w.alloc (.cells #[.pointer (some ⟨d.b, 0, none⟩), .int .i64 i] 77))) := (Only.refl _ _).alloc _
  have g0 : (w.alloc (.cells #[.pointer (some ⟨d.b, 0, none⟩), .int .i64 i] 77)).cell? ⟨w.heap.size, 0, none⟩ = some (.pointer (some ⟨d.b, 0, none⟩)) := by simp
  have hlt := HE.out.lt
  obtain ⟨fb, hfb⟩ : ∃ fb, fb = w.heap.size := ⟨_, rfl⟩
  rw [← hfb] at g0 ⊢
  generalize (w.alloc (.cells #[.pointer (some ⟨d.b, 0, none⟩), .int .i64 i] 77)) = w1 at hO1 g0 ⊢
  have hf1 : fb ≠ d.b := by omega
  have hf2 : fb ≠ d.eb := by omega
  have HFB := hide hfb
  have hfl : fb < w1.heap.size := World.block_lt_of_cell? w1 _ g0
  have hpl1 : pb < w1.heap.size := Nat.lt_of_lt_of_le hpl hO1.out.size
  clear hfb
  refine (insertAt_leaf d i e (.pointer none) w1 (HE.out.kept hO1.out (fun h => h) (fun h => h)) (hO1.out.cell h0 (fun h => h)) hi (by rw [HL.out]; omega)).mono ?_
  rintro r w2 ⟨rfl, d', hb', hx', heb', hE', hO2, h02⟩
  have g2 := hO2.cell g0 (fun h => h.elim hf1 hf2)
  have p2 := hO2.cell (hO1.out.cell pn (fun h => h)) (fun h => h.elim hp1 hp2)
  have e2 := hE'.cell
  rw [hb', hx', ins_length, HL.out] at e2
  have HO2 : Hid (Only (fun k => k = d.b ∨ k = d.eb) w w2) := (hO1.out.mono (G := fun k => k = d.b ∨ k = d.eb) (fun _ _ h => h.elim)).trans hO2 (fun k h => .inl h)
  have HE2 := hide hE'
  have HB' := hide hb'
  have HX' := hide hx'
  have HEB' := hide heb'
  have HO12 := hide hO2
  clear hO2 heb' hE' hx' pn pi g0 h0 h22
  go_wp2_with fail
  rw [← hb'] at h02 ⊢
  refine (split_leaf d' w2 HE2.out h02 (by rw [HX'.out, ins_length, HL.out])).mono ?_
  rintro r w3 ⟨l, q, mid, rfl, hPt⟩
  have hpd : pb ≠ d'.eb := by
    rcases HEB'.out with h | h
    · rw [h]; exact hp2
    · omega
  have hpb' : pb ≠ d'.b := by rw [hb']; exact hp1
  have p3 := hPt.only.cell p2 (fun h => h.elim hpb' hpd)
  have HPT := hide hPt
  have hz3 := hPt.only.size
  have hnew := hide (new_ok w3)
  have hOn : Hid (Only (fun _ => False) w3 (w3.alloc (newObj w3.heap.size))) := (Only.refl _ _).alloc _
  have hzn : w3.heap.size < (w3.alloc (newObj w3.heap.size)).heap.size := by simp
  clear hPt g2 e2
  go_wp2_with fail
  rw [rounds_succ]
  go_wp2_with fail
  refine (newNode_any _).mono ?_
  rintro r w4 ⟨rfl, rfl⟩
  obtain ⟨R, hR⟩ : ∃ R, R = w3.heap.size := ⟨_, rfl⟩
  rw [← hR] at hnew hOn hzn ⊢
  generalize (w3.alloc (newObj R)) = w4 at hnew hOn hzn ⊢
  obtain ⟨⟨q1, q2, -, -, -, q3, -, -⟩, q4, q5⟩ := hnew.out
  simp only [List.length_nil] at q1 q2 q3
  have Q3 := hide q3
  have hpl3 : pb < w3.heap.size := World.block_lt_of_cell? w3 _ p3
  have hRp : R ≠ pb := by omega
  have HRR := hide hR
  have p4 := hOn.out.cell p3 (fun h => h)
  clear q3 hR p3 p2
  go_wp2_with (first
    | (at_builtin; refine wpList_app one23 rfl (.tmp 64) (.tmp 66) rfl R 2 0 126 [] rfl rfl (fun j v hv => by simp at hv) (World.there_alloc Q3.out _) (by omega) (by unfold maxLen; omega) ⟨w4.heap.size, 0, none⟩ 1 1 [.int .i64 mid] rfl rfl (new_one _ _ _) (one_one _) (by omega) ?_; intro eb5 eo5 cap5 w5 hA; obtain ⟨k1, k0, kf, kap⟩ := app_node hA q1 q2 q4 (fun _ => Nat.le_refl _); have kf0 := hA.keepf (b' := R) (o' := 0) (by simp; omega) (by rw [World.frozen?_alloc_past _ _ _ (by exact hzn)]; exact q5); have hz5 : R < w5.heap.size := World.block_lt_of_cell? w5 _ k0)
    | fail)
  rw [zero104]
  have HW := hide (root_mk hA k1 k0 kf kf0 kap)
  obtain ⟨KB, hKB⟩ : ∃ KB, KB = w5.heap.size := ⟨_, rfl⟩
  rw [← hKB] at HW ⊢
  have hO5 : Hid (Only (fun k => k = R) w4 w5) := ((Only.refl (fun k => k = R) w4).alloc _).trans hA.only (fun k h => .inl h)
  have p5 := hO5.out.cell p4 (fun h => hRp h.symm)
  have hKp : KB ≠ pb := by have := World.block_lt_of_cell? w5 _ p5; simp only at this; omega
  have hKR : KB ≠ R := by omega
  generalize (((w5.setCell ⟨R, 1, none⟩ (.slice (some ⟨eb5, eo5, none⟩) 1 cap5)).setCell ⟨R, 0, none⟩ (.pointer (some ⟨KB, 0, none⟩))).alloc (.cells (nils 127).toArray 104)) = w6 at HW ⊢
  obtain ⟨hE6, z0, z0f, zt, zO, zs⟩ := HW.out
  have p6 := zO.cell p5 (fun h => hRp h.symm)
  have HE6 := hide hE6
  have ZO := hide zO
  have ZT := hide zt
  obtain ⟨a0, ha0⟩ := Option.isSome_iff_exists.1 (zt 0 (by omega)).1
  obtain ⟨a1, ha1⟩ := Option.isSome_iff_exists.1 (zt 1 (by omega)).1
  have hb0 := (zt 0 (by omega)).2
  have hb1 := (zt 1 (by omega)).2
  simp only [Nat.zero_add] at ha0 ha1 hb0 hb1
  have HKB := hide hKB
  have hAp : eb5 = R ∨ R < eb5 := hA.place.elim (fun h => .inl h.1) (fun h => .inr (by have := h.1; simp at this; omega))
  have hAl : eb5 < w5.heap.size := there_lt hA.room (by have := hA.le; simp at this; omega)
  clear hE6 zO zt hA k1 k0 kf kf0 hKB p5 p4
  go_region_held3 (fun w' => w'.cell? ⟨R, 0, none⟩ = some (.pointer (some ⟨KB, 0, none⟩)) ∧ w'.cell? ⟨pb, 0, none⟩ = some (.pointer (some ⟨d.b, 0, none⟩))) (first | (constructor <;> (go_simp; done)) | go_keep) (fail)
  have H7 : Hid (Only (fun k => k = KB) w6 ((w6.setCell ⟨KB, 0, none⟩ (.pointer (some ⟨d.b, 0, none⟩))).setCell ⟨KB, 1, none⟩ (.pointer (some ⟨q.b, 0, none⟩))).drew ∧ ((w6.setCell ⟨KB, 0, none⟩ (.pointer (some ⟨d.b, 0, none⟩))).setCell ⟨KB, 1, none⟩ (.pointer (some ⟨q.b, 0, none⟩))).drew.rangeAt KB 0 (ptrs [d.b, q.b]) ∧ ((w6.setCell ⟨KB, 0, none⟩ (.pointer (some ⟨d.b, 0, none⟩))).setCell ⟨KB, 1, none⟩ (.pointer (some ⟨q.b, 0, none⟩))).drew.there KB 0 127) := by
    refine ⟨(((Only.refl (fun k => k = KB) w6).setCell (.inl rfl) _).setCell (.inl rfl) _).drew, ?_, (World.there_drew _ _ _ _).2 (World.there_setCells (World.there_setCells ZT.out KB 0 [_]) KB 1 [_])⟩
    exact (World.rangeAt_drew _ _ _ _).2 (World.rangeAt_setCells_same w6 KB 0 [ptr d.b, ptr q.b] (there_mono ZT.out (by simp)))
  generalize ((w6.setCell ⟨KB, 0, none⟩ (.pointer (some ⟨d.b, 0, none⟩))).setCell ⟨KB, 1, none⟩ (.pointer (some ⟨q.b, 0, none⟩))).drew = w7 at H7 ⊢
  go_wp2
  go_ret
  obtain ⟨hO7, hr7, ht7⟩ := H7.out
  have hR3 := HRR.out
  have hKB5 := HKB.out
  have hPt := HPT.out
  have hlb : l.b < w2.heap.size ∧ l.eb < w2.heap.size := by rw [hPt.lb, hPt.leb]; exact HE2.out.lt
  have hqb := hPt.rE.lt
  have hq1 := hPt.rb
  have hq2 := hPt.reb
  have hs5 := hO5.out.size
  have hzw4 := hOn.out.size
  have heb5 : (eb5 = R ∨ R < eb5) ∧ eb5 < w5.heap.size := ⟨hAp, hAl⟩
  have hO36 : Only (fun k => k = R) w3 w6 := ((hOn.out.mono (G := fun k => k = R) (fun _ _ h => h.elim)).trans hO5.out (fun k h => .inl h)).trans ZO.out (fun k h => .inl h)
  have hO37 : Only (fun k => k = R ∨ k = KB) w3 w7 := (hO36.mono (G := fun k => k = R ∨ k = KB) (fun _ _ h => .inl h)).trans hO7 (fun k h => .inl (.inr h))
  have hsz : w.heap.size ≤ w2.heap.size := HO2.out.size
  have hEl : EOK w7 l := hPt.lE.kept hO37 (by omega) (by omega)
  have hEq : EOK w7 q := hPt.rE.kept hO37 (by omega) (by omega)
  refine ⟨⟨R, eb5, eo5, cap5, [mid]⟩, l, q, KB, rfl, ⟨HE6.out.kept hO7 (fun h => hKR h.symm) (show ¬ (eb5 = KB) by omega), ⟨hO7.cell z0 (fun h => hKR h.symm), ?_, ht7, by simp⟩, rfl, ?_, hKR, by simp only; omega, ?_, ?_⟩, ?_, ?_, ?_, ?_, ?_⟩
  · have : [l, q].map Nd.b = [d.b, q.b] := by simp [hPt.lb, HB'.out]
    rw [this]; exact hr7
  · intro n hn
    rcases List.mem_cons.1 hn with rfl | hn
    · exact ⟨hEl, hO37.cell hPt.lk (show ¬ (n.b = R ∨ n.b = KB) by omega)⟩
    · have hn' : n = q := by simpa using hn
      subst hn'
      exact ⟨hEq, hO37.cell hPt.rk (show ¬ (n.b = R ∨ n.b = KB) by omega)⟩
  · intro n hn
    simp only
    rcases List.mem_cons.1 hn with rfl | hn
    · omega
    · have hn' : n = q := by simpa using hn
      subst hn'
      omega
  · simp only [List.pairwise_cons, List.mem_singleton, forall_eq, List.not_mem_nil, false_implies, implies_true, List.Pairwise.nil, and_true]
    omega
  · simp only [hPt.mx, HX'.out]
  · rw [hPt.lx, HX'.out]
  · rw [hPt.rx, HX'.out]
  · have hle := HEB'.out
    have h1s := hO1.out.size
    have e1 : l.b = d.b := hPt.lb.trans HB'.out
    have e2 : l.eb = d'.eb := hPt.leb
    intro k hk
    rcases hk with h | h | h | ⟨n, hn, h⟩
    · simp only at h; omega
    · simp only at h; omega
    · omega
    · rcases List.mem_cons.1 hn with rfl | hn
      · omega
      · have hn' : n = q := by simpa using hn
        subst hn'
        omega
  · have hle := HEB'.out
    have h1s := hO1.out.size
    have hb'' := HB'.out
    exact (HO2.out.trans hPt.only (fun k h => by omega)).trans hO37 (fun k h => by omega)
end Go.Proofs.Ybulkcgwo.T
