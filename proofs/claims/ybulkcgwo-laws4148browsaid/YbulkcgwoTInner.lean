import Derived.Test.YbulkcgwoTNode
namespace Go.Proofs.Ybulkcgwo.T
open Go.RowKit
set_option linter.unusedVariables false

theorem arr104 : Yba.prog.underlying 104 = some (.array (Yba.prog.arrayLen 104) (Yba.prog.elem 104)) := by kernel_rfl
theorem len104 : Yba.prog.arrayLen 104 = 127 := by kernel_rfl
theorem size104 (w : World) : (sizeOf (Yba.prog.elem 104)).run Yba.prog w = .ok 1 w := by kernel_rfl
theorem acut_eq (b l h : Nat) : slicedAt ⟨b, 0, none⟩ l h 127 1 = .slice (cutA (some ⟨b, 0, none⟩) 127 l) (h - l) (127 - l) := by
  unfold slicedAt cutA
  by_cases e : 127 = l
  · rw [if_pos e, if_pos e]
  · rw [if_neg e, if_neg e, Nat.mul_one]; rfl
theorem run_acut2 (b l h : Nat) (I J : Int) (hI : I = l) (hJ : J = h) (h1 : l ≤ h) (h2 : h ≤ 127) (w : World) :
    (Instr.sliceAt 104 (.pointer (some ⟨b, 0, none⟩)) (some (.int .i64 I)) (some (.int .i64 J)) none).run Yba.prog w = .ok (.slice (cutA (some ⟨b, 0, none⟩) 127 l) (h - l) (127 - l)) w := by
  subst hI; subst hJ
  rw [run_sliceAt_array_lh (P := Yba.prog) w 104 _ arr104 .i64 .i64 l h (by omega) (by omega) (by rw [len104]; omega), size104, len104, Int.toNat_natCast, Int.toNat_natCast, Result.andThen_ok, acut_eq]
theorem run_acut (b l : Nat) (I : Int) (hI : I = l) (h1 : l ≤ 127) (w : World) :
    (Instr.sliceAt 104 (.pointer (some ⟨b, 0, none⟩)) (some (.int .i64 I)) none none).run Yba.prog w = .ok (.slice (cutA (some ⟨b, 0, none⟩) 127 l) (127 - l) (127 - l)) w := by
  subst hI
  rw [run_sliceAt_array_l (P := Yba.prog) w 104 _ arr104 .i64 l (by omega) (by rw [len104]; omega), size104, len104, Int.toNat_natCast, Result.andThen_ok, acut_eq]
theorem run_acutTo (b h : Nat) (J : Int) (hJ : J = h) (h2 : h ≤ 127) (w : World) :
    (Instr.sliceAt 104 (.pointer (some ⟨b, 0, none⟩)) none (some (.int .i64 J)) none).run Yba.prog w = .ok (.slice (some ⟨b, 0, none⟩) h 127) w := by
  subst hJ
  rw [run_sliceAt_array_h (P := Yba.prog) w 104 _ arr104 .i64 h (by omega) (by rw [len104]; omega), size104, len104, Int.toNat_natCast, Result.andThen_ok, acut_eq, cutA_some (by omega)]
  rfl
theorem run_acutAll (b : Nat) (w : World) :
    (Instr.sliceAt 104 (.pointer (some ⟨b, 0, none⟩)) none none none).run Yba.prog w = .ok (.slice (some ⟨b, 0, none⟩) 127 127) w := by
  rw [run_sliceAt_array_all (P := Yba.prog) w 104 _ arr104, size104, len104, Result.andThen_ok, acut_eq, cutA_some (by omega)]

/-- insertion at a place, of values -/
def vins (i : Nat) (v : Value) (vs : List Value) : List Value := vs.take i ++ v :: vs.drop i
theorem range_ins {w : World} {b o : Nat} {vs : List Value} {i : Nat} {v : Value} (hr : w.rangeAt b o vs) (ht : w.there b o (vs.length + 1)) (hi : i ≤ vs.length) :
    ((w.setCells b (o + (i + 1)) (vs.drop i)).setCell ⟨b, o + i, none⟩ v).rangeAt b o (vins i v vs) := by
  have hl : (vs.take i).length = i := by rw [List.length_take]; omega
  have hd : (vs.drop i).length = vs.length - i := List.length_drop
  have h1 : (w.setCells b (o + (i + 1)) (vs.drop i)).there b o (vs.length + 1) := World.there_setCells ht _ _ _
  obtain ⟨u, hu⟩ := Option.isSome_iff_exists.1 (h1 i (by omega)).1
  have e1 : vins i v vs = vs.take i ++ ([v] ++ vs.drop i) := by simp [vins]
  rw [e1]
  refine range_append (World.rangeAt_setCells_apart (World.rangeAt_setCells_apart (range_take hr i) _ _ _ (.inr (.inl (by omega)))) b (o + i) [v] (.inr (.inl (by omega)))) (range_append ?_ ?_)
  · rw [hl]; exact range_one (World.cell?_setCell_same _ _ _ hu)
  · rw [hl, Nat.add_assoc]
    exact World.rangeAt_setCells_apart (World.rangeAt_setCells_same _ _ _ _ (there_from ht _ _ (by omega))) b (o + i) [v] (.inr (.inr (by simp; omega)))

def ptr (k : Nat) : Value := .pointer (some ⟨k, 0, none⟩)
def ptrs (ks : List Nat) : List Value := ks.map ptr
theorem ptrs_length (ks : List Nat) : (ptrs ks).length = ks.length := by simp [ptrs]
theorem ptrs_one (ks : List Nat) : ∀ u ∈ ptrs ks, u.oneCell' = true := by
  intro u hu
  obtain ⟨_, _, rfl⟩ := List.mem_map.1 hu
  rfl
theorem ptrs_drop (ks : List Nat) (i : Nat) : ptrs (ks.drop i) = (ptrs ks).drop i := by simp [ptrs, List.map_drop]
theorem ptrs_get {ks : List Nat} {j : Nat} (h : j < ks.length) : (ptrs ks)[j]? = some (ptr (ks.getD j 0)) := by simp [ptrs, List.getD_eq_getElem?_getD, h]

/-- The subtrees of an inner node, as they lie. -/
structure KOK (w : World) (b kb : Nat) (ks : List Nat) : Prop where
  cell : w.cell? ⟨b, 0, none⟩ = some (.pointer (some ⟨kb, 0, none⟩))
  row : w.rangeAt kb 0 (ptrs ks)
  room : w.there kb 0 127
  len : ks.length ≤ 127

theorem KOK.kept {w w' : World} {b kb : Nat} {ks : List Nat} (h : KOK w b kb ks) {F : Nat → Prop} (hO : Only F w w') (h1 : ¬ F b) (h2 : ¬ F kb) : KOK w' b kb ks :=
  ⟨hO.cell h.cell h1, hO.range h.row h2, hO.there h.room h2, h.len⟩
theorem KOK.lt {w : World} {b kb : Nat} {ks : List Nat} (h : KOK w b kb ks) : b < w.heap.size ∧ kb < w.heap.size := ⟨World.block_lt_of_cell? w _ h.cell, there_lt h.room (by omega)⟩

/-- insertion of a subtree -/
def kins (i : Nat) (k : Nat) (ks : List Nat) : List Nat := ks.take i ++ k :: ks.drop i
theorem ptrs_kins (i k : Nat) (ks : List Nat) : ptrs (kins i k ks) = vins i (ptr k) (ptrs ks) := by simp [ptrs, kins, vins, List.map_take, List.map_drop]

theorem kin_hn (ks : List Nat) {n i : Nat} (hl : ks.length = n + 1) (hi : i ≤ n) : (ptrs (ks.drop (i + 1))).length = Nat.min (n + 1 - (i + 1)) (n + 2 - (i + 2)) := by
  rw [ptrs_length, List.length_drop, hl, show n + 2 - (i + 2) = n + 1 - (i + 1) by omega]; exact (Nat.min_self _).symm
theorem kin_hn2 (ks : List Nat) {n i : Nat} (hl : ks.length = n + 1) (hi : i ≤ n) : (ptrs (ks.drop (i + 1))).length = Nat.min (n - i) (n - i) := by
  rw [ptrs_length, List.length_drop, hl, show n + 1 - (i + 1) = n - i by omega]; exact (Nat.min_self _).symm
theorem kin_hpos {W : World} {kb : Nat} {ks : List Nat} {n i : Nat} (hr : W.rangeAt kb 0 (ptrs ks)) (hl : ks.length = n + 1) (hi : i ≤ n) (hn : n ≤ 125) :
    0 < (ptrs (ks.drop (i + 1))).length → cutA (some ⟨kb, 0, none⟩) 127 (i + 2) = some ⟨kb, 0 + (i + 1 + 1), none⟩ ∧ ∃ ad, cutA (some ⟨kb, 0, none⟩) 127 (i + 1) = some ad ∧ ∀ j v, (ptrs (ks.drop (i + 1)))[j]? = some v → W.cell? (ad.add j) = some v := by
  intro h0
  rw [ptrs_length, List.length_drop] at h0
  refine ⟨cutA_some (by omega), _, cutA_some (by omega), fun j v hv => ?_⟩
  rw [Addr.add_lit, Nat.add_assoc]
  rw [ptrs_drop, List.getElem?_drop] at hv
  exact hr (i + 1 + j) v hv

set_option maxHeartbeats 2000000 in
set_option maxRecDepth 100000 in
theorem insertAt_inner (d : Nd) (kb : Nat) (ks : List Nat) (i : Nat) (e : Int) (kid : Nat) (w : World) (hE : EOK w d) (hK : KOK w d.b kb ks) (hne1 : kb ≠ d.b) (hne2 : kb ≠ d.eb) (hks : ks.length = d.xs.length + 1) (hi : i ≤ d.xs.length) (hl : d.xs.length ≤ 125) :
    Calls Yba.prog 53 #[.pointer (some ⟨d.b, 0, none⟩), .int .i64 i, .int .i64 e, .pointer (some ⟨kid, 0, none⟩)] w fun r w' => r = .returned (.tuple #[]) ∧ ∃ d' : Nd, d'.b = d.b ∧ d'.xs = ins i e d.xs ∧ (d'.eb = d.eb ∨ w.heap.size ≤ d'.eb) ∧ EOK w' d' ∧ Only (fun k => k = d.b ∨ k = d.eb ∨ k = kb) w w' ∧ KOK w' d.b kb (kins (i + 1) kid ks) := by
  obtain ⟨b, eb, eo, cap, xs⟩ := d
  have hK0 := hide hK
  have hkb := hK.lt.2
  obtain ⟨hc, hf, hlen, hmax, hrow, hroom, hap, hpos⟩ := hE
  have hleaf := hK.cell
  clear hK
  simp only at hc hf hlen hmax hrow hroom hap hpos hleaf hi hl hne1 hne2 hks ⊢
  have HR := hide hrow
  have HT := hide hroom
  clear hrow hroom
  have hb := World.block_lt_of_cell? w _ hc
  go_enter Yba.func53, Yba.ntmps53
  go_wp2_with (first
    | (at_builtin; refine wpList_app one23 rfl (.tmp 18) (.tmp 20) rfl eb eo xs.length cap (ints xs) rfl (ints_length _) (World.rangeAt_alloc HR.out _) (World.there_alloc HT.out _) hlen hmax ⟨w.heap.size, 0, none⟩ 1 1 [.int .i64 e] rfl rfl (new_one _ _ _) (one_one _) (by omega) ?_; intro eb1 eo1 cap1 w1 hA; obtain ⟨k1, k0, kf, kap⟩ := app_node hA hc hf hleaf hap)
    | fail)
  have hw2 : Hid (Upd w b eb eb1 eo1 cap1 (xs.length + 1) (ints xs ++ [.int .i64 e]) (.pointer (some ⟨kb, 0, none⟩)) (w1.setCell ⟨b, 1, none⟩ (.slice (some ⟨eb1, eo1, none⟩) (xs.length + 1) cap1))) := upd_stored (by simpa using hA.row) hA.room k1 k0 kf kap ((((Only.refl _ _).alloc _).trans hA.only (fun k hk => .inl (.inr hk))))
  generalize (w1.setCell ⟨b, 1, none⟩ (.slice (some ⟨eb1, eo1, none⟩) (xs.length + 1) cap1)) = w2 at hw2 ⊢
  obtain ⟨c1, c0, cf, -, -, cap2, -⟩ := hw2.out
  have hle1 : xs.length + 1 ≤ cap1 := by have := hA.le; rw [List.length_append, ints_length] at this; exact this
  have hle2 : cap1 ≤ maxLen := hA.max
  have HA := hide hA
  clear hA k1 k0 kf kap hc hf hleaf hlen hmax
  unfold maxLen at hle2
  have hwr : IntKind.i64.wrap ((i : Int) + 1) = (i : Int) + 1 := by simp only [IntKind.wrap_i64]; omega
  have s1 := run_cut one23 (some ⟨eb1, eo1, none⟩) (xs.length + 1) cap1 (i + 1) ((i : Int) + 1) (by omega) (by omega)
  have s2 := run_cut2 one23 (some ⟨eb1, eo1, none⟩) (xs.length + 1) cap1 i xs.length (i : Int) (xs.length : Int) rfl rfl (by omega) (by omega)
  go_region_held3 (fun w' => w'.cell? ⟨b, 1, none⟩ = some (.slice (some ⟨eb1, eo1, none⟩) (xs.length + 1) cap1)) (first | exact (by simpa using c1) | exact cell_cells (by simpa using c1) _ _ _ (fun h => .inl (by have := cap2 h.symm; simp; omega))) ((refine step_cpy (t2 := 23) one23 rfl (.tmp 30) (.tmp 37) rfl _ _ _ _ _ _ eb1 (eo1 + (i + 1)) (ints (xs.drop i)) rfl rfl ?_ ?_ ?_ (ints_one _) ?_; (first | exact ins_hn xs hi | exact ins_hn2 xs i); (exact ins_hpos ((World.rangeAt_drew _ _ _ _).2 hw2.out.2.2.2.1) hle1 hi); (exact ins_hth ((World.there_drew _ _ _ _).2 hw2.out.2.2.2.2.1) hle1 hi)))
  have hw3 : Hid (Ups w b eb eb1 eo1 cap1 (xs.length + 1) i e xs (.pointer (some ⟨kb, 0, none⟩)) (w2.drew.setCells eb1 (eo1 + (i + 1)) (ints (xs.drop i)))) := ups_copied hw2.out hi hle1 (HA.out.place.elim (fun h => .inl (.inr h.1)) (fun h => .inr (by have := h.1; simp at this; omega)))
  generalize (w2.drew.setCells eb1 (eo1 + (i + 1)) (ints (xs.drop i))) = w3 at hw3 ⊢
  obtain ⟨d1, d0, df, ⟨u, du⟩, duf, -⟩ := hw3.out
  have hw4 := hide (upt_stored hw3.out hi)
  have n0 := hw4.out.2.1
  have i1 : (i : Int) < ((xs.length + 1 : Nat) : Int) := by omega
  clear s1 s2 hwr c1 c0 cf
  go_wp2
  generalize (w3.setCell ⟨eb1, eo1 + i, none⟩ (.int .i64 e)) = w4 at hw4 n0 ⊢
  clear d1 d0 df du duf
  have hO4 := hw4.out.2.2.2.2.2.2
  have kr : w4.rangeAt kb 0 (ptrs ks) := hO4.range hK0.out.row (fun h => h.elim hne1 hne2)
  have kt : w4.there kb 0 127 := hO4.there hK0.out.room (fun h => h.elim hne1 hne2)
  have KR := hide kr
  have KT := hide kt
  have HO4 := hide hO4
  clear kr kt hO4
  have hv1 : IntKind.i64.wrap ((i : Int) + 2) = (i : Int) + 2 := by simp only [IntKind.wrap_i64]; omega
  have hv2 : IntKind.i64.wrap ((i : Int) + 1) = (i : Int) + 1 := by simp only [IntKind.wrap_i64]; omega
  have hv3 : IntKind.i64.wrap ((xs.length : Int) + 2) = (xs.length : Int) + 2 := by simp only [IntKind.wrap_i64]; omega
  have hv4 : IntKind.i64.wrap ((xs.length : Int) + 1) = (xs.length : Int) + 1 := by simp only [IntKind.wrap_i64]; omega
  have s1 := run_acut2 kb (i + 2) (xs.length + 2) ((i : Int) + 2) ((xs.length : Int) + 2) (by omega) (by omega) (by omega) (by omega)
  have s2 := run_acut2 kb (i + 1) (xs.length + 1) ((i : Int) + 1) ((xs.length : Int) + 1) (by omega) (by omega) (by omega) (by omega)
  go_region_held3 (fun w' => w'.cell? ⟨b, 0, none⟩ = some (.pointer (some ⟨kb, 0, none⟩))) (first | exact (by simpa using n0) | exact cell_cells (by simpa using n0) _ _ _ (fun h => absurd h.symm hne1)) ((refine step_cpy (t2 := 87) one87 rfl (.tmp 60) (.tmp 70) rfl _ _ _ _ _ _ kb (0 + (i + 1 + 1)) (ptrs (ks.drop (i + 1))) rfl rfl ?_ ?_ ?_ (ptrs_one _) ?_; (first | exact kin_hn ks hks hi | exact kin_hn2 ks hks hi); (exact kin_hpos ((World.rangeAt_drew _ _ _ _).2 KR.out) hks hi hl); (exact there_from ((World.there_drew _ _ _ _).2 KT.out) _ _ (by rw [ptrs_length, List.length_drop]; omega))))
  have hr5 := hide (range_ins (v := ptr kid) ((World.rangeAt_drew _ _ _ _).2 KR.out) (there_mono ((World.there_drew _ _ _ _).2 KT.out) (by rw [ptrs_length]; omega)) (i := i + 1) (by rw [ptrs_length]; omega))
  rw [← ptrs_drop] at hr5
  have ht5 := hide (World.there_setCells ((World.there_drew _ _ _ _).2 KT.out) kb (0 + (i + 1 + 1)) (ptrs (ks.drop (i + 1))))
  have hO5 : Hid (Only (fun k => k = kb) w4 (w4.drew.setCells kb (0 + (i + 1 + 1)) (ptrs (ks.drop (i + 1))))) := Only.setCells (F := fun k => k = kb) (.inl rfl) _ _ (Only.refl _ _).drew
  generalize (w4.drew.setCells kb (0 + (i + 1 + 1)) (ptrs (ks.drop (i + 1)))) = w5 at hr5 ht5 hO5 ⊢
  have m0 : w5.cell? ⟨b, 0, none⟩ = some (.pointer (some ⟨kb, 0, none⟩)) := hO5.out.cell n0 (fun h => hne1 h.symm)
  obtain ⟨u5, hu5⟩ := Option.isSome_iff_exists.1 (ht5.out (i + 1) (by omega)).1
  have hf5 := (ht5.out (i + 1) (by omega)).2
  rw [Nat.zero_add] at hu5 hf5
  have j0 : (i : Int) + 1 < 127 := by omega
  clear s1 s2 hv1 hv3 hv4 n0
  go_wp2
  go_end0
  obtain ⟨f1, f0, ff, fr, ft, fap, fO⟩ := hw4.out
  have hO6 : Only (fun k => k = kb) w4 (w5.setCell ⟨kb, i + 1, none⟩ (.pointer (some ⟨kid, 0, none⟩))) := hO5.out.setCell (.inl rfl) _
  have hE4 : EOK w4 ⟨b, eb1, eo1, cap1, ins i e xs⟩ := ⟨by rw [ins_length]; exact f1, ff, by rw [ins_length]; exact hle1, by unfold maxLen; exact hle2, fr, ft, fap, Nat.lt_of_lt_of_le (Nat.succ_pos _) hle1⟩
  have hneb : eb1 ≠ kb := by
    rcases HA.out.place with h | h
    · intro e; exact hne2 (by rw [← e, h.1])
    · intro e; have := h.1; simp at this; omega
  refine ⟨rfl, ⟨b, eb1, eo1, cap1, ins i e xs⟩, rfl, rfl, HA.out.place.elim (fun h => .inl h.1) (fun h => .inr (Nat.le_trans (by simp) h.1)), hE4.kept hO6 (fun h => hne1 h.symm) hneb, ?_, ?_⟩
  · exact (HO4.out.mono (G := fun k => k = b ∨ k = eb ∨ k = kb) (fun k _ h => h.elim .inl (fun h => .inr (.inl h)))).trans hO6 (fun k h => .inl (.inr (.inr h)))
  · refine ⟨hO6.cell (hw4.out.2.1) (fun h => hne1 h.symm), ?_, ?_, ?_⟩
    · rw [ptrs_kins]
      have := hr5.out
      rw [Nat.zero_add] at this
      exact this
    · exact World.there_setCells ht5.out kb (i + 1) [_]
    · simp [kins]; omega
end Go.Proofs.Ybulkcgwo.T
