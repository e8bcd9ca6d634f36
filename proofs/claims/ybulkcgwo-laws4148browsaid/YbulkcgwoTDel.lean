import Derived.Test.YbulkcgwoTSplit
namespace Go.Proofs.Ybulkcgwo.T
open Go.RowKit
set_option linter.unusedVariables false
set_option linter.unusedSimpArgs false

/-- taking out at a place -/
def del (i : Nat) (xs : List Int) : List Int := xs.take i ++ xs.drop (i + 1)
theorem del_length {i : Nat} {xs : List Int} (h : i < xs.length) : (del i xs).length = xs.length - 1 := by simp [del]; omega
def kdel (i : Nat) (ks : List Nat) : List Nat := ks.take i ++ ks.drop (i + 1)
theorem kdel_length {i : Nat} {ks : List Nat} (h : i < ks.length) : (kdel i ks).length = ks.length - 1 := by simp [kdel]; omega

/-- Behind the copy and the clear. -/
def Rm (w : World) (b eb eo cap n i : Nat) (xs : List Int) (v0 : Value) (w2 : World) : Prop :=
  w2.cell? ⟨b, 1, none⟩ = some (.slice (some ⟨eb, eo, none⟩) n cap) ∧ w2.cell? ⟨b, 0, none⟩ = some v0 ∧ w2.frozen? ⟨b, 1, none⟩ = false ∧ w2.rangeAt eb eo (ints (del i xs)) ∧ w2.there eb eo cap ∧ Only (fun k => k = eb) w w2
theorem rm_copied {w : World} {b eb eo cap i : Nat} {xs : List Int} {v0 : Value} (hE : EOK w ⟨b, eb, eo, cap, xs⟩) (h0 : w.cell? ⟨b, 0, none⟩ = some v0) (hi : i < xs.length) :
    Rm w b eb eo cap xs.length i xs v0 (w.drew.setCells eb (eo + i) (ints (xs.drop (i + 1)))) := by
  obtain ⟨hc, hf, hlen, hmax, hrow, hroom, hap, hpos⟩ := hE
  simp only at hc hf hlen hmax hrow hroom hap hpos
  refine ⟨cell_cells (by simpa using hc) _ _ _ (fun h => .inl (by have := hap h.symm; simp; omega)), cell_cells (by simpa using h0) _ _ _ (fun h => .inl (by have := hap h.symm; simp; omega)), by rw [World.frozen?_setCells]; simpa using hf, ?_, World.there_setCells ((World.there_drew _ _ _ _).2 hroom) _ _ _, Only.setCells (F := fun k => k = eb) (.inl rfl) _ _ (Only.refl _ _).drew⟩
  have hl : (ints (xs.take i)).length = i := by rw [ints_length, List.length_take]; omega
  have e : ints (del i xs) = ints (xs.take i) ++ ints (xs.drop (i + 1)) := by simp [ints, del]
  rw [e]
  refine range_append (World.rangeAt_setCells_apart ((World.rangeAt_drew _ _ _ _).2 ?_) _ _ _ (.inr (.inl (by omega)))) ?_
  · have := range_take hrow i
    rw [← ints_take] at this; exact this
  · rw [hl]
    exact World.rangeAt_setCells_same _ _ _ _ (there_from ((World.there_drew _ _ _ _).2 hroom) _ _ (by rw [ints_length, List.length_drop]; omega))
theorem rm_cleared {w w1 : World} {b eb eo cap i : Nat} {xs : List Int} {v0 : Value} (h : Rm w b eb eo cap xs.length i xs v0 w1) (hap : eb = b → 2 ≤ eo) (hi : i < xs.length) (vs : List Value) :
    Rm w b eb eo cap xs.length i xs v0 (w1.setCells eb (eo + (xs.length - 1)) vs) := by
  obtain ⟨c1, c0, cf, cr, ct, cO⟩ := h
  refine ⟨cell_cells c1 _ _ _ (fun h => .inl (by have := hap h.symm; simp; omega)), cell_cells c0 _ _ _ (fun h => .inl (by have := hap h.symm; simp; omega)), by rw [World.frozen?_setCells]; exact cf, ?_, World.there_setCells ct _ _ _, Only.setCells (F := fun k => k = eb) (.inl rfl) _ _ cO⟩
  exact World.rangeAt_setCells_apart cr _ _ _ (.inr (.inl (by rw [ints_length, del_length hi]; exact Nat.le_refl _)))
theorem rm_stored {w w2 : World} {b eb eo cap i : Nat} {xs : List Int} {v0 : Value} (h : Rm w b eb eo cap xs.length i xs v0 w2) (hE : EOK w ⟨b, eb, eo, cap, xs⟩) (hi : i < xs.length) :
    EOK (w2.setCell ⟨b, 1, none⟩ (.slice (some ⟨eb, eo, none⟩) (xs.length - 1) cap)) ⟨b, eb, eo, cap, del i xs⟩ ∧ (w2.setCell ⟨b, 1, none⟩ (.slice (some ⟨eb, eo, none⟩) (xs.length - 1) cap)).cell? ⟨b, 0, none⟩ = some v0 ∧ Only (fun k => k = b ∨ k = eb) w (w2.setCell ⟨b, 1, none⟩ (.slice (some ⟨eb, eo, none⟩) (xs.length - 1) cap)) := by
  obtain ⟨c1, c0, cf, cr, ct, cO⟩ := h
  obtain ⟨u1, u0, uf, ur, ut, uap, uO⟩ := upd_stored (n := xs.length - 1) cr ct c1 c0 cf hE.apart (cO.mono (G := fun k => k = b ∨ k = eb) (fun k _ h => .inr h))
  have hlen := hE.len
  simp only at hlen
  exact ⟨⟨by simp only; rw [del_length hi]; exact u1, uf, by simp only; rw [del_length hi]; omega, hE.max, ur, ut, hE.apart, hE.pos⟩, u0, uO⟩

theorem del_hn (xs : List Int) {i : Nat} (hi : i < xs.length) : (ints (xs.drop (i + 1))).length = Nat.min (xs.length - (i + 1)) (xs.length - i) := by
  rw [ints_length, List.length_drop]; exact (Nat.min_eq_left (by omega)).symm
theorem del_hpos {W : World} {eb eo cap : Nat} {xs : List Int} (hr : W.rangeAt eb eo (ints xs)) (hle : xs.length ≤ cap) {i : Nat} (hi : i < xs.length) :
    0 < (ints (xs.drop (i + 1))).length → cutA (some ⟨eb, eo, none⟩) cap i = some ⟨eb, eo + i, none⟩ ∧ ∃ ad, cutA (some ⟨eb, eo, none⟩) cap (i + 1) = some ad ∧ ∀ j v, (ints (xs.drop (i + 1)))[j]? = some v → W.cell? (ad.add j) = some v := by
  intro h0
  rw [ints_length, List.length_drop] at h0
  exact ⟨cutA_some (by omega), _, cutA_some (by omega), drop_src hr⟩

set_option maxHeartbeats 1000000 in
set_option maxRecDepth 100000 in
theorem removeAt_leaf (d : Nd) (i : Nat) (w : World) (hE : EOK w d) (hleaf : w.cell? ⟨d.b, 0, none⟩ = some (.pointer none)) (hi : i < d.xs.length) (hl : d.xs.length ≤ 1000) :
    Calls Yba.prog 57 #[.pointer (some ⟨d.b, 0, none⟩), .int .i64 i] w fun r w' => r = .returned (.tuple #[]) ∧ EOK w' ⟨d.b, d.eb, d.eo, d.cap, del i d.xs⟩ ∧ Only (fun k => k = d.b ∨ k = d.eb) w w' ∧ w'.cell? ⟨d.b, 0, none⟩ = some (.pointer none) := by
  obtain ⟨b, eb, eo, cap, xs⟩ := d
  have HE := hide hE
  have hw1 := hide (rm_copied hE hleaf hi)
  obtain ⟨hc, hf, hlen, hmax, hrow, hroom, hap, hpos⟩ := hE
  simp only at hc hf hlen hmax hrow hroom hap hpos hleaf hi hl hw1 ⊢
  have HR := hide hrow
  have HT := hide hroom
  clear hrow hroom
  have hwr : IntKind.i64.wrap ((i : Int) + 1) = (i : Int) + 1 := by simp only [IntKind.wrap_i64]; omega
  have hwr2 : IntKind.i64.wrap ((xs.length : Int) - 1) = (xs.length : Int) - 1 := by simp only [IntKind.wrap_i64]; omega
  have s1 := run_cut one23 (some ⟨eb, eo, none⟩) xs.length cap (i + 1) ((i : Int) + 1) (by omega) (by omega)
  have s2 := run_cut one23 (some ⟨eb, eo, none⟩) xs.length cap i (i : Int) rfl (by omega)
  go_enter Yba.func57, Yba.ntmps57
  go_wp2
  go_region_held3 (fun w' => w'.cell? ⟨b, 1, none⟩ = some (.slice (some ⟨eb, eo, none⟩) xs.length cap)) (first | exact (by simpa using hc) | exact cell_cells (by simpa using hc) _ _ _ (fun h => .inl (by have := hap h.symm; simp; omega))) ((refine step_cpy (t2 := 23) one23 rfl (.tmp 15) (.tmp 22) rfl _ _ _ _ _ _ eb (eo + i) (ints (xs.drop (i + 1))) rfl rfl ?_ ?_ ?_ (ints_one _) ?_; (exact del_hn xs hi); (exact del_hpos ((World.rangeAt_drew _ _ _ _).2 HR.out) hlen hi); (exact there_from ((World.there_drew _ _ _ _).2 HT.out) _ _ (by rw [ints_length, List.length_drop]; omega))))
  generalize (w.drew.setCells eb (eo + i) (ints (xs.drop (i + 1)))) = w1 at hw1 ⊢
  have n1 := hw1.out.1
  have n0 := hw1.out.2.1
  have nf := hw1.out.2.2.1
  have s3 := run_cut one23 (some ⟨eb, eo, none⟩) xs.length cap (xs.length - 1) ((xs.length : Int) - 1) (by omega) (by omega)
  rw [cutA_some (by omega)] at s3
  have s4 := run_cutTo one23 eb eo xs.length cap (xs.length - 1) ((xs.length : Int) - 1) (by omega) (by omega)
  have hone : xs.length - (xs.length - 1) = 1 := by omega
  rw [hone] at s3
  have hw2 := hide (rm_cleared hw1.out hap hi (List.replicate 1 (Value.int .i64 0)))
  clear s1 s2 hwr hc hf hleaf
  go_wp2_with (first
    | (refine wpList_clr one23 rfl (.tmp 30) rfl (some ⟨eb, eo + (xs.length - 1), none⟩) 1 _ eb (eo + (xs.length - 1)) rfl (fun _ => rfl) (there_from hw1.out.2.2.2.2.1 _ 1 (by omega)) ?_; generalize (w1.setCells eb (eo + (xs.length - 1)) (List.replicate 1 (Value.int .i64 0))) = w2 at hw2 ⊢; have m1 := hw2.out.1; have m0 := hw2.out.2.1; have mf := hw2.out.2.2.1; clear n1 n0 nf s3)
    | fail)
  go_end0
  obtain ⟨r1, r2, r3⟩ := rm_stored hw2.out HE.out hi
  exact ⟨rfl, r1, r3, r2⟩
end Go.Proofs.Ybulkcgwo.T
