import Derived.Test.YbulkcgwoTDel
namespace Go.Proofs.Ybulkcgwo.T
open Go.RowKit
set_option linter.unusedVariables false
set_option linter.unusedSimpArgs false

theorem kdel_hn (ks : List Nat) {n i : Nat} (hl : ks.length = n + 1) (hi : i < n) (hn : n ≤ 125) : (ptrs (ks.drop (i + 2))).length = Nat.min (n + 1 - (i + 2)) (127 - (i + 1)) := by
  rw [ptrs_length, List.length_drop, hl]; exact (Nat.min_eq_left (by omega)).symm
theorem kdel_hn2 (ks : List Nat) {n i : Nat} (hl : ks.length = n + 1) (hi : i < n) (hn : n ≤ 125) : (ptrs (ks.drop (i + 2))).length = Nat.min (n - (i + 1)) (126 - i) := by
  rw [ptrs_length, List.length_drop, hl, show n + 1 - (i + 2) = n - (i + 1) by omega]; exact (Nat.min_eq_left (by omega)).symm
theorem kdel_hpos {W : World} {kb : Nat} {ks : List Nat} {n i : Nat} (hr : W.rangeAt kb 0 (ptrs ks)) (hl : ks.length = n + 1) (hi : i < n) (hn : n ≤ 125) :
    0 < (ptrs (ks.drop (i + 2))).length → cutA (some ⟨kb, 0, none⟩) 127 (i + 1) = some ⟨kb, 0 + (i + 1), none⟩ ∧ ∃ ad, cutA (some ⟨kb, 0, none⟩) 127 (i + 2) = some ad ∧ ∀ j v, (ptrs (ks.drop (i + 2)))[j]? = some v → W.cell? (ad.add j) = some v := by
  intro h0
  rw [ptrs_length, List.length_drop] at h0
  refine ⟨cutA_some (by omega), _, cutA_some (by omega), fun j v hv => ?_⟩
  rw [Addr.add_lit, Nat.add_assoc]
  rw [ptrs_drop, List.getElem?_drop] at hv
  exact hr (i + 2 + j) v hv
theorem range_kdel {w : World} {kb : Nat} {ks : List Nat} {n i : Nat} (hr : w.rangeAt kb 0 (ptrs ks)) (ht : w.there kb 0 127) (hl : ks.length = n + 1) (hi : i < n) (hn : n ≤ 125) :
    (w.setCells kb (0 + (i + 1)) (ptrs (ks.drop (i + 2)))).rangeAt kb 0 (ptrs (kdel (i + 1) ks)) := by
  have h1 : (ptrs (ks.take (i + 1))).length = i + 1 := by rw [ptrs_length, List.length_take]; omega
  have e : ptrs (kdel (i + 1) ks) = ptrs (ks.take (i + 1)) ++ ptrs (ks.drop (i + 2)) := by simp [ptrs, kdel]
  have e2 : ptrs (ks.take (i + 1)) = (ptrs ks).take (i + 1) := by simp [ptrs, List.map_take]
  rw [e]
  refine range_append (World.rangeAt_setCells_apart (e2 ▸ range_take hr (i + 1)) _ _ _ (.inr (.inl (by omega)))) ?_
  rw [h1]
  exact World.rangeAt_setCells_same _ _ _ _ (there_from ht _ _ (by rw [ptrs_length, List.length_drop]; omega))

set_option maxHeartbeats 2000000 in
set_option maxRecDepth 100000 in
theorem removeAt_inner (d : Nd) (kb : Nat) (ks : List Nat) (i : Nat) (w : World) (hE : EOK w d) (hK : KOK w d.b kb ks) (hne1 : kb ≠ d.b) (hne2 : kb ≠ d.eb) (hks : ks.length = d.xs.length + 1) (hi : i < d.xs.length) (hl : d.xs.length ≤ 125) :
    Calls Yba.prog 57 #[.pointer (some ⟨d.b, 0, none⟩), .int .i64 i] w fun r w' => r = .returned (.tuple #[]) ∧ EOK w' ⟨d.b, d.eb, d.eo, d.cap, del i d.xs⟩ ∧ Only (fun k => k = d.b ∨ k = d.eb ∨ k = kb) w w' ∧ KOK w' d.b kb (kdel (i + 1) ks) := by
  obtain ⟨b, eb, eo, cap, xs⟩ := d
  have HE := hide hE
  have hK0 := hide hK
  have hkb := hK.lt.2
  have hleaf := hK.cell
  have hw1 := hide (rm_copied hE hleaf hi)
  obtain ⟨hc, hf, hlen, hmax, hrow, hroom, hap, hpos⟩ := hE
  clear hK
  simp only at hc hf hlen hmax hrow hroom hap hpos hleaf hi hl hw1 hne1 hne2 hks ⊢
  have HR := hide hrow
  have HT := hide hroom
  clear hrow hroom
  have hwr : IntKind.i64.wrap ((i : Int) + 1) = (i : Int) + 1 := by simp only [IntKind.wrap_i64]; omega
  have hwr2 : IntKind.i64.wrap ((xs.length : Int) - 1) = (xs.length : Int) - 1 := by simp only [IntKind.wrap_i64]; omega
  have s1 := run_cut one23 (some ⟨eb, eo, none⟩) xs.length cap (i + 1) ((i : Int) + 1) (by omega) (by omega)
  have s2 := run_cut one23 (some ⟨eb, eo, none⟩) xs.length cap i (i : Int) rfl (by omega)
  go_enter Yba.func57, Yba.ntmps57
  go_wp2
  go_region_held3 (fun w' => w'.cell? ⟨b, 1, none⟩ = some (.slice (some ⟨eb, eo, none⟩) xs.length cap)) (first | exact (by simpa using hc) | exact cell_cells (by simpa using hc) _ _ _ (fun h => .inl (by have := hap h.symm; simp; omega))) ((refine step_cpy (t2 := 23) one23 rfl (.tmp 15) (.tmp 22) rfl _ _ _ _ _ _ eb (eo + i) (ints (xs.drop (i + 1))) rfl rfl ?_ ?_ ?_ (ints_one _) ?_; (exact del_hn xs hi); (exact del_hpos ((World.rangeAt_drew _ _ _ _).2 HR.out) hlen hi); (exact there_from ((World.there_drew _ _ _ _).2 HT.out) _ _ (by rw [ints_length, List.length_drop]; omega))))
  generalize (w.drew.setCells eb (eo + i) (ints (xs.drop (i + 1)))) = w1 at hw1 ⊢
  have n1 := hw1.out.1
  have n0 := hw1.out.2.1
  have nf := hw1.out.2.2.1
  have s3 := run_cut one23 (some ⟨eb, eo, none⟩) xs.length cap (xs.length - 1) ((xs.length : Int) - 1) (by omega) (by omega)
  rw [cutA_some (by omega)] at s3
  have s4 := run_cutTo one23 eb eo xs.length cap (xs.length - 1) ((xs.length : Int) - 1) (by omega) (by omega)
  have hone : xs.length - (xs.length - 1) = 1 := by omega
  rw [hone] at s3
  have hw2 := hide (rm_cleared hw1.out hap hi (List.replicate 1 (Value.int .i64 0)))
  clear s1 s2 hc hf hleaf
  have hv2 : IntKind.i64.wrap ((i : Int) + 2) = (i : Int) + 2 := by simp only [IntKind.wrap_i64]; omega
  have hv4 : IntKind.i64.wrap ((xs.length : Int) + 1) = (xs.length : Int) + 1 := by simp only [IntKind.wrap_i64]; omega
  have s1 := run_acut kb (i + 1) ((i : Int) + 1) (by omega) (by omega)
  have s2 := run_acut2 kb (i + 2) (xs.length + 1) ((i : Int) + 2) ((xs.length : Int) + 1) (by omega) (by omega) (by omega) (by omega)
  go_wp2_with (first
    | (refine wpList_clr one23 rfl (.tmp 30) rfl (some ⟨eb, eo + (xs.length - 1), none⟩) 1 _ eb (eo + (xs.length - 1)) rfl (fun _ => rfl) (there_from hw1.out.2.2.2.2.1 _ 1 (by omega)) ?_; generalize (w1.setCells eb (eo + (xs.length - 1)) (List.replicate 1 (Value.int .i64 0))) = w2 at hw2 ⊢; have m1 := hw2.out.1; have m0 := hw2.out.2.1; have mf := hw2.out.2.2.1; clear n1 n0 nf s3)
    | fail)
  have hO2 := hide hw2.out.2.2.2.2.2
  have KR := hide (hO2.out.range hK0.out.row hne2)
  have KT := hide (hO2.out.there hK0.out.room hne2)
  go_region_held3 (fun w' => w'.cell? ⟨b, 0, none⟩ = some (.pointer (some ⟨kb, 0, none⟩))) (first | exact (by simpa using m0) | exact cell_cells (by simpa using m0) _ _ _ (fun h => absurd h.symm hne1)) ((refine step_cpy (t2 := 87) one87 rfl (.tmp 43) (.tmp 53) rfl _ _ _ _ _ _ kb (0 + (i + 1)) (ptrs (ks.drop (i + 2))) rfl rfl ?_ ?_ ?_ (ptrs_one _) ?_; (first | exact kdel_hn ks hks hi hl | exact kdel_hn2 ks hks hi hl); (exact kdel_hpos ((World.rangeAt_drew _ _ _ _).2 KR.out) hks hi hl); (exact there_from ((World.there_drew _ _ _ _).2 KT.out) _ _ (by rw [ptrs_length, List.length_drop]; omega))))
  have hr5 := hide (range_kdel ((World.rangeAt_drew _ _ _ _).2 KR.out) ((World.there_drew _ _ _ _).2 KT.out) hks hi hl)
  have ht5 := hide (World.there_setCells ((World.there_drew _ _ _ _).2 KT.out) kb (0 + (i + 1)) (ptrs (ks.drop (i + 2))))
  have hO5 : Hid (Only (fun k => k = kb) w2 (w2.drew.setCells kb (0 + (i + 1)) (ptrs (ks.drop (i + 2))))) := Only.setCells (F := fun k => k = kb) (.inl rfl) _ _ (Only.refl _ _).drew
  generalize (w2.drew.setCells kb (0 + (i + 1)) (ptrs (ks.drop (i + 2)))) = w5 at hr5 ht5 hO5 ⊢
  have hbl : b < w2.heap.size := World.block_lt_of_cell? w2 ⟨b, 0, none⟩ m0
  have p0 : w5.cell? ⟨b, 0, none⟩ = some (.pointer (some ⟨kb, 0, none⟩)) := hO5.out.cell m0 (fun h => hne1 h.symm)
  have p1 : w5.cell? ⟨b, 1, none⟩ = some (.slice (some ⟨eb, eo, none⟩) xs.length cap) := hO5.out.cell m1 (fun h => hne1 h.symm)
  have pf : w5.frozen? ⟨b, 1, none⟩ = false := (hO5.out.frozen (p := ⟨b, 1, none⟩) hbl (fun h => hne1 h.symm)).trans mf
  obtain ⟨u5, hu5⟩ := Option.isSome_iff_exists.1 (ht5.out xs.length (by omega)).1
  have hf5 := (ht5.out xs.length (by omega)).2
  rw [Nat.zero_add] at hu5 hf5
  have j0 : (xs.length : Int) < 127 := by omega
  clear s1 s2 hv2 hv4 m0 m1 mf
  go_wp2
  go_end0
  have hO6 : Only (fun k => k = kb) w2 (w5.setCell ⟨kb, xs.length, none⟩ (.pointer none)) := hO5.out.setCell (.inl rfl) _
  have hO7 : Only (fun k => k = b ∨ k = eb ∨ k = kb) w (w5.setCell ⟨kb, xs.length, none⟩ (.pointer none)) := (hO2.out.mono (G := fun k => k = b ∨ k = eb ∨ k = kb) (fun k _ h => .inr (.inl h))).trans hO6 (fun k h => .inl (.inr (.inr h)))
  have hneb : eb ≠ kb := fun e => hne2 e.symm
  have hnb : b ≠ kb := fun e => hne1 e.symm
  obtain ⟨u1, u0, uf, ur, ut, uap, uO⟩ := upd_stored (w := w5.setCell ⟨kb, xs.length, none⟩ (.pointer none)) (n := xs.length - 1) (cap1 := cap) (eb := eb) (hO6.range hw2.out.2.2.2.1 hneb) (hO6.there hw2.out.2.2.2.2.1 hneb) (hO6.cell hw2.out.1 hnb) (hO6.cell hw2.out.2.1 hnb) ((hO6.frozen (p := ⟨b, 1, none⟩) hbl hnb).trans hw2.out.2.2.1) hap (Only.refl _ _)
  refine ⟨rfl, ⟨by simp only; rw [del_length hi]; exact u1, uf, by simp only; rw [del_length hi]; omega, hmax, ur, ut, hap, hpos⟩, hO7.trans uO (fun k h => .inl (h.elim .inl (fun h => .inr (.inl h)))), ⟨u0, ?_, ?_, ?_⟩⟩
  · refine uO.range (World.rangeAt_setCells_apart hr5.out kb xs.length [_] (.inr (.inl (by rw [ptrs_length, kdel_length (by omega)]; omega)))) (fun h => h.elim hne1 hne2)
  · exact uO.there (World.there_setCells ht5.out kb xs.length [_]) (fun h => h.elim hne1 hne2)
  · rw [kdel_length (by omega)]; omega
end Go.Proofs.Ybulkcgwo.T
