import Derived.Test.YbulkcgwoTFlat
import Derived.Test.YbulkcgwoTShelf
import Derived.Lib.SortBridge
namespace Go.Proofs.Ybulkcgwo.T
open Go.RowKit Go.Sort
set_option linter.unusedVariables false
set_option linter.unusedSimpArgs false

theorem only_grow {F : Nat → Prop} {a w : World} (h : Only F a w) (os : Array Obj) : Only F a (grow w os) :=
  ⟨h.os, h.tape, h.output, Nat.le_trans h.size (by simp [grow]), fun k hk hF => by
    rw [← h.block k hk hF]
    have := h.size
    simp only [grow]
    rw [Array.getElem?_append_left (by omega)]⟩

theorem cells_of {w : World} {b o : Nat} {zs : List Int} (h : w.rangeAt b o (ints zs)) : ∀ j, j < zs.length → w.cell? ⟨b, o + j, none⟩ = some (.int .i64 (zs.getD j 0)) := fun j hj => range_at h hj

theorem sort_at (gb go gc : Nat) (xs : List Int) (w : World) (hr : w.rangeAt gb go (ints xs)) (ht : w.there gb go gc) (hle : xs.length ≤ gc) (hpos : 0 < gc) (hb : xs.length ≤ 100000) :
    Calls Yba.prog 20 #[.slice (some ⟨gb, go, none⟩) xs.length gc] w fun r w' => r = .returned (.tuple #[]) ∧ w'.rangeAt gb go (ints (xs.mergeSort fun x y => decide (x ≤ y))) ∧ w'.there gb go gc ∧ Only (fun k => k = gb) w w' := by
  have hH := Lib.holds_of_ints (n := xs.length) (Nat.le_refl _) (cells_of hr) (fun j hj => (ht j (by omega)).2)
  rw [List.take_length] at hH
  refine (Yba.slices_Sort_int gb go gc xs w hH (there_lt ht hpos) (by omega)).mono ?_
  rintro r w' ⟨rfl, n, os, rfl⟩
  rw [Lib.sorted_world _ w gb go n _ _ os hH (by simp)]
  have hl : (ints (xs.mergeSort fun x y => decide (x ≤ y))).length ≤ gc := by rw [ints_length]; simpa using hle
  have hO : Only (fun k => k = gb) w ((w.drewN n).setCells gb go (ints (xs.mergeSort fun x y => decide (x ≤ y)))) := Only.setCells (F := fun k => k = gb) (.inl rfl) _ _ ((Only.refl _ _).drewN n)
  have hg : Only (fun _ => False) ((w.drewN n).setCells gb go (ints (xs.mergeSort fun x y => decide (x ≤ y)))) (grow ((w.drewN n).setCells gb go (ints (xs.mergeSort fun x y => decide (x ≤ y)))) os) := only_grow (Only.refl _ _) os
  refine ⟨rfl, hg.range (World.rangeAt_setCells_same _ _ _ _ (there_mono ht hl)) (fun h => h), hg.there (World.there_setCells (w := w.drewN n) ht _ _ _) (fun h => h), only_grow hO os⟩

theorem compact_at (gb go gc : Nat) (xs : List Int) (w : World) (hr : w.rangeAt gb go (ints xs)) (ht : w.there gb go gc) (hle : xs.length ≤ gc) (hb : xs.length ≤ 100000) :
    Calls Yba.prog 21 #[.slice (some ⟨gb, go, none⟩) xs.length gc] w fun r w' => r = .returned (.slice (some ⟨gb, go, none⟩) (Lib.compact xs).length gc) ∧ w'.rangeAt gb go (ints (Lib.compact xs)) ∧ w'.there gb go gc ∧ Only (fun k => k = gb) w w' := by
  refine (Yba.slices_Compact_int_cells gb go xs.length gc xs w (Nat.le_refl _) (by omega) hle (cells_of hr) (fun j hj => (ht j (by omega)).2)).mono ?_
  rintro r w' ⟨rfl, n, rfl⟩
  rw [List.take_length]
  have hcl := Lib.compact_length_le xs
  refine ⟨rfl, ?_, World.there_setCells (w := w.drewN n) ht _ _ _, Only.setCells (F := fun k => k = gb) (.inl rfl) _ _ ((Only.refl _ _).drewN n)⟩
  have h1 := World.rangeAt_setCells_same (w.drewN n) gb go ((Lib.compact xs ++ List.replicate (xs.length - (Lib.compact xs).length) 0).map (Value.int .i64)) (there_mono ht (by simp; omega))
  have := range_take h1 (Lib.compact xs).length
  simpa [ints, List.take_append_of_le_length] using this

theorem reverse_at (gb go gc : Nat) (xs : List Int) (w : World) (hr : w.rangeAt gb go (ints xs)) (ht : w.there gb go gc) (hle : xs.length ≤ gc) (hb : xs.length ≤ 100000) :
    Calls Yba.prog 27 #[.slice (some ⟨gb, go, none⟩) xs.length gc] w fun r w' => r = .returned (.tuple #[]) ∧ w'.rangeAt gb go (ints xs.reverse) ∧ w'.there gb go gc ∧ Only (fun k => k = gb) w w' := by
  refine (Yba.slices_Reverse_int_cells gb go xs.length gc xs w (Nat.le_refl _) (by omega) (cells_of hr) (fun j hj => (ht j (by omega)).2)).mono ?_
  rintro r w' ⟨rfl, n, rfl⟩
  rw [List.take_length]
  refine ⟨rfl, World.rangeAt_setCells_same (w.drewN n) gb go _ (there_mono ht (by simp; omega)), World.there_setCells (w := w.drewN n) ht _ _ _, Only.setCells (F := fun k => k = gb) (.inl rfl) _ _ ((Only.refl _ _).drewN n)⟩

theorem equal_at (b1 o1 c1 b2 o2 c2 : Nat) (xs ys : List Int) (w : World) (h1 : w.rangeAt b1 o1 (ints xs)) (h2 : w.rangeAt b2 o2 (ints ys)) (l1 : xs.length ≤ 100000) (l2 : ys.length ≤ 100000) (he : xs = ys) :
    Calls Yba.prog 13 #[.slice (some ⟨b1, o1, none⟩) xs.length c1, .slice (some ⟨b2, o2, none⟩) ys.length c2] w fun r w' => r = .returned (.bool true) ∧ ∃ q, w' = w.drewN q := by
  refine (Yba.slices_Equal_int b1 o1 xs.length c1 b2 o2 ys.length c2 xs ys w (Nat.le_refl _) (Nat.le_refl _) (by omega) (by omega) (cells_of h1) (cells_of h2)).mono ?_
  rintro r w' ⟨rfl, q, rfl⟩
  subst he
  exact ⟨by simp, q, rfl⟩

theorem compact_up (zs : List Int) (hs : zs.Pairwise (· ≤ ·)) : ∀ m, m ≤ zs.length → (Lib.compactUpTo zs.toArray m).Pairwise (· < ·) ∧ ∀ y, y ∈ Lib.compactUpTo zs.toArray m ↔ ∃ j, j < m ∧ zs.getD j 0 = y
  | 0, _ => by simp [Lib.compactUpTo]
  | m + 1, hm => by
    obtain ⟨ih1, ih2⟩ := compact_up zs hs m (by omega)
    have hget : ∀ j, j < zs.length → (zs.toArray)[j]! = zs.getD j 0 := by
      intro j hj
      simp [List.getD_eq_getElem?_getD, hj]
    have hord : ∀ i j, i < j → j < zs.length → zs.getD i 0 ≤ zs.getD j 0 := by
      intro i j hij hj
      have := List.pairwise_iff_getElem.1 hs i j (by omega) hj hij
      simpa [List.getD_eq_getElem?_getD, hj, show i < zs.length by omega] using this
    rw [Lib.compactUpTo_succ]
    by_cases hk : Lib.keeps zs.toArray m = true
    · rw [if_pos hk, hget m (by omega)]
      have hlt : ∀ j, j < m → zs.getD j 0 < zs.getD m 0 := by
        intro j hj
        have hne : zs.getD m 0 ≠ zs.getD (m - 1) 0 := by
          intro e
          have := Lib.keeps_neg (d := zs.toArray) (m := m) (by omega) (by rw [hget m (by omega), hget (m - 1) (by omega)]; exact e)
          rw [this] at hk; cases hk
        have h1 : zs.getD (m - 1) 0 ≤ zs.getD m 0 := hord (m - 1) m (by omega) (by omega)
        by_cases e : j = m - 1
        · subst e; omega
        · have := hord j (m - 1) (by omega) (by omega); omega
      refine ⟨List.pairwise_append.2 ⟨ih1, by simp, fun a ha b hb => ?_⟩, fun y => ?_⟩
      · obtain ⟨j, hj, rfl⟩ := (ih2 a).1 ha
        simp only [List.mem_singleton] at hb
        subst hb
        exact hlt j hj
      · rw [List.mem_append, ih2]
        constructor
        · rintro (⟨j, hj, rfl⟩ | h)
          · exact ⟨j, by omega, rfl⟩
          · simp only [List.mem_singleton] at h
            exact ⟨m, by omega, h.symm⟩
        · rintro ⟨j, hj, rfl⟩
          by_cases e : j = m
          · subst e; exact .inr (by simp)
          · exact .inl ⟨j, by omega, rfl⟩
    · rw [if_neg hk, List.append_nil]
      refine ⟨ih1, fun y => ?_⟩
      rw [ih2]
      constructor
      · rintro ⟨j, hj, rfl⟩; exact ⟨j, by omega, rfl⟩
      · rintro ⟨j, hj, rfl⟩
        by_cases e : j = m
        · subst e
          have hj0 : 0 < j := by
            rcases Nat.eq_zero_or_pos j with h | h
            · subst h; exact absurd (Lib.keeps_lt_one zs.toArray 0 (by omega)) hk
            · exact h
          refine ⟨j - 1, by omega, ?_⟩
          by_cases e2 : zs.getD j 0 = zs.getD (j - 1) 0
          · exact e2.symm
          · exact absurd (Lib.keeps_pos (d := zs.toArray) (m := j) (by rw [hget j (by omega), hget (j - 1) (by omega)]; exact e2)) hk
        · exact ⟨j, by omega, rfl⟩

theorem compact_sorted (zs : List Int) : Sor (fun a b => a < b) (Lib.compact (zs.mergeSort fun x y => decide (x ≤ y))) ∧ ∀ y, y ∈ Lib.compact (zs.mergeSort fun x y => decide (x ≤ y)) ↔ y ∈ zs := by
  have hs : (zs.mergeSort fun x y => decide (x ≤ y)).Pairwise (· ≤ ·) := by
    have := List.pairwise_mergeSort (le := fun x y : Int => decide (x ≤ y)) (fun a b c h1 h2 => by simp at *; omega) (fun a b => by simp; omega) zs
    simpa using this
  obtain ⟨h1, h2⟩ := compact_up _ hs _ (Nat.le_refl _)
  refine ⟨h1, fun y => ?_⟩
  unfold Lib.compact
  rw [h2, ← List.mem_mergeSort (le := fun x y : Int => decide (x ≤ y)) (l := zs), List.mem_iff_getElem]
  constructor
  · rintro ⟨j, hj, rfl⟩
    exact ⟨j, hj, by rw [List.getD_eq_getElem?_getD, List.getElem?_eq_getElem hj]; rfl⟩
  · rintro ⟨j, hj, rfl⟩
    exact ⟨j, hj, by rw [List.getD_eq_getElem?_getD, List.getElem?_eq_getElem hj]; rfl⟩

theorem rev_gt {xs : List Int} (h : Sor (fun a b => a < b) xs) : Sor (fun a b => b < a) xs.reverse := List.pairwise_reverse.2 h
end Go.Proofs.Ybulkcgwo.T
