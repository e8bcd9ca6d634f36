import Derived.Test.YbulkcgwoCSub
namespace Go.Proofs.Ybulkcgwo
open Go.RowKit Go.Maps

theorem info3 : (Yba.prog.info? 3).map (fun i => (i.zero, i.size, i.bytes)) = some (some (.int .i64 0), 1, 8) := by kernel_rfl

/-- The cells of a slice, where an append looks for them. -/
theorem Sl.cells {w : World} {a : Option Addr} {cap : Nat} {xs : List Int} (h : Sl w (.slice a xs.length cap) xs) : ∀ ad, a = some ad → ∀ j u, (xs.map (Value.int .i64))[j]? = some u → w.cell? (ad.add j) = some u := by
  intro ad ha j u hu
  obtain ⟨a', cap', e, hw, h⟩ := h
  cases e
  have hj : j < xs.length := by
    have := (List.getElem?_eq_some_iff.1 hu).1
    simpa using this
  rcases h with rfl | ⟨b, off, rfl, _, hc⟩
  · simp at hj
  · cases ha
    rw [Addr.add_lit, hc j hj]
    rw [← hu]
    simp [List.getD_eq_getElem?_getD, hj]

/-- A row of the call's own, as a slice of ints. -/
theorem Sl.of_own {w : World} {base g cap : Nat} {xs : List Int} (hw : ∀ n ∈ xs, (Lit.int .i64 n).wf = true) (h : w.ownsRow base 3 1 (.slice (some ⟨g, 0, none⟩) xs.length cap) xs.length (xs.map (Value.int .i64))) : Sl w (.slice (some ⟨g, 0, none⟩) xs.length cap) xs := by
  refine ⟨_, _, rfl, hw, .inr ⟨g, 0, rfl, (h.lt g rfl).2, fun j hj => ?_⟩⟩
  have := h.cellAt j (by omega)
  rw [Nat.zero_add, this]
  simp [List.getD_eq_getElem?_getD, hj]

theorem Sl.wf {w : World} {v : Value} {xs : List Int} (h : Sl w v xs) : ∀ n ∈ xs, (Lit.int .i64 n).wf = true := by
  obtain ⟨_, _, _, hw, _⟩ := h; exact hw

theorem allB_self (xs : List Int) : allB xs xs = true := (allB_iff _ _).2 fun _ h => h
theorem allB_more (xs ys : List Int) : allB xs (xs ++ ys) = true := (allB_iff _ _).2 fun _ h => List.mem_append.2 (.inl h)
theorem allB_grown (xs ys : List Int) : allB (xs ++ ys) xs = allB ys xs := by
  rw [Bool.eq_iff_iff, allB_iff, allB_iff]
  exact ⟨fun h y hy => h y (List.mem_append.2 (.inr hy)), fun h y hy => (List.mem_append.1 hy).elim id (h y)⟩

set_option maxHeartbeats 2000000 in
set_option maxRecDepth 100000 in
theorem grown_any (a0 a1 : Option Addr) (cap0 cap1 : Nat) (xs ys : List Int) (w : World) (hsx : Sl w (.slice a0 xs.length cap0) xs) (hsy : Sl w (.slice a1 ys.length cap1) ys) (hx : xs.length ≤ 1024) (hy : ys.length ≤ 1024)
    (hn0 : a0 = none → xs.length = 0 ∧ cap0 = 0) (hn1 : a1 = none → ys.length = 0 ∧ cap1 = 0) :
    Calls Yba.prog 8 #[.slice a0 xs.length cap0, .slice a1 ys.length cap1] w fun e w' => e = .returned (.bool true) ∧ Below w.heap.size w w' := by
  have HX := hide hsx
  have HY := hide hsy
  have HN0 := hide hn0
  have HN1 := hide hn1
  clear hsx hsy hn0 hn1
  obtain ⟨i0, hi, hz0, hz1, hz2⟩ := info_parts info3
  go_enter Yba.func8, Yba.ntmps8
  go_wp2_with (first
    | (at_make; refine wpList_make_own _ rfl _ _ 23 rfl w.heap.size 3 i0 (.int .i64 0) 1 Yba.underlying23 hi hz0 hz1 _ _ _ (xs.length + ys.length) rfl rfl (by omega) (by rw [hz2]; omega) (by unfold maxLen; omega) (Nat.le_refl _) ?_; intro w1 hown1 hg1)
    | (at_builtin; refine wpList_append_fits_any _ rfl (.tmp 22) (.tmp 23) 23 rfl w.heap.size 3 i0 1 Yba.underlying23 hi hz1 w.heap.size 0 (xs.length + ys.length) [] rfl hown1 a0 xs.length cap0 (xs.map (Value.int .i64)) rfl (by simp) HN0.out (HX.out.below ((Below.refl _ _).grown hg1 (Nat.le_refl _) (by simp))).cells (ints_oneCell _ _) (by omega) ?_; intro w2 hown2 hg2; simp only [Nat.zero_add, List.nil_append] at hown2)
    | (at_builtin; refine wpList_append_fits_any _ rfl (.tmp 25) (.tmp 26) 23 rfl w.heap.size 3 i0 1 Yba.underlying23 hi hz1 w.heap.size xs.length (xs.length + ys.length) _ rfl hown2 a1 ys.length cap1 (ys.map (Value.int .i64)) rfl (by simp) HN1.out (HY.out.below (((Below.refl _ _).grown hg1 (Nat.le_refl _) (by simp)).grown hg2 hg1.size (by simp))).cells (ints_oneCell _ _) (by omega) ?_; intro w3 hown3 hg3)
    | fail)
  have hb3 : Below w.heap.size w w3 := (((Below.refl _ _).grown hg1 (Nat.le_refl _) (by simp)).grown hg2 hg1.size (by simp)).grown hg3 (Nat.le_trans hg1.size hg2.size) (by simp)
  have HA3 : Hid (Sl w3 (.slice (some ⟨w.heap.size, 0, none⟩) (xs ++ ys).length (xs.length + ys.length)) (xs ++ ys)) := by
    refine Sl.of_own (base := w.heap.size) (fun n hn => (List.mem_append.1 hn).elim (HX.out.wf n) (HY.out.wf n)) ?_
    rw [List.length_append, List.map_append]
    exact hown3
  have HX3 := hide (HX.out.below hb3)
  have HY3 := hide (HY.out.below hb3)
  clear HX HY HN0 HN1 hown1 hown2 hown3 hg1 hg2 hg3
  refine (cmk_any _ xs _ HX3.out (by omega)).mono ?_
  rintro e w4 ⟨rfl, how4, hb4⟩
  have HS4 : Hid (IsSet w4 (.map (some w3.heap.size)) xs) := .inr ⟨_, _, rfl, how4⟩
  have HA4 := hide (HA3.out.below hb4)
  clear how4
  go_wp2_with fail
  rw [← List.length_append]
  refine (cmk_any _ (xs ++ ys) _ (by simpa using HA4.out) (by simp; omega)).mono ?_
  rintro e w5 ⟨rfl, how5, hb5⟩
  have HT5 : Hid (IsSet w5 (.map (some w4.heap.size)) (xs ++ ys)) := .inr ⟨_, _, rfl, how5⟩
  have HS5 := hide (HS4.out.below hb5)
  clear how5
  go_wp2_with fail
  refine (subset_any _ _ xs (xs ++ ys) _ HS5.out HT5.out).mono ?_
  rintro e w6 ⟨rfl, hb6⟩
  have HT6 := hide (HT5.out.below hb6)
  have HS6 := hide (HS5.out.below hb6)
  rw [allB_more]
  go_wp2_with fail
  refine (subset_any _ _ xs xs _ HS6.out HS6.out).mono ?_
  rintro e w7 ⟨rfl, hb7⟩
  have HT7 := hide (HT6.out.below hb7)
  have HS7 := hide (HS6.out.below hb7)
  rw [allB_self]
  go_wp2_with fail
  refine (subset_any _ _ (xs ++ ys) xs _ HT7.out HS7.out).mono ?_
  rintro e w8 ⟨rfl, hb8⟩
  have hb38 : Below w3.heap.size w3 w8 := (((hb4.trans (hb5.mono hb4.size)).trans (hb6.mono (Nat.le_trans hb4.size hb5.size))).trans (hb7.mono (Nat.le_trans (Nat.le_trans hb4.size hb5.size) hb6.size))).trans (hb8.mono (Nat.le_trans (Nat.le_trans (Nat.le_trans hb4.size hb5.size) hb6.size) hb7.size))
  have HX8 := hide (HX3.out.below hb38)
  have HY8 := hide (HY3.out.below hb38)
  rw [allB_grown]
  go_wp2_with fail
  refine (call_any _ _ ys xs _ HY8.out HX8.out (by omega) (by omega)).mono ?_
  rintro e w9 ⟨rfl, rfl⟩
  go_wp2
  go_ret
  exact ⟨rfl, hb3.trans (hb38.mono hb3.size)⟩
end Go.Proofs.Ybulkcgwo
