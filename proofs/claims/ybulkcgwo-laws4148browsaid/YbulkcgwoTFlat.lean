import Derived.Test.YbulkcgwoTLeaves
namespace Go.Proofs.Ybulkcgwo.T
open Go.RowKit
set_option linter.unusedVariables false
set_option linter.unusedSimpArgs false

/-- Leaves and separators in turn, the first k of them. -/
def upF (K : List (List Int)) (S : List Int) : Nat → List Int
  | 0 => []
  | k + 1 => upF K S k ++ (K.getD k [] ++ (if k < S.length then [S.getD k 0] else []))

theorem pre_snoc : ∀ (K : List (List Int)) (S : List Int) (x : List Int) (s : Int), K.length = S.length → preF (K ++ [x]) (S ++ [s]) = preF K S ++ (x ++ [s])
  | [], [], x, s, _ => by simp [preF]
  | [], _ :: _, _, _, h => by simp at h
  | _ :: _, [], _, _, h => by simp at h
  | k :: K, t :: S, x, s, h => by
    have := pre_snoc K S x s (by simpa using h)
    simp [preF, this]

theorem up_pre (K : List (List Int)) (S : List Int) (h : K.length = S.length + 1) : ∀ k, k ≤ S.length → upF K S k = preF (K.take k) (S.take k)
  | 0, _ => by simp [upF, preF]
  | k + 1, hk => by
    have h1 : k < K.length := by omega
    have h2 : k < S.length := by omega
    rw [upF, up_pre K S h k (by omega), if_pos h2, List.take_add_one, List.take_add_one, List.getElem?_eq_getElem h1, List.getElem?_eq_getElem h2]
    simp only [Option.toList_some]
    rw [pre_snoc _ _ _ _ (by simp; omega)]
    simp [List.getD_eq_getElem?_getD, h1, h2]

theorem up_flat (K : List (List Int)) (S : List Int) (h : K.length = S.length + 1) : upF K S K.length = flatF K S := by
  have h1 : S.length < K.length := by omega
  rw [h, upF, up_pre K S h S.length (Nat.le_refl _), if_neg (by omega)]
  have e : K = K.take S.length ++ K[S.length] :: [] := by
    have e2 : K.drop (S.length + 1) = [] := List.drop_eq_nil_of_le (by omega)
    rw [← e2, ← List.drop_eq_getElem_cons h1, List.take_append_drop]
  have := flat_zoom (K.take S.length) S K[S.length] [] [] (by simp; omega)
  rw [List.append_nil, ← e] at this
  rw [this]
  simp [postF, List.getD_eq_getElem?_getD, h1]

/-- A slice of ints that is our own. -/
def Buf (B : Nat) (w : World) (v : Value) (xs : List Int) : Prop := ∃ gb go gc, v = .slice (some ⟨gb, go, none⟩) xs.length gc ∧ w.rangeAt gb go (ints xs) ∧ w.there gb go gc ∧ xs.length ≤ gc ∧ gc ≤ maxLen ∧ B ≤ gb
theorem buf_app {B : Nat} {w w1 : World} {gb go gc g1 o1 c1 : Nat} {cells : List Value} {xs : List Int} (hA : App w gb go gc cells g1 o1 c1 w1) (hc : cells = ints xs) (h1 : B ≤ gb) (h2 : B ≤ w.heap.size) (n : Nat) (hn : n = xs.length) : Buf B w1 (.slice (some ⟨g1, o1, none⟩) n c1) xs := by
  subst hc
  refine ⟨g1, o1, c1, by rw [hn], hA.row, hA.room, by have := hA.le; rwa [ints_length] at this, hA.max, ?_⟩
  rcases hA.place with e | e
  · rw [e.1]; exact h1
  · exact Nat.le_trans h2 e.1
theorem only_app {F : Nat → Prop} {w0 w w1 : World} {gb go gc g1 o1 c1 : Nat} {cells : List Value} (hO : Only F w0 w) (hA : App w gb go gc cells g1 o1 c1 w1) (h1 : w0.heap.size ≤ gb) : Only F w0 w1 :=
  hO.trans hA.only (fun i h => .inr (by rw [h]; exact h1))
theorem ints_append (xs ys : List Int) : ints (xs ++ ys) = ints xs ++ ints ys := by simp [ints]
theorem src_of {w : World} {b o : Nat} {cs : List Value} (h : w.rangeAt b o cs) : ∀ j u, cs[j]? = some u → w.cell? ((⟨b, o, none⟩ : Addr).add j) = some u := by
  intro j u hj
  rw [Addr.add_lit]; exact h j u hj

theorem neq87 (w : World) : (binOp .neq 87 (.slice none 0 0) (.slice none 0 0)).run Yba.prog w = .ok (.bool false) w := by kernel_rfl

set_option maxHeartbeats 1000000 in
set_option maxRecDepth 100000 in
theorem bflat_any (B rb : Nat) (L : List Nd) (S : List Int) (n : Nat) (w : World) (hR : RowAt w B rb (L.map Nd.b) S) (hL : L.length = S.length + 1) (hs : L.length ≤ 200) (hn : n ≤ 100000)
    (hleaf : ∀ d ∈ L, EOK w d ∧ w.cell? ⟨d.b, 0, none⟩ = some (.pointer none) ∧ d.xs ≠ [] ∧ d.xs.length ≤ 125) :
    Calls Yba.prog 23 #[.pointer (some ⟨rb, 0, none⟩), .int .i64 n] w fun r w' => ∃ gb go gc, r = .returned (.tuple #[.slice (some ⟨gb, go, none⟩) (flatF (L.map Nd.xs) S).length gc, .bool true]) ∧ w'.rangeAt gb go (ints (flatF (L.map Nd.xs) S)) ∧ w'.there gb go gc ∧ w.heap.size ≤ gb ∧ Only (fun _ => False) w w' := by
  obtain ⟨nb, no, nc, eb, eo, ec, hR, b1, b2, b3⟩ := hR
  have c0 := hR.c0
  have c1 := hR.c1
  have c2 := hR.c2
  rw [List.length_map] at c0
  have HR := hide hR
  have HL := hide hleaf
  clear hR hleaf
  have hpos : L.length ≠ 0 := by omega
  have hp2 : ¬ ((L.length : Int) = 0) := by omega
  have hwr : IntKind.i64.wrap ((L.length : Int) - 1) = (S.length : Int) := by simp only [IntKind.wrap_i64]; omega
  have HLL := hide hL
  have s1 := run_mk one23 n (n : Int) rfl (by omega)
  have s2 := neq87
  have hrl : rb < w.heap.size := World.block_lt_of_cell? w _ c0
  have hel : eb < w.heap.size := HR.out.n2
  clear hL
  go_enter Yba.func23, Yba.ntmps23
  go_wp2_with fail
  refine wp_region_noPanic ?_
  refine wp_region_held_drew (S := fun w' => w'.cell? ⟨rb, 0, none⟩ = some (.slice (some ⟨nb, no, none⟩) L.length nc) ∧ w'.cell? ⟨rb, 1, none⟩ = some (.slice (some ⟨eb, eo, none⟩) S.length ec) ∧ w'.cell? ⟨rb, 2, none⟩ = some (.slice none 0 0)) (by kernel_rfl) ⟨by simpa using c0, by simpa using c1, by simpa using c2⟩ (fun hHeld => ?_)
  refine takeYes 0 (some 9) (.pointer (some ⟨rb, 0, none⟩)) (by kernel_rfl) (by kernel_rfl) (by kernel_rfl) (by kernel_rfl) (fun _ _ _ h => h) (by kernel_rfl) ?_ hHeld ?_
  · intro w' hSw; obtain ⟨y0, y1, y2⟩ := hSw; simp only [List.getElem?_toArray, List.getElem?_cons_zero, List.getElem?_cons_succ, Option.map_some]; go_simp
  simp only [Act.put, List.setIfInBounds_toArray, List.set_cons_zero, List.set_cons_succ]
  refine takeYes 1 (some 10) (.bool false) (by kernel_rfl) (by kernel_rfl) (by kernel_rfl) (by kernel_rfl) (fun _ _ _ h => h) (by kernel_rfl) ?_ hHeld ?_
  · intro w' hSw; obtain ⟨y0, y1, y2⟩ := hSw; simp only [List.getElem?_toArray, List.getElem?_cons_zero, List.getElem?_cons_succ, Option.map_some]; go_simp
  simp only [Act.put, List.setIfInBounds_toArray, List.set_cons_zero, List.set_cons_succ]
  refine takeYes 2 (some 11) (.bool false) (by kernel_rfl) (by kernel_rfl) (by kernel_rfl) (by kernel_rfl) (fun _ _ _ h => h) (by kernel_rfl) ?_ hHeld ?_
  · intro w' hSw; obtain ⟨y0, y1, y2⟩ := hSw; simp only [List.getElem?_toArray, List.getElem?_cons_zero, List.getElem?_cons_succ, Option.map_some]; go_simp
  simp only [Act.put, List.setIfInBounds_toArray, List.set_cons_zero, List.set_cons_succ]
  refine takeYes 3 (some 12) (.pointer (some ⟨rb, 0, none⟩)) (by kernel_rfl) (by kernel_rfl) (by kernel_rfl) (by kernel_rfl) (fun _ _ _ h => h) (by kernel_rfl) ?_ hHeld ?_
  · intro w' hSw; obtain ⟨y0, y1, y2⟩ := hSw; simp only [List.getElem?_toArray, List.getElem?_cons_zero, List.getElem?_cons_succ, Option.map_some]; go_simp
  simp only [Act.put, List.setIfInBounds_toArray, List.set_cons_zero, List.set_cons_succ]
  refine takeYes 4 (some 13) (.pointer (some ⟨rb, 0, none⟩)) (by kernel_rfl) (by kernel_rfl) (by kernel_rfl) (by kernel_rfl) (fun _ _ _ h => h) (by kernel_rfl) ?_ hHeld ?_
  · intro w' hSw; obtain ⟨y0, y1, y2⟩ := hSw; simp only [List.getElem?_toArray, List.getElem?_cons_zero, List.getElem?_cons_succ, Option.map_some]; go_simp
  simp only [Act.put, List.setIfInBounds_toArray, List.set_cons_zero, List.set_cons_succ]
  refine takeYes 5 (some 14) (.pointer (some ⟨rb, 0, none⟩)) (by kernel_rfl) (by kernel_rfl) (by kernel_rfl) (by kernel_rfl) (fun _ _ _ h => h) (by kernel_rfl) ?_ hHeld ?_
  · intro w' hSw; obtain ⟨y0, y1, y2⟩ := hSw; simp only [List.getElem?_toArray, List.getElem?_cons_zero, List.getElem?_cons_succ, Option.map_some]; go_simp
  simp only [Act.put, List.setIfInBounds_toArray, List.set_cons_zero, List.set_cons_succ]
  refine takeYes 6 (some 15) (.slice (some ⟨nb, no, none⟩) L.length nc) (by kernel_rfl) (by kernel_rfl) (by kernel_rfl) (by kernel_rfl) (fun _ _ _ h => h) (by kernel_rfl) ?_ hHeld ?_
  · intro w' hSw; obtain ⟨y0, y1, y2⟩ := hSw; simp only [List.getElem?_toArray, List.getElem?_cons_zero, List.getElem?_cons_succ, Option.map_some]; go_simp
  simp only [Act.put, List.setIfInBounds_toArray, List.set_cons_zero, List.set_cons_succ]
  refine takeYes 7 (some 16) (.int .i64 (L.length : Int)) (by kernel_rfl) (by kernel_rfl) (by kernel_rfl) (by kernel_rfl) (fun _ _ _ h => h) (by kernel_rfl) ?_ hHeld ?_
  · intro w' hSw; obtain ⟨y0, y1, y2⟩ := hSw; simp only [List.getElem?_toArray, List.getElem?_cons_zero, List.getElem?_cons_succ, Option.map_some]; go_simp
  simp only [Act.put, List.setIfInBounds_toArray, List.set_cons_zero, List.set_cons_succ]
  refine takeYes 8 (some 17) (.bool false) (by kernel_rfl) (by kernel_rfl) (by kernel_rfl) (by kernel_rfl) (fun _ _ _ h => h) (by kernel_rfl) ?_ hHeld ?_
  · intro w' hSw; obtain ⟨y0, y1, y2⟩ := hSw; simp only [List.getElem?_toArray, List.getElem?_cons_zero, List.getElem?_cons_succ, Option.map_some]; go_simp
  simp only [Act.put, List.setIfInBounds_toArray, List.set_cons_zero, List.set_cons_succ]
  refine takeYes 9 (some 18) (.bool false) (by kernel_rfl) (by kernel_rfl) (by kernel_rfl) (by kernel_rfl) (fun _ _ _ h => h) (by kernel_rfl) ?_ hHeld ?_
  · intro w' hSw; obtain ⟨y0, y1, y2⟩ := hSw; simp only [List.getElem?_toArray, List.getElem?_cons_zero, List.getElem?_cons_succ, Option.map_some]; go_simp
  simp only [Act.put, List.setIfInBounds_toArray, List.set_cons_zero, List.set_cons_succ]
  refine takeYes 10 (some 19) (.bool false) (by kernel_rfl) (by kernel_rfl) (by kernel_rfl) (by kernel_rfl) (fun _ _ _ h => h) (by kernel_rfl) ?_ hHeld ?_
  · intro w' hSw; obtain ⟨y0, y1, y2⟩ := hSw; simp only [List.getElem?_toArray, List.getElem?_cons_zero, List.getElem?_cons_succ, Option.map_some]; go_simp
  simp only [Act.put, List.setIfInBounds_toArray, List.set_cons_zero, List.set_cons_succ]
  refine takeYes 11 (some 20) (.pointer (some ⟨rb, 0, none⟩)) (by kernel_rfl) (by kernel_rfl) (by kernel_rfl) (by kernel_rfl) (fun _ _ _ h => h) (by kernel_rfl) ?_ hHeld ?_
  · intro w' hSw; obtain ⟨y0, y1, y2⟩ := hSw; simp only [List.getElem?_toArray, List.getElem?_cons_zero, List.getElem?_cons_succ, Option.map_some]; go_simp
  simp only [Act.put, List.setIfInBounds_toArray, List.set_cons_zero, List.set_cons_succ]
  refine takeYes 12 (some 21) (.pointer (some ⟨rb, 0, none⟩)) (by kernel_rfl) (by kernel_rfl) (by kernel_rfl) (by kernel_rfl) (fun _ _ _ h => h) (by kernel_rfl) ?_ hHeld ?_
  · intro w' hSw; obtain ⟨y0, y1, y2⟩ := hSw; simp only [List.getElem?_toArray, List.getElem?_cons_zero, List.getElem?_cons_succ, Option.map_some]; go_simp
  simp only [Act.put, List.setIfInBounds_toArray, List.set_cons_zero, List.set_cons_succ]
  refine takeYes 13 (some 22) (.pointer (some ⟨rb, 1, none⟩)) (by kernel_rfl) (by kernel_rfl) (by kernel_rfl) (by kernel_rfl) (fun _ _ _ h => h) (by kernel_rfl) ?_ hHeld ?_
  · intro w' hSw; obtain ⟨y0, y1, y2⟩ := hSw; simp only [List.getElem?_toArray, List.getElem?_cons_zero, List.getElem?_cons_succ, Option.map_some]; go_simp
  simp only [Act.put, List.setIfInBounds_toArray, List.set_cons_zero, List.set_cons_succ]
  refine takeYes 14 (some 23) (.slice (some ⟨eb, eo, none⟩) S.length ec) (by kernel_rfl) (by kernel_rfl) (by kernel_rfl) (by kernel_rfl) (fun _ _ _ h => h) (by kernel_rfl) ?_ hHeld ?_
  · intro w' hSw; obtain ⟨y0, y1, y2⟩ := hSw; simp only [List.getElem?_toArray, List.getElem?_cons_zero, List.getElem?_cons_succ, Option.map_some]; go_simp
  simp only [Act.put, List.setIfInBounds_toArray, List.set_cons_zero, List.set_cons_succ]
  refine takeYes 15 (some 24) (.int .i64 (S.length : Int)) (by kernel_rfl) (by kernel_rfl) (by kernel_rfl) (by kernel_rfl) (fun _ _ _ h => h) (by kernel_rfl) ?_ hHeld ?_
  · intro w' hSw; obtain ⟨y0, y1, y2⟩ := hSw; simp only [List.getElem?_toArray, List.getElem?_cons_zero, List.getElem?_cons_succ, Option.map_some]; go_simp
  simp only [Act.put, List.setIfInBounds_toArray, List.set_cons_zero, List.set_cons_succ]
  refine takeYes 16 (some 25) (.pointer (some ⟨rb, 0, none⟩)) (by kernel_rfl) (by kernel_rfl) (by kernel_rfl) (by kernel_rfl) (fun _ _ _ h => h) (by kernel_rfl) ?_ hHeld ?_
  · intro w' hSw; obtain ⟨y0, y1, y2⟩ := hSw; simp only [List.getElem?_toArray, List.getElem?_cons_zero, List.getElem?_cons_succ, Option.map_some]; go_simp
  simp only [Act.put, List.setIfInBounds_toArray, List.set_cons_zero, List.set_cons_succ]
  refine takeYes 17 (some 26) (.pointer (some ⟨rb, 0, none⟩)) (by kernel_rfl) (by kernel_rfl) (by kernel_rfl) (by kernel_rfl) (fun _ _ _ h => h) (by kernel_rfl) ?_ hHeld ?_
  · intro w' hSw; obtain ⟨y0, y1, y2⟩ := hSw; simp only [List.getElem?_toArray, List.getElem?_cons_zero, List.getElem?_cons_succ, Option.map_some]; go_simp
  simp only [Act.put, List.setIfInBounds_toArray, List.set_cons_zero, List.set_cons_succ]
  refine takeYes 18 (some 27) (.pointer (some ⟨rb, 0, none⟩)) (by kernel_rfl) (by kernel_rfl) (by kernel_rfl) (by kernel_rfl) (fun _ _ _ h => h) (by kernel_rfl) ?_ hHeld ?_
  · intro w' hSw; obtain ⟨y0, y1, y2⟩ := hSw; simp only [List.getElem?_toArray, List.getElem?_cons_zero, List.getElem?_cons_succ, Option.map_some]; go_simp
  simp only [Act.put, List.setIfInBounds_toArray, List.set_cons_zero, List.set_cons_succ]
  refine takeYes 19 (some 28) (.slice (some ⟨nb, no, none⟩) L.length nc) (by kernel_rfl) (by kernel_rfl) (by kernel_rfl) (by kernel_rfl) (fun _ _ _ h => h) (by kernel_rfl) ?_ hHeld ?_
  · intro w' hSw; obtain ⟨y0, y1, y2⟩ := hSw; simp only [List.getElem?_toArray, List.getElem?_cons_zero, List.getElem?_cons_succ, Option.map_some]; go_simp
  simp only [Act.put, List.setIfInBounds_toArray, List.set_cons_zero, List.set_cons_succ]
  refine takeYes 20 (some 29) (.int .i64 (L.length : Int)) (by kernel_rfl) (by kernel_rfl) (by kernel_rfl) (by kernel_rfl) (fun _ _ _ h => h) (by kernel_rfl) ?_ hHeld ?_
  · intro w' hSw; obtain ⟨y0, y1, y2⟩ := hSw; simp only [List.getElem?_toArray, List.getElem?_cons_zero, List.getElem?_cons_succ, Option.map_some]; go_simp
  simp only [Act.put, List.setIfInBounds_toArray, List.set_cons_zero, List.set_cons_succ]
  refine takeYes 21 (some 30) (.int .i64 (S.length : Int)) (by kernel_rfl) (by kernel_rfl) (by kernel_rfl) (by kernel_rfl) (fun _ _ _ h => h) (by kernel_rfl) ?_ hHeld ?_
  · intro w' hSw; obtain ⟨y0, y1, y2⟩ := hSw; simp only [List.getElem?_toArray, List.getElem?_cons_zero, List.getElem?_cons_succ, Option.map_some]; go_simp
  simp only [Act.put, List.setIfInBounds_toArray, List.set_cons_zero, List.set_cons_succ]
  refine takeYes 22 (some 31) (.bool false) (by kernel_rfl) (by kernel_rfl) (by kernel_rfl) (by kernel_rfl) (fun _ _ _ h => h) (by kernel_rfl) ?_ hHeld ?_
  · intro w' hSw; obtain ⟨y0, y1, y2⟩ := hSw; simp only [List.getElem?_toArray, List.getElem?_cons_zero, List.getElem?_cons_succ, Option.map_some]; go_simp
  simp only [Act.put, List.setIfInBounds_toArray, List.set_cons_zero, List.set_cons_succ]
  refine takeYes 23 (some 32) (.bool false) (by kernel_rfl) (by kernel_rfl) (by kernel_rfl) (by kernel_rfl) (fun _ _ _ h => h) (by kernel_rfl) ?_ hHeld ?_
  · intro w' hSw; obtain ⟨y0, y1, y2⟩ := hSw; simp only [List.getElem?_toArray, List.getElem?_cons_zero, List.getElem?_cons_succ, Option.map_some]; go_simp
  simp only [Act.put, List.setIfInBounds_toArray, List.set_cons_zero, List.set_cons_succ]
  refine takeYes 24 (some 33) (.bool false) (by kernel_rfl) (by kernel_rfl) (by kernel_rfl) (by kernel_rfl) (fun _ _ _ h => h) (by kernel_rfl) ?_ hHeld ?_
  · intro w' hSw; obtain ⟨y0, y1, y2⟩ := hSw; simp only [List.getElem?_toArray, List.getElem?_cons_zero, List.getElem?_cons_succ, Option.map_some]; go_simp
  simp only [Act.put, List.setIfInBounds_toArray, List.set_cons_zero, List.set_cons_succ]
  refine takeYes 25 (some 34) (.pointer (some ⟨rb, 0, none⟩)) (by kernel_rfl) (by kernel_rfl) (by kernel_rfl) (by kernel_rfl) (fun _ _ _ h => h) (by kernel_rfl) ?_ hHeld ?_
  · intro w' hSw; obtain ⟨y0, y1, y2⟩ := hSw; simp only [List.getElem?_toArray, List.getElem?_cons_zero, List.getElem?_cons_succ, Option.map_some]; go_simp
  simp only [Act.put, List.setIfInBounds_toArray, List.set_cons_zero, List.set_cons_succ]
  refine takeYes 26 (some 35) (.pointer (some ⟨rb, 0, none⟩)) (by kernel_rfl) (by kernel_rfl) (by kernel_rfl) (by kernel_rfl) (fun _ _ _ h => h) (by kernel_rfl) ?_ hHeld ?_
  · intro w' hSw; obtain ⟨y0, y1, y2⟩ := hSw; simp only [List.getElem?_toArray, List.getElem?_cons_zero, List.getElem?_cons_succ, Option.map_some]; go_simp
  simp only [Act.put, List.setIfInBounds_toArray, List.set_cons_zero, List.set_cons_succ]
  refine takeYes 27 (some 36) (.pointer (some ⟨rb, 2, none⟩)) (by kernel_rfl) (by kernel_rfl) (by kernel_rfl) (by kernel_rfl) (fun _ _ _ h => h) (by kernel_rfl) ?_ hHeld ?_
  · intro w' hSw; obtain ⟨y0, y1, y2⟩ := hSw; simp only [List.getElem?_toArray, List.getElem?_cons_zero, List.getElem?_cons_succ, Option.map_some]; go_simp
  simp only [Act.put, List.setIfInBounds_toArray, List.set_cons_zero, List.set_cons_succ]
  refine takeYes 28 (some 37) (.slice none 0 0) (by kernel_rfl) (by kernel_rfl) (by kernel_rfl) (by kernel_rfl) (fun _ _ _ h => h) (by kernel_rfl) ?_ hHeld ?_
  · intro w' hSw; obtain ⟨y0, y1, y2⟩ := hSw; simp only [List.getElem?_toArray, List.getElem?_cons_zero, List.getElem?_cons_succ, Option.map_some]; go_simp
  simp only [Act.put, List.setIfInBounds_toArray, List.set_cons_zero, List.set_cons_succ]
  refine takeYes 29 (some 38) (.bool false) (by kernel_rfl) (by kernel_rfl) (by kernel_rfl) (by kernel_rfl) (fun _ _ _ h => h) (by kernel_rfl) ?_ hHeld ?_
  · intro w' hSw; obtain ⟨y0, y1, y2⟩ := hSw; simp only [List.getElem?_toArray, List.getElem?_cons_zero, List.getElem?_cons_succ, Option.map_some]; go_simp
  simp only [Act.put, List.setIfInBounds_toArray, List.set_cons_zero, List.set_cons_succ]
  refine takeYes 30 (some 39) (.bool false) (by kernel_rfl) (by kernel_rfl) (by kernel_rfl) (by kernel_rfl) (fun _ _ _ h => h) (by kernel_rfl) ?_ hHeld ?_
  · intro w' hSw; obtain ⟨y0, y1, y2⟩ := hSw; simp only [List.getElem?_toArray, List.getElem?_cons_zero, List.getElem?_cons_succ, Option.map_some]; go_simp
  simp only [Act.put, List.setIfInBounds_toArray, List.set_cons_zero, List.set_cons_succ]
  refine wpAnyH_done (by kernel_rfl) ?_ _
  refine NoPanic.normal ?_
  clear hHeld
  go_wp2
  go_loopw [47, 6] (fun i g wr => ∃ k : Nat, k ≤ L.length ∧ i = .int .i64 k ∧ Buf w.heap.size wr g (upF (L.map Nd.xs) S k) ∧ (upF (L.map Nd.xs) S k).length ≤ 126 * k ∧ Only (fun _ => False) w wr) (fun i _ _ => L.length - (intOf i).toNat)
  case atStart => exact ⟨0, Nat.zero_le _, rfl, ⟨w.heap.size, 0, n, rfl, fun j v hv => by simp [upF, ints] at hv, (World.there_drew _ _ _ _).2 (made_there one23 n w), Nat.zero_le _, by unfold maxLen; omega, Nat.le_refl _⟩, by simp [upF], ((Only.refl _ _).alloc _).drew⟩
  case round =>
    obtain ⟨k, hk, rfl, ⟨gb, go, gc, rfl, hrow, hroom, hle, hmax, hgb⟩, hlen, hO⟩ := hrel
    have HO := hide hO
    have HRow := hide hrow
    have HRoom := hide hroom
    clear hO hrow hroom
    by_cases hkl : k < L.length
    · have hq : L[k]? = some L[k] := List.getElem?_eq_getElem hkl
      have hmem : L[k] ∈ L := List.getElem_mem hkl
      have hU : upF (L.map Nd.xs) S (k + 1) = upF (L.map Nd.xs) S k ++ (L[k].xs ++ (if k < S.length then [S.getD k 0] else [])) := by
        rw [upF]; simp [List.getD_eq_getElem?_getD, hq]
      have hck : wr.cell? ⟨nb, no + k, none⟩ = some (.pointer (some ⟨L[k].b, 0, none⟩)) := HO.out.cell (HR.out.nr k _ (by simp [ptrs, ptr, hq])) (fun h => h)
      obtain ⟨e1, e2, e3, e4⟩ := HL.out _ hmem
      generalize L[k] = q at hck e1 e2 e3 e4 hU
      obtain ⟨qb, qe, qo, qc, qx⟩ := q
      simp only at hck e1 e2 e3 e4 hU
      have f1 := HO.out.cell e1.cell (fun h => h)
      have f0 := HO.out.cell e2 (fun h => h)
      have FR := hide (HO.out.range e1.row (fun h => h))
      simp only at f1 FR
      have hqx : ¬ ((qx.length : Int) = 0) := by have := List.length_pos_iff.2 e3; omega
      have c1k := HO.out.cell c1 (fun h => h)
      have c0k := HO.out.cell c0 (fun h => h)
      have hsz : w.heap.size ≤ wr.heap.size := HO.out.size
      have HU := hide hU
      generalize upF (L.map Nd.xs) S k = U at HU HRow hle hlen ⊢
      clear hU hq hmem e1 e2 e3 c0 c1 c2 s1 s2
      have i1 : (k : Int) < (L.length : Int) := by omega
      by_cases hks : k < S.length
      · have hsk : wr.cell? ⟨eb, eo + k, none⟩ = some (.int .i64 (S.getD k 0)) := HO.out.cell (range_at HR.out.er (k := k) hks) (fun h => h)
        have hU2 := HU.out
        rw [if_pos hks] at hU2
        generalize S.getD k 0 = y at hsk hU2
        have HU2 := hide hU2
        clear hU2
        have i2 : (k : Int) < (S.length : Int) := by omega
        go_wp2_with (first
          | (at_builtin; refine wpList_app one23 rfl (.tmp 69) (.tmp 73) rfl gb go U.length gc (ints U) rfl (ints_length _) HRow.out HRoom.out hle hmax ⟨qe, qo, none⟩ qx.length qc (ints qx) rfl (ints_length _) (src_of FR.out) (ints_one _) (by omega) ?_; intro g1 o1 k1 w1 hA1; have HA1 := hide hA1; have O1 := hide (only_app HO.out hA1 hgb); have d1 := hA1.only.cell c1k (show ¬ rb = gb by omega); have d2 := hA1.only.cell hsk (show ¬ eb = gb by omega); have l1 := hA1.le; have m1 := hA1.max; rw [List.length_append, ints_length, ints_length] at l1; clear hA1)
          | (at_builtin; refine wpList_app one23 rfl (.tmp 82) (.tmp 90) rfl g1 o1 (U.length + qx.length) k1 (ints U ++ ints qx) rfl (by rw [List.length_append, ints_length, ints_length]) (World.rangeAt_alloc HA1.out.row _) (World.there_alloc HA1.out.room _) l1 m1 ⟨w1.heap.size, 0, none⟩ 1 1 [.int .i64 y] rfl rfl (new_one _ _ _) (one_one _) (by omega) ?_; intro g2 o2 k2 w2 hA2; have HA2 := hide hA2; clear hA2)
          | fail)
        have hg1 : w.heap.size ≤ g1 := HA1.out.place.elim (fun e => by omega) (fun e => by omega)
        refine ⟨⟨k + 1, by omega, by simp, ?_, ?_, ?_⟩, by simp [intOf]; omega⟩
        · rw [HU2.out]
          exact buf_app HA2.out (by rw [ints_append, ints_append, List.append_assoc]; rfl) hg1 (by have := O1.out.size; simp; omega) _ (by simp; omega)
        · rw [HU2.out]; simp; omega
        · exact only_app (O1.out.alloc _) HA2.out hg1
      · have hU2 := HU.out
        rw [if_neg hks, List.append_nil] at hU2
        have HU2 := hide hU2
        clear hU2
        have i2 : ¬ ((k : Int) < (S.length : Int)) := by omega
        go_wp2_with (first
          | (at_builtin; refine wpList_app one23 rfl (.tmp 69) (.tmp 73) rfl gb go U.length gc (ints U) rfl (ints_length _) HRow.out HRoom.out hle hmax ⟨qe, qo, none⟩ qx.length qc (ints qx) rfl (ints_length _) (src_of FR.out) (ints_one _) (by omega) ?_; intro g1 o1 k1 w1 hA1; have HA1 := hide hA1; have O1 := hide (only_app HO.out hA1 hgb); have d1 := hA1.only.cell c1k (show ¬ rb = gb by omega); clear hA1)
          | fail)
        refine ⟨⟨k + 1, by omega, by simp, ?_, ?_, O1.out⟩, by simp [intOf]; omega⟩
        · rw [HU2.out]
          exact buf_app HA1.out (by rw [ints_append]) hgb hsz _ (by simp)
        · rw [HU2.out]; simp; omega
    · have e : k = L.length := by omega
      subst e
      have HF := hide (up_flat (L.map Nd.xs) S (by simpa using HLL.out))
      rw [List.length_map] at HF
      go_wp2
      go_ret2
      rw [← HF.out]
      exact ⟨gb, go, gc, rfl, HRow.out, HRoom.out, hgb, HO.out⟩
end Go.Proofs.Ybulkcgwo.T
