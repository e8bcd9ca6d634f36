import Derived.Test.YbulkcgwoTTwoS
namespace Go.Proofs.Ybulkcgwo.T
open Go.RowKit
set_option linter.unusedVariables false

/-- A tree: none, a leaf, or a root over leaves. -/
abbrev Tree := Option (Nd ⊕ (Nd × Nat × List Nd))
def rootT : Tree → Option Addr
  | none => none
  | some (.inl d) => some ⟨d.b, 0, none⟩
  | some (.inr (d, _, _)) => some ⟨d.b, 0, none⟩
def flatT : Tree → List Int
  | none => []
  | some (.inl d) => d.xs
  | some (.inr (d, _, L)) => flatF (L.map Nd.xs) d.xs
def footT : Tree → Nat → Prop
  | none => fun _ => False
  | some (.inl d) => fun k => k = d.b ∨ k = d.eb
  | some (.inr (d, kb, L)) => twoFoot d kb L
/-- Sizes of a node below the root. -/
def Sized (L : List Nd) : Prop := ∀ n ∈ L, 62 ≤ n.xs.length ∧ n.xs.length ≤ 125
def TOK (w : World) : Tree → Prop
  | none => True
  | some (.inl d) => EOK w d ∧ w.cell? ⟨d.b, 0, none⟩ = some (.pointer none) ∧ d.xs.length ≤ 125 ∧ d.xs ≠ []
  | some (.inr (d, kb, L)) => Two w d kb L ∧ Sized L ∧ d.xs ≠ []

theorem TOK.kept {w w' : World} {t : Tree} (h : TOK w t) {F : Nat → Prop} (hO : Only F w w') (hF : ∀ k, footT t k → ¬ F k) : TOK w' t := by
  match t, h, hF with
  | none, _, _ => trivial
  | some (.inl d), h, hF => exact ⟨h.1.kept hO (hF _ (.inl rfl)) (hF _ (.inr rfl)), hO.cell h.2.1 (hF _ (.inl rfl)), h.2.2⟩
  | some (.inr (d, kb, L)), h, hF => exact ⟨h.1.kept hO hF, h.2⟩

theorem post_length : ∀ (S : List Int) (K : List (List Int)), K.length = S.length → (postF S K).length = S.length + (K.map List.length).sum
  | [], [], _ => rfl
  | [], _ :: _, h => by simp at h
  | _ :: _, [], h => by simp at h
  | s :: S, x :: K, h => by
    have := post_length S K (by simpa using h)
    simp only [postF, List.length_cons, List.length_append, this, List.map_cons, List.sum_cons]
    omega
theorem flat_length (K : List (List Int)) (S : List Int) (h : K.length = S.length + 1) : (flatF K S).length = S.length + (K.map List.length).sum := by
  cases K with
  | nil => simp at h
  | cons x K =>
    simp only [flatF, List.length_append, post_length S K (by simpa using h), List.map_cons, List.sum_cons]
    omega
theorem sum_ge : ∀ (K : List (List Int)) (c : Nat), (∀ x ∈ K, c ≤ x.length) → c * K.length ≤ (K.map List.length).sum
  | [], _, _ => by simp
  | x :: K, c, h => by
    have h1 := sum_ge K c (fun y hy => h y (by simp [hy]))
    have h2 := h x (by simp)
    simp only [List.map_cons, List.sum_cons, List.length_cons, Nat.mul_add, Nat.mul_one]
    omega
theorem two_small {w : World} {d : Nd} {kb : Nat} {L : List Nd} (hT : Two w d kb L) (hs : Sized L) (hn : (flatF (L.map Nd.xs) d.xs).length ≤ 5000) : d.xs.length ≤ 100 := by
  have h1 := flat_length (L.map Nd.xs) d.xs (by rw [List.length_map]; exact hT.len)
  have h2 := sum_ge (L.map Nd.xs) 62 (fun x hx => by
    obtain ⟨n, hn, rfl⟩ := List.mem_map.1 hx
    exact (hs n hn).1)
  rw [List.length_map, hT.len] at h2
  omega

/-- The pieces of a flat two-level tree at a leaf. -/
theorem flat_at {d : Nd} {L1 L2 : List Nd} {n : Nd} (hl : (L1 ++ ([n] ++ L2)).length = d.xs.length + 1) :
    flatF ((L1 ++ ([n] ++ L2)).map Nd.xs) d.xs = preF (L1.map Nd.xs) (d.xs.take L1.length) ++ (n.xs ++ postF (d.xs.drop L1.length) (L2.map Nd.xs)) := by
  have h1 : (L1.map Nd.xs).length = (d.xs.take L1.length).length := by simp at hl ⊢; omega
  have := flat_zoom (L1.map Nd.xs) (d.xs.take L1.length) n.xs (L2.map Nd.xs) (d.xs.drop L1.length) h1
  rw [List.take_append_drop] at this
  rw [← this]; simp

theorem sor_of_flat {lt : Int → Int → Prop} {A x B : List Int} (h : Sor lt (A ++ (x ++ B))) : Sor lt x := (List.pairwise_append.1 (List.pairwise_append.1 h).2.1).1
theorem sor_pre_sep {lt : Int → Int → Prop} : ∀ (K1 : List (List Int)) (S1 : List Int), K1.length = S1.length → Sor lt (preF K1 S1) → Sor lt S1
  | [], [], _, _ => List.Pairwise.nil
  | [], _ :: _, h, _ => by simp at h
  | _ :: _, [], h, _ => by simp at h
  | k1 :: K1, s1 :: S1, h, hs => by
    have hs' : Sor lt (k1 ++ s1 :: preF K1 S1) := hs
    obtain ⟨_, h2, _⟩ := List.pairwise_append.1 hs'
    obtain ⟨h4, h5⟩ := List.pairwise_cons.1 h2
    exact List.pairwise_cons.2 ⟨fun s hs => h4 s (mem_pre_sep K1 S1 (by simpa using h) s hs), sor_pre_sep K1 S1 (by simpa using h) h5⟩
theorem sor_post_sep {lt : Int → Int → Prop} : ∀ (S2 : List Int) (K2 : List (List Int)), K2.length = S2.length → Sor lt (postF S2 K2) → Sor lt S2
  | [], _, _, _ => List.Pairwise.nil
  | _ :: _, [], h, _ => by simp at h
  | s1 :: S1, k1 :: K1, h, hs => by
    have hs' : Sor lt (s1 :: (k1 ++ postF S1 K1)) := hs
    obtain ⟨h4, h5⟩ := List.pairwise_cons.1 hs'
    exact List.pairwise_cons.2 ⟨fun s hs => h4 s (by have := mem_post_sep S1 K1 (by simpa using h) s hs; simp [this]), sor_post_sep S1 K1 (by simpa using h) (List.pairwise_append.1 h5).2.1⟩
theorem sor_leaves {lt : Int → Int → Prop} {d : Nd} {L : List Nd} (hl : L.length = d.xs.length + 1) (hs : Sor lt (flatF (L.map Nd.xs) d.xs)) : ∀ n ∈ L, Sor lt n.xs := by
  intro n hn
  obtain ⟨i, hi⟩ := List.mem_iff_getElem?.1 hn
  obtain ⟨L1, L2, rfl, _⟩ := split_at hi
  rw [flat_at hl] at hs
  exact sor_of_flat hs
theorem mem_leaf_flat {d : Nd} {L1 L2 : List Nd} {n : Nd} (hl : (L1 ++ ([n] ++ L2)).length = d.xs.length + 1) {y : Int} (hy : y ∈ n.xs) : y ∈ flatF ((L1 ++ ([n] ++ L2)).map Nd.xs) d.xs := by
  rw [flat_at hl]; simp [hy]
theorem sor_seps {lt : Int → Int → Prop} {d : Nd} {L : List Nd} (hl : L.length = d.xs.length + 1) (hs : Sor lt (flatF (L.map Nd.xs) d.xs)) : Sor lt d.xs := by
  cases L with
  | nil => simp at hl
  | cons n L2 =>
    have hs' : Sor lt (n.xs ++ postF d.xs (L2.map Nd.xs)) := hs
    exact sor_post_sep d.xs (L2.map Nd.xs) (by simpa using hl) (List.pairwise_append.1 hs').2.1
theorem mem_sep_flat {d : Nd} {L : List Nd} (hl : L.length = d.xs.length + 1) {y : Int} (hy : y ∈ d.xs) : y ∈ flatF (L.map Nd.xs) d.xs := by
  cases L with
  | nil => simp at hl
  | cons n L2 =>
    show y ∈ n.xs ++ postF d.xs (L2.map Nd.xs)
    exact List.mem_append.2 (.inr (mem_post_sep d.xs (L2.map Nd.xs) (by simpa using hl) y hy))

/-- Where a seek that found nothing ends. -/
def SeekNo (lt : Int → Int → Prop) (pb : Nat) (x : Int) (w : World) : Tree → Prop
  | none => w.cell? ⟨pb, 22, none⟩ = some (.int .i64 0)
  | some (.inl d) => ∃ i, Found lt d.xs x i false ∧ Path1 w pb d.b i ∧ w.cell? ⟨pb, 22, none⟩ = some (.int .i64 1)
  | some (.inr (d, kb, L)) => ∃ L1 n L2 j, L = L1 ++ ([n] ++ L2) ∧ Found lt d.xs x L1.length false ∧ Found lt n.xs x j false ∧ Path1 w pb d.b L1.length ∧ w.cell? ⟨pb, 2, none⟩ = some (.pointer (some ⟨n.b, 0, none⟩)) ∧ w.cell? ⟨pb, 3, none⟩ = some (.int .i64 j) ∧ w.cell? ⟨pb, 22, none⟩ = some (.int .i64 2)

/-- What a seek leaves at all. -/
structure SeekW (o : Ords) (pb : Nat) (w w' : World) : Prop where
  inv : o.inv w'
  path : Path0 w' pb
  only : Only (fun k => k = pb ∨ o.foot k) w w'

/-- A tree in order that fits its ordering. -/
structure Fits (o : Ords) (w : World) (t : Tree) : Prop where
  ok : TOK w t
  sor : Sor o.lt (flatT t)
  inv : o.inv w
  apart : ∀ k, footT t k → ¬ o.reads k
  small : (flatT t).length ≤ 5000

theorem found_mem {lt : Int → Int → Prop} {xs : List Int} {x : Int} {i : Nat} (h : Found lt xs x i true) : x ∈ xs := by
  obtain ⟨h1, h2⟩ := h.hit.1 rfl
  rw [← h2]; exact getD_mem h1
theorem found_not {lt : Int → Int → Prop} (W : Whole lt) {xs : List Int} {x : Int} {i : Nat} (hs : Sor lt xs) (h : Found lt xs x i false) : x ∉ xs := by
  have := ins_not W (A := []) (B := []) hs (by simp) (by simp) h
  simpa using this

theorem seekT_no (o : Ords) (G : o.Good) (pb : Nat) (t : Tree) (x : Int) (w : World) (hP : Path0 w pb) (hF : Fits o w t) (hp : ¬ footT t pb) (hp3 : ¬ o.reads pb) (hx : x ∉ flatT t) :
    Calls Yba.prog 37 #[.pointer (some ⟨pb, 0, none⟩), .pointer (rootT t), .int .i64 x, o.searchV] w fun r w' => r = .returned (.bool false) ∧ SeekNo o.lt pb x w' t ∧ SeekW o pb w w' := by
  match t, hF, hp, hx with
  | none, hF, hp, hx =>
    refine (seek_nil pb x o.searchV w hP).mono ?_
    rintro r w' ⟨rfl, h22, hO, hP'⟩
    exact ⟨rfl, h22, ⟨G.kept _ _ _ hF.inv hO (fun k hk h => hp3 (h ▸ hk)), hP', hO.mono (fun k _ h => .inl h)⟩⟩
  | some (.inl d), hF, hp, hx =>
    obtain ⟨hE, h0, hl, _⟩ := hF.ok
    refine (seek_leaf o G pb d x w hP hE h0 hF.sor (by omega) hF.inv (hF.apart _ (.inr rfl)) (hF.apart _ (.inl rfl)) (fun h => hp (.inl h)) (fun h => hp (.inr h)) hp3).mono ?_
    rintro r w' ⟨i, f, rfl, hf, h1, h22, hP', hI, hO⟩
    cases f
    · exact ⟨rfl, ⟨i, hf, h1, h22⟩, ⟨hI, hP', hO⟩⟩
    · exact absurd (found_mem hf) hx
  | some (.inr (d, kb, L)), hF, hp, hx =>
    obtain ⟨hT, hsz, _⟩ := hF.ok
    have hfl : Sor o.lt (flatF (L.map Nd.xs) d.xs) := hF.sor
    refine (seek_two o G pb d kb L x w hP hT (sor_seps hT.len hfl) (fun n hn => ⟨sor_leaves hT.len hfl n hn, by have := (hsz n hn).2; omega⟩) (by have := two_small hT hsz hF.small; omega) hF.inv hF.apart hp hp3).mono ?_
    rintro r w' ⟨i, f0, hf0, h1, hP', hI, hO, h⟩
    rcases h with ⟨rfl, rfl, h22⟩ | ⟨rfl, n, j, f, hn, rfl, hf, h2, h3, h22⟩
    · exact absurd (mem_sep_flat hT.len (found_mem hf0)) hx
    · obtain ⟨L1, L2, rfl, rfl⟩ := split_at hn
      cases f
      · exact ⟨rfl, ⟨L1, n, L2, j, rfl, hf0, hf, h1, h2, h3, h22⟩, ⟨hI, hP', hO⟩⟩
      · exact absurd (mem_leaf_flat hT.len (found_mem hf)) hx

theorem seekT_yes (o : Ords) (G : o.Good) (pb : Nat) (t : Tree) (x : Int) (w : World) (hP : Path0 w pb) (hF : Fits o w t) (hp : ¬ footT t pb) (hp3 : ¬ o.reads pb) (hx : x ∈ flatT t) :
    Calls Yba.prog 37 #[.pointer (some ⟨pb, 0, none⟩), .pointer (rootT t), .int .i64 x, o.searchV] w fun r w' => r = .returned (.bool true) ∧ SeekW o pb w w' := by
  match t, hF, hp, hx with
  | none, hF, hp, hx => simp [flatT] at hx
  | some (.inl d), hF, hp, hx =>
    obtain ⟨hE, h0, hl, _⟩ := hF.ok
    refine (seek_leaf o G pb d x w hP hE h0 hF.sor (by omega) hF.inv (hF.apart _ (.inr rfl)) (hF.apart _ (.inl rfl)) (fun h => hp (.inl h)) (fun h => hp (.inr h)) hp3).mono ?_
    rintro r w' ⟨i, f, rfl, hf, h1, h22, hP', hI, hO⟩
    cases f
    · exact absurd hx (found_not G.W hF.sor hf)
    · exact ⟨rfl, ⟨hI, hP', hO⟩⟩
  | some (.inr (d, kb, L)), hF, hp, hx =>
    obtain ⟨hT, hsz, _⟩ := hF.ok
    have hfl : Sor o.lt (flatF (L.map Nd.xs) d.xs) := hF.sor
    refine (seek_two o G pb d kb L x w hP hT (sor_seps hT.len hfl) (fun n hn => ⟨sor_leaves hT.len hfl n hn, by have := (hsz n hn).2; omega⟩) (by have := two_small hT hsz hF.small; omega) hF.inv hF.apart hp hp3).mono ?_
    rintro r w' ⟨i, f0, hf0, h1, hP', hI, hO, h⟩
    rcases h with ⟨rfl, rfl, h22⟩ | ⟨rfl, n, j, f, hn, rfl, hf, h2, h3, h22⟩
    · exact ⟨rfl, ⟨hI, hP', hO⟩⟩
    · obtain ⟨L1, L2, rfl, rfl⟩ := split_at hn
      cases f
      · exfalso
        have hxx : x ∈ flatF ((L1 ++ ([n] ++ L2)).map Nd.xs) d.xs := hx
        rw [flat_at hT.len] at hxx hfl
        have hl := hT.len
        have hs := sides G.W (K1 := L1.map Nd.xs) (K2 := L2.map Nd.xs) (S1 := d.xs.take L1.length) (S2 := d.xs.drop L1.length) (x := n.xs) (e := x) (by simp at hl ⊢; omega) (by simp at hl ⊢; omega) hfl (by
          have e1 : (d.xs.take L1.length).length = L1.length := by simp at hl ⊢; omega
          rw [List.take_append_drop, e1]; exact hf0)
        exact ins_not G.W (sor_of_flat hfl) hs.1 hs.2 hf hxx
      · exact ⟨rfl, ⟨hI, hP', hO⟩⟩
end Go.Proofs.Ybulkcgwo.T
