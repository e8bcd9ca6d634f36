import Derived.Test.YbulkcgwoTSearch
import Derived.Test.YbulkcgwoTNode
namespace Go.Proofs.Ybulkcgwo.T
set_option linter.unusedVariables false

/-! The elements of a two-level tree: leaves K, separators S. -/
def postF : List Int → List (List Int) → List Int
  | s :: S, x :: K => s :: (x ++ postF S K)
  | _, _ => []
def flatF : List (List Int) → List Int → List Int
  | x :: K, S => x ++ postF S K
  | [], _ => []
def preF : List (List Int) → List Int → List Int
  | x :: K, s :: S => x ++ s :: preF K S
  | _, _ => []

theorem post_zoom : ∀ (K1 : List (List Int)) (S1 : List Int) (x : List Int) (K2 : List (List Int)) (s : Int) (S2 : List Int), K1.length = S1.length → postF (S1 ++ s :: S2) (K1 ++ x :: K2) = (match S1, K1 with | s1 :: S1', k1 :: K1' => s1 :: (preF (k1 :: K1') (S1' ++ [s])) ++ (x ++ postF S2 K2) | _, _ => s :: (x ++ postF S2 K2))
  | [], [], _, _, _, _, _ => by simp [postF]
  | [], _ :: _, _, _, _, _, h => by simp at h
  | _ :: _, [], _, _, _, _, h => by simp at h
  | k1 :: K1, s1 :: S1, x, K2, s, S2, h => by
    have h' : K1.length = S1.length := by simpa using h
    have ih := post_zoom K1 S1 x K2 s S2 h'
    simp only [List.cons_append, postF]
    rw [ih]
    cases S1 with
    | nil =>
      cases K1 with
      | nil => simp [preF]
      | cons _ _ => simp at h'
    | cons a S1' =>
      cases K1 with
      | nil => simp at h'
      | cons c K1' => simp [preF]

theorem flat_zoom : ∀ (K1 : List (List Int)) (S1 : List Int) (x : List Int) (K2 : List (List Int)) (S2 : List Int), K1.length = S1.length → flatF (K1 ++ x :: K2) (S1 ++ S2) = preF K1 S1 ++ (x ++ postF S2 K2)
  | [], [], _, _, _, _ => by simp [flatF, preF]
  | [], _ :: _, _, _, _, h => by simp at h
  | _ :: _, [], _, _, _, h => by simp at h
  | k1 :: K1, s1 :: S1, x, K2, S2, h => by
    have ih := flat_zoom K1 S1 x K2 S2 (by simpa using h)
    have e1 : flatF (k1 :: K1 ++ x :: K2) (s1 :: S1 ++ S2) = k1 ++ s1 :: flatF (K1 ++ x :: K2) (S1 ++ S2) := by
      cases K1 with
      | nil => simp [flatF, postF]
      | cons c K1' => simp [flatF, postF]
    rw [e1, ih]
    simp [preF]

/-- Every element of 'pre' is a separator or comes before one. -/
theorem pre_last {lt : Int → Int → Prop} : ∀ (K1 : List (List Int)) (S1 : List Int), K1.length = S1.length → Sor lt (preF K1 S1) → ∀ y ∈ preF K1 S1, y ∈ S1 ∨ ∃ s ∈ S1, lt y s
  | [], [], _, _, _, hy => by simp [preF] at hy
  | [], _ :: _, h, _, _, _ => by simp at h
  | _ :: _, [], h, _, _, _ => by simp at h
  | k1 :: K1, s1 :: S1, h, hs, y, hy => by
    have hs' : Sor lt (k1 ++ s1 :: preF K1 S1) := hs
    obtain ⟨h1, h2, h3⟩ := List.pairwise_append.1 hs'
    obtain ⟨h4, h5⟩ := List.pairwise_cons.1 h2
    have hy' : y ∈ k1 ++ s1 :: preF K1 S1 := hy
    rcases List.mem_append.1 hy' with hy1 | hy1
    · exact .inr ⟨s1, by simp, h3 y hy1 s1 (by simp)⟩
    · rcases List.mem_cons.1 hy1 with rfl | hy2
      · exact .inl (by simp)
      · rcases pre_last K1 S1 (by simpa using h) h5 y hy2 with h6 | ⟨s, hs, hl⟩
        · exact .inl (by simp [h6])
        · exact .inr ⟨s, by simp [hs], hl⟩
theorem mem_pre_sep : ∀ (K1 : List (List Int)) (S1 : List Int), K1.length = S1.length → ∀ s ∈ S1, s ∈ preF K1 S1
  | [], [], _, _, hy => by simp at hy
  | [], _ :: _, h, _, _ => by simp at h
  | _ :: _, [], h, _, _ => by simp at h
  | k1 :: K1, s1 :: S1, h, s, hs => by
    show s ∈ k1 ++ s1 :: preF K1 S1
    rcases List.mem_cons.1 hs with rfl | hs
    · simp
    · have := mem_pre_sep K1 S1 (by simpa using h) s hs
      simp [this]
/-- .. and of 'post'. -/
theorem post_first {lt : Int → Int → Prop} (S2 : List Int) (K2 : List (List Int)) (hs : Sor lt (postF S2 K2)) : ∀ y ∈ postF S2 K2, ∃ s S', S2 = s :: S' ∧ (y = s ∨ lt s y) := by
  cases S2 with
  | nil => intro y hy; simp [postF] at hy
  | cons s S' =>
    cases K2 with
    | nil => intro y hy; simp [postF] at hy
    | cons x K' =>
      intro y hy
      have hs' : Sor lt (s :: (x ++ postF S' K')) := hs
      obtain ⟨h1, _⟩ := List.pairwise_cons.1 hs'
      have hy' : y ∈ s :: (x ++ postF S' K') := hy
      rcases List.mem_cons.1 hy' with rfl | hy
      · exact ⟨_, _, rfl, .inl rfl⟩
      · exact ⟨_, _, rfl, .inr (h1 y hy)⟩
theorem mem_post_sep : ∀ (S2 : List Int) (K2 : List (List Int)), K2.length = S2.length → ∀ s ∈ S2, s ∈ postF S2 K2
  | [], _, _, _, hy => by simp at hy
  | _ :: _, [], h, _, _ => by simp at h
  | s1 :: S1, k1 :: K1, h, s, hs => by
    show s ∈ s1 :: (k1 ++ postF S1 K1)
    rcases List.mem_cons.1 hs with rfl | hs
    · simp
    · have := mem_post_sep S1 K1 (by simpa using h) s hs
      simp [this]

section
variable {lt : Int → Int → Prop}
theorem getD_mem {xs : List Int} {j : Nat} (h : j < xs.length) : xs.getD j 0 ∈ xs := by
  rw [List.getD_eq_getElem?_getD, List.getElem?_eq_getElem h]; exact List.getElem_mem h
theorem Found.take_lt {xs : List Int} {e : Int} {j : Nat} {f : Bool} (h : Found lt xs e j f) : ∀ y ∈ xs.take j, lt y e := by
  intro y hy
  obtain ⟨i, hi, rfl⟩ := List.mem_iff_getElem.1 hy
  have hi' : i < j := by rw [List.length_take] at hi; omega
  have := h.pre i hi'
  rw [List.getElem_take]
  simpa [List.getD_eq_getElem?_getD, List.getElem?_eq_getElem, show i < xs.length by have := h.le; omega] using this
theorem Found.drop_gt (W : Whole lt) {xs : List Int} {e : Int} {j : Nat} (hs : Sor lt xs) (h : Found lt xs e j false) : ∀ y ∈ xs.drop j, lt e y := by
  intro y hy
  obtain ⟨i, hi, rfl⟩ := List.mem_iff_getElem.1 hy
  have hi' : j + i < xs.length := by rw [List.length_drop] at hi; omega
  have hp := h.post (j + i) (by omega) hi'
  have hv : xs.getD (j + i) 0 = (xs.drop j)[i] := by
    rw [List.getElem_drop]; simp [List.getD_eq_getElem?_getD, hi']
  rw [← hv]
  rcases W.tri e (xs.getD (j + i) 0) with h1 | h1 | h1
  · exact h1
  · exfalso
    by_cases h0 : i = 0
    · subst h0
      have := h.hit.2 ⟨by omega, h1.symm⟩
      cases this
    · have h2 := hs.at (i := j) (j := j + i) (by omega) hi'
      rw [← h1] at h2
      exact h.post j (Nat.le_refl _) (by omega) h2
  · exact absurd h1 hp

/-- A place for e between A, x's parts and B. -/
theorem ins_sor (W : Whole lt) {A x B : List Int} {e : Int} {j : Nat} (hs : Sor lt (A ++ (x ++ B))) (hA : ∀ y ∈ A, lt y e) (hB : ∀ y ∈ B, lt e y) (hF : Found lt x e j false) :
    Sor lt (A ++ (ins j e x ++ B)) := by
  obtain ⟨a1, a2, a3⟩ := List.pairwise_append.1 hs
  obtain ⟨b1, b2, b3⟩ := List.pairwise_append.1 a2
  have hx : Sor lt x := b1
  have t1 := hF.take_lt
  have t2 := hF.drop_gt W hx
  have hxs : x = x.take j ++ x.drop j := (List.take_append_drop j x).symm
  rw [hxs] at b1
  obtain ⟨c1, c2, c3⟩ := List.pairwise_append.1 b1
  refine List.pairwise_append.2 ⟨a1, List.pairwise_append.2 ⟨List.pairwise_append.2 ⟨c1, List.pairwise_cons.2 ⟨t2, c2⟩, ?_⟩, b2, ?_⟩, ?_⟩
  · intro y hy z hz
    rcases List.mem_cons.1 hz with rfl | hz
    · exact t1 y hy
    · exact c3 y hy z hz
  · intro y hy z hz
    rcases List.mem_append.1 hy with hy | hy
    · exact b3 y (List.mem_of_mem_take hy) z hz
    · rcases List.mem_cons.1 hy with rfl | hy
      · exact hB z hz
      · exact b3 y (List.mem_of_mem_drop hy) z hz
  · intro y hy z hz
    rcases List.mem_append.1 hz with hz | hz
    · rcases List.mem_append.1 hz with hz | hz
      · exact a3 y hy z (List.mem_append.2 (.inl (List.mem_of_mem_take hz)))
      · rcases List.mem_cons.1 hz with rfl | hz
        · exact hA y hy
        · exact a3 y hy z (List.mem_append.2 (.inl (List.mem_of_mem_drop hz)))
    · exact a3 y hy z (List.mem_append.2 (.inr hz))
theorem ins_mem (x : List Int) (j : Nat) (e y : Int) : y ∈ ins j e x ↔ y = e ∨ y ∈ x := by
  unfold ins
  rw [List.mem_append, List.mem_cons]
  constructor
  · rintro (h | rfl | h)
    · exact .inr (List.mem_of_mem_take h)
    · exact .inl rfl
    · exact .inr (List.mem_of_mem_drop h)
  · rintro (rfl | h)
    · exact .inr (.inl rfl)
    · rw [← List.take_append_drop j x, List.mem_append] at h
      rcases h with h | h
      · exact .inl h
      · exact .inr (.inr h)
theorem ins_mem3 (A x B : List Int) (j : Nat) (e y : Int) : y ∈ A ++ (ins j e x ++ B) ↔ y = e ∨ y ∈ A ++ (x ++ B) := by
  simp only [List.mem_append, ins_mem]
  constructor
  · rintro (h | (h | h) | h)
    · exact .inr (.inl h)
    · exact .inl h
    · exact .inr (.inr (.inl h))
    · exact .inr (.inr (.inr h))
  · rintro (h | h | h | h)
    · exact .inr (.inl (.inl h))
    · exact .inl h
    · exact .inr (.inl (.inr h))
    · exact .inr (.inr h)
theorem ins_not (W : Whole lt) {A x B : List Int} {e : Int} {j : Nat} (hx : Sor lt x) (hA : ∀ y ∈ A, lt y e) (hB : ∀ y ∈ B, lt e y) (hF : Found lt x e j false) : e ∉ A ++ (x ++ B) := by
  intro h
  rcases List.mem_append.1 h with h | h
  · exact W.irr _ (hA e h)
  · rcases List.mem_append.1 h with h | h
    · rw [← List.take_append_drop j x, List.mem_append] at h
      rcases h with h | h
      · exact W.irr _ (hF.take_lt e h)
      · exact W.irr _ (hF.drop_gt W hx e h)
    · exact W.irr _ (hB e h)

/-- What lies ahead of the leaf, and what lies behind it. -/
theorem sides (W : Whole lt) {K1 K2 : List (List Int)} {S1 S2 : List Int} {x : List Int} {e : Int} (h1 : K1.length = S1.length) (h2 : K2.length = S2.length) (hs : Sor lt (preF K1 S1 ++ (x ++ postF S2 K2))) (hF : Found lt (S1 ++ S2) e S1.length false) :
    (∀ y ∈ preF K1 S1, lt y e) ∧ (∀ y ∈ postF S2 K2, lt e y) := by
  obtain ⟨a1, a2, a3⟩ := List.pairwise_append.1 hs
  obtain ⟨b1, b2, b3⟩ := List.pairwise_append.1 a2
  have t1 := hF.take_lt
  rw [List.take_left] at t1
  constructor
  · intro y hy
    rcases pre_last K1 S1 h1 a1 y hy with h | ⟨s, hs, hl⟩
    · exact t1 y h
    · exact W.tr _ _ _ hl (t1 s hs)
  · intro y hy
    obtain ⟨s, S', rfl, hys⟩ := post_first S2 K2 b2 y hy
    have hlt : lt e s := by
      have hp := hF.post S1.length (Nat.le_refl _) (by simp)
      have hv : (S1 ++ s :: S').getD S1.length 0 = s := by simp [List.getD_eq_getElem?_getD]
      rw [hv] at hp
      rcases W.tri e s with h | h | h
      · exact h
      · have := hF.hit.2 ⟨by simp, by rw [hv]; exact h.symm⟩
        cases this
      · exact absurd h hp
    rcases hys with rfl | h
    · exact hlt
    · exact W.tr _ _ _ hlt h

/-- Two lists in strict order with the same members are one. -/
theorem sor_ext (W : Whole lt) : ∀ (xs ys : List Int), Sor lt xs → Sor lt ys → (∀ y, y ∈ xs ↔ y ∈ ys) → xs = ys
  | [], [], _, _, _ => rfl
  | [], y :: ys, _, _, h => absurd ((h y).2 (by simp)) (by simp)
  | x :: xs, [], _, _, h => absurd ((h x).1 (by simp)) (by simp)
  | x :: xs, y :: ys, hx, hy, h => by
    obtain ⟨x1, x2⟩ := List.pairwise_cons.1 hx
    obtain ⟨y1, y2⟩ := List.pairwise_cons.1 hy
    have e : x = y := by
      rcases List.mem_cons.1 ((h x).1 (by simp)) with e | e
      · exact e
      · rcases List.mem_cons.1 ((h y).2 (by simp)) with e' | e'
        · exact e'.symm
        · exact absurd (W.tr _ _ _ (x1 y e') (y1 x e)) (W.irr _)
    subst e
    rw [sor_ext W xs ys x2 y2 (fun z => ⟨fun hz => by
      rcases List.mem_cons.1 ((h z).1 (by simp [hz])) with e | e
      · subst e; exact absurd (x1 z hz) (W.irr _)
      · exact e, fun hz => by
      rcases List.mem_cons.1 ((h z).2 (by simp [hz])) with e | e
      · subst e; exact absurd (y1 z hz) (W.irr _)
      · exact e⟩)]
end
end Go.Proofs.Ybulkcgwo.T
