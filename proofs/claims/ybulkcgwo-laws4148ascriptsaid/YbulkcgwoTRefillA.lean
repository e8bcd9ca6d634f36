import Derived.Test.YbulkcgwoTRefill
namespace Go.Proofs.Ybulkcgwo.T
open Go.RowKit
set_option linter.unusedVariables false
set_option linter.unusedSimpArgs false

theorem list_at (xs : List Int) {i : Nat} (h : i < xs.length) : xs = xs.take i ++ xs.getD i 0 :: xs.drop (i + 1) := by
  rw [List.getD_eq_getElem?_getD, List.getElem?_eq_getElem h]
  simp only [Option.getD_some]
  rw [← List.drop_eq_getElem_cons h, List.take_append_drop]
theorem set_at (xs : List Int) {i : Nat} (h : i < xs.length) (z : Int) : xs.set i z = xs.take i ++ z :: xs.drop (i + 1) := by
  rw [List.set_eq_take_append_cons_drop, if_pos h]
theorem flat_pair (K1 : List (List Int)) (S1 : List Int) (x y : List Int) (K2 : List (List Int)) (s : Int) (S2 : List Int) (h : K1.length = S1.length) : flatF (K1 ++ (x :: y :: K2)) (S1 ++ s :: S2) = preF K1 S1 ++ (x ++ s :: (y ++ postF S2 K2)) := by
  rw [flat_zoom K1 S1 x (y :: K2) (s :: S2) h]; rfl

/-- What a refill leaves, in all. -/
def RefW (d : Nd) (kb : Nat) (L : List Nd) (w w' : World) : Prop :=
  ∃ (d' : Nd) (L' : List Nd), d'.b = d.b ∧ Two w' d' kb L' ∧ flatF (L'.map Nd.xs) d'.xs = flatF (L.map Nd.xs) d.xs ∧ Sized L' ∧ (∀ k, twoFoot d' kb L' k → twoFoot d kb L k ∨ w.heap.size ≤ k) ∧ Only (twoFoot d kb L) w w'

theorem last_split (xs : List Int) (h : 0 < xs.length) : xs = del (xs.length - 1) xs ++ [xs.getD (xs.length - 1) 0] := by
  have h1 := list_at xs (i := xs.length - 1) (by omega)
  have h2 : xs.drop (xs.length - 1 + 1) = [] := List.drop_eq_nil_of_le (by omega)
  unfold del
  rw [h2, List.append_nil]
  rw [h2] at h1
  exact h1
theorem first_split (xs : List Int) (h : 0 < xs.length) : xs = xs.getD 0 0 :: del 0 xs := by
  have h1 := list_at xs (i := 0) h
  simpa [del] using h1

theorem refill_any (d : Nd) (kb : Nat) (L1 : List Nd) (n : Nd) (L2 : List Nd) (w : World) (hT : Two w d kb (L1 ++ ([n] ++ L2))) (hn : n.xs.length = 61) (h1 : Sized L1) (h2 : Sized L2) (hl : d.xs.length ≤ 125) (h0 : 0 < d.xs.length) :
    Calls Yba.prog 58 #[.pointer (some ⟨d.b, 0, none⟩), .int .i64 ((L1.length : Nat) : Int)] w fun e w' => e = .returned (.tuple #[]) ∧ RefW d kb (L1 ++ ([n] ++ L2)) w w' := by
  have hlen := hT.len
  -- the pair at a place
  have pair : ∀ (A : List Nd) (p q : Nd) (B : List Nd), (A ++ ([p, q] ++ B)).length = d.xs.length + 1 → A.length < d.xs.length ∧ flatF ((A ++ ([p, q] ++ B)).map Nd.xs) d.xs = preF (A.map Nd.xs) (d.xs.take A.length) ++ (p.xs ++ d.xs.getD A.length 0 :: (q.xs ++ postF (d.xs.drop (A.length + 1)) (B.map Nd.xs))) := by
    intro A p q B hAB
    have hA : A.length < d.xs.length := by simp at hAB; omega
    refine ⟨hA, ?_⟩
    have hk : (A.map Nd.xs).length = (d.xs.take A.length).length := by simp; omega
    have := flat_pair (A.map Nd.xs) (d.xs.take A.length) p.xs q.xs (B.map Nd.xs) (d.xs.getD A.length 0) (d.xs.drop (A.length + 1)) hk
    rw [← list_at d.xs hA] at this
    rw [← this]; simp
  have fin : ∀ (A N B M : List Nd) (xs' : List Int) (w' : World), A ++ (N ++ B) = L1 ++ ([n] ++ L2) → TwoRef d kb A N B M xs' w w' → flatF ((A ++ (M ++ B)).map Nd.xs) xs' = flatF ((L1 ++ ([n] ++ L2)).map Nd.xs) d.xs → Sized (A ++ (M ++ B)) → RefW d kb (L1 ++ ([n] ++ L2)) w w' := by
    rintro A N B M xs' w' hE ⟨d', t1, t2, t3, t4, t5, t6⟩ hF hS
    rw [hE] at t5 t6
    exact ⟨d', _, t1, t3, by rw [t4]; exact hF, hS, t5, t6⟩
  have finJ : ∀ (A : List Nd) (l r : Nd) (B : List Nd) (w' : World), A ++ ([l, r] ++ B) = L1 ++ ([n] ++ L2) → TwoJoin d kb A l r B w w' → Sized A → Sized B → l.xs.length + r.xs.length = 123 → RefW d kb (L1 ++ ([n] ++ L2)) w w' := by
    rintro A l r B w' hE ⟨d', m, t1, t2, t3, t4, t5, t6, t7, t8⟩ hA hB hlr
    obtain ⟨p1, p2⟩ := pair A l r B (by rw [hE]; exact hlen)
    rw [hE] at t7 t8 p2
    refine ⟨d', _, t1, t3, ?_, ?_, t7, t8⟩
    · rw [p2, t6]
      have hk : (A.map Nd.xs).length = (d.xs.take A.length).length := by simp; omega
      have hz := flat_zoom (A.map Nd.xs) (d.xs.take A.length) m.xs (B.map Nd.xs) (d.xs.drop (A.length + 1)) hk
      unfold del
      rw [show (A ++ ([m] ++ B)).map Nd.xs = A.map Nd.xs ++ m.xs :: B.map Nd.xs by simp, hz, t5]
      simp
    · intro x hx
      simp only [List.mem_append, List.mem_singleton] at hx
      rcases hx with hx | hx | hx
      · exact hA x hx
      · subst hx; rw [t5]; simp; omega
      · exact hB x hx
  have app : ∀ A B : List Nd, Sized A → Sized B → Sized (A ++ B) := fun A B hA hB x hx => (List.mem_append.1 hx).elim (hA x) (hB x)
  have noR : NoLeft L1 → Calls Yba.prog 58 #[.pointer (some ⟨d.b, 0, none⟩), .int .i64 ((L1.length : Nat) : Int)] w fun e w' => e = .returned (.tuple #[]) ∧ RefW d kb (L1 ++ ([n] ++ L2)) w w' := by
    intro hno
    cases L2 with
    | nil =>
      rcases hno with rfl | ⟨L0, p, rfl, hp⟩
      · simp only [List.nil_append, List.append_nil, List.length_singleton] at hlen; omega
      · have hE : L0 ++ ([p, n] ++ []) = (L0 ++ [p]) ++ ([n] ++ []) := by simp
        have hps := h1 p (by simp)
        rw [show ((L0 ++ [p]).length : Nat) = L0.length + 1 by simp]
        refine (refill_joinL d kb L0 p n w (by rw [hE]; exact hT) hl hp (by omega)).mono ?_
        rintro e w' ⟨rfl, hJ⟩
        exact ⟨rfl, finJ L0 p n [] w' hE hJ (fun x hx => h1 x (by simp [hx])) (fun x hx => by simp at hx) (by omega)⟩
    | cons f L2 =>
      have hE : L1 ++ ([n, f] ++ L2) = L1 ++ ([n] ++ f :: L2) := by simp
      have hfs := h2 f (by simp)
      have hS2 : Sized L2 := fun x hx => h2 x (by simp [hx])
      by_cases hf : 62 < f.xs.length
      · refine (refill_right d kb L1 n f L2 w (by rw [hE]; exact hT) hl hf (by omega) (by omega) hno).mono ?_
        rintro e w' ⟨rfl, n', f', e1, e2, hR⟩
        refine ⟨rfl, fin L1 [n, f] L2 [n', f'] _ w' hE hR ?_ ?_⟩
        · obtain ⟨p1, p2⟩ := pair L1 n f L2 (by rw [hE]; exact hlen)
          rw [hE] at p2
          rw [p2]
          have hk : (L1.map Nd.xs).length = (d.xs.take L1.length).length := by simp; omega
          have hz := flat_pair (L1.map Nd.xs) (d.xs.take L1.length) n'.xs f'.xs (L2.map Nd.xs) (f.xs.getD 0 0) (d.xs.drop (L1.length + 1)) hk
          rw [set_at d.xs p1, show (L1 ++ ([n', f'] ++ L2)).map Nd.xs = L1.map Nd.xs ++ (n'.xs :: f'.xs :: L2.map Nd.xs) by simp, hz, e1, e2]
          have hfsp := first_split f.xs (by omega)
          generalize f.xs.getD 0 0 = z at hfsp ⊢
          generalize del 0 f.xs = tl at hfsp ⊢
          rw [hfsp]; simp
        · refine app _ _ h1 (app _ _ (fun x hx => ?_) hS2)
          simp only [List.mem_cons, List.not_mem_nil, or_false] at hx
          rcases hx with rfl | rfl
          · rw [e1]; simp; omega
          · rw [e2, del_length (by omega)]; omega
      · refine (refill_joinR d kb L1 n f L2 w (by rw [hE]; exact hT) hl (by omega) (by omega) hno).mono ?_
        rintro e w' ⟨rfl, hJ⟩
        exact ⟨rfl, finJ L1 n f L2 w' hE hJ h1 hS2 (by omega)⟩
  obtain hcs | ⟨L0, p, hcs⟩ : L1 = [] ∨ ∃ L0 p, L1 = L0 ++ [p] := by
    rcases List.eq_nil_or_concat L1 with h | ⟨L0, p, h⟩
    · exact .inl h
    · exact .inr ⟨L0, p, by rw [h, List.concat_eq_append]⟩
  all_goals subst hcs
  · exact noR (.inl rfl)
  · by_cases hp : 62 < p.xs.length
    · have hE : L0 ++ ([p, n] ++ L2) = (L0 ++ [p]) ++ ([n] ++ L2) := by simp
      have hps := h1 p (by simp)
      rw [show ((L0 ++ [p]).length : Nat) = L0.length + 1 by simp]
      refine (refill_left d kb L0 p n L2 w (by rw [hE]; exact hT) hl hp (by omega) (by omega) (by omega)).mono ?_
      rintro e w' ⟨rfl, f', n', e1, e2, hR⟩
      refine ⟨rfl, fin L0 [p, n] L2 [f', n'] _ w' hE hR ?_ ?_⟩
      · obtain ⟨p1, p2⟩ := pair L0 p n L2 (by rw [hE]; exact hlen)
        rw [hE] at p2
        rw [p2]
        have hk : (L0.map Nd.xs).length = (d.xs.take L0.length).length := by simp; omega
        have hz := flat_pair (L0.map Nd.xs) (d.xs.take L0.length) f'.xs n'.xs (L2.map Nd.xs) (p.xs.getD (p.xs.length - 1) 0) (d.xs.drop (L0.length + 1)) hk
        rw [set_at d.xs p1, show (L0 ++ ([f', n'] ++ L2)).map Nd.xs = L0.map Nd.xs ++ (f'.xs :: n'.xs :: L2.map Nd.xs) by simp, hz, e1, e2]
        have hfsp := last_split p.xs (by omega)
        generalize p.xs.getD (p.xs.length - 1) 0 = z at hfsp ⊢
        generalize del (p.xs.length - 1) p.xs = tl at hfsp ⊢
        rw [hfsp]; simp
      · have hS0 : Sized L0 := fun x hx => h1 x (by simp [hx])
        refine app _ _ hS0 (app _ _ (fun x hx => ?_) h2)
        simp only [List.mem_cons, List.not_mem_nil, or_false] at hx
        rcases hx with rfl | rfl
        · rw [e1, del_length (by omega)]; omega
        · rw [e2]; simp; omega
    · exact noR (.inr ⟨L0, p, rfl, by omega⟩)
end Go.Proofs.Ybulkcgwo.T
