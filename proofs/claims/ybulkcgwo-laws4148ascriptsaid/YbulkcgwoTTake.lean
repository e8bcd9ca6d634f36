import Derived.Test.YbulkcgwoTRem3
import Derived.Test.YbulkcgwoTAdd
namespace Go.Proofs.Ybulkcgwo.T
open Go.RowKit
set_option linter.unusedVariables false
set_option linter.unusedSimpArgs false

/-- Where a seek that found its element ends. -/
def SeekYes (pb : Nat) (x : Int) (w : World) : Tree → Prop
  | none => False
  | some (.inl d) => ∃ i, i < d.xs.length ∧ d.xs.getD i 0 = x ∧ Path1 w pb d.b i ∧ w.cell? ⟨pb, 22, none⟩ = some (.int .i64 1)
  | some (.inr (d, kb, L)) => ∃ L1 n L2, L = L1 ++ ([n] ++ L2) ∧ Path1 w pb d.b L1.length ∧
      ((L1.length < d.xs.length ∧ d.xs.getD L1.length 0 = x ∧ w.cell? ⟨pb, 22, none⟩ = some (.int .i64 1)) ∨
       ∃ j : Nat, j < n.xs.length ∧ n.xs.getD j 0 = x ∧ w.cell? ⟨pb, 2, none⟩ = some (.pointer (some ⟨n.b, 0, none⟩)) ∧ w.cell? ⟨pb, 3, none⟩ = some (.int .i64 j) ∧ w.cell? ⟨pb, 22, none⟩ = some (.int .i64 2))

theorem SeekYes.kept {pb : Nat} {x : Int} {w w' : World} {F : Nat → Prop} {t : Tree} (h : SeekYes pb x w t) (hO : Only F w w') (hp : ¬ F pb) : SeekYes pb x w' t := by
  match t, h with
  | some (.inl d), ⟨i, h1, h2, h3, h4⟩ => exact ⟨i, h1, h2, ⟨hO.cell h3.1 hp, hO.cell h3.2 hp⟩, hO.cell (p := ⟨pb, 22, none⟩) h4 hp⟩
  | some (.inr (d, kb, L)), ⟨L1, n, L2, h1, h2, h3⟩ =>
    refine ⟨L1, n, L2, h1, ⟨hO.cell h2.1 hp, hO.cell h2.2 hp⟩, ?_⟩
    rcases h3 with ⟨a, b, c⟩ | ⟨j, a, b, c, d, e⟩
    · exact .inl ⟨a, b, hO.cell (p := ⟨pb, 22, none⟩) c hp⟩
    · exact .inr ⟨j, a, b, hO.cell (p := ⟨pb, 2, none⟩) c hp, hO.cell (p := ⟨pb, 3, none⟩) d hp, hO.cell (p := ⟨pb, 22, none⟩) e hp⟩

theorem seekT_found (o : Ords) (G : o.Good) (pb : Nat) (t : Tree) (x : Int) (w : World) (hP : Path0 w pb) (hF : Fits o w t) (hp : ¬ footT t pb) (hp3 : ¬ o.reads pb) (hx : x ∈ flatT t) :
    Calls Yba.prog 37 #[.pointer (some ⟨pb, 0, none⟩), .pointer (rootT t), .int .i64 x, o.searchV] w fun r w' => r = .returned (.bool true) ∧ SeekYes pb x w' t ∧ SeekW o pb w w' := by
  match t, hF, hp, hx with
  | none, hF, hp, hx => simp [flatT] at hx
  | some (.inl d), hF, hp, hx =>
    obtain ⟨hE, h0, hl, _⟩ := hF.ok
    refine (seek_leaf o G pb d x w hP hE h0 hF.sor (by omega) hF.inv (hF.apart _ (.inr rfl)) (hF.apart _ (.inl rfl)) (fun h => hp (.inl h)) (fun h => hp (.inr h)) hp3).mono ?_
    rintro r w' ⟨i, f, rfl, hf, h1, h22, hP', hI, hO⟩
    cases f
    · exact absurd hx (found_not G.W hF.sor hf)
    · obtain ⟨a, b⟩ := hf.hit.1 rfl
      exact ⟨rfl, ⟨i, a, b, h1, h22⟩, ⟨hI, hP', hO⟩⟩
  | some (.inr (d, kb, L)), hF, hp, hx =>
    obtain ⟨hT, hsz, _⟩ := hF.ok
    have hfl : Sor o.lt (flatF (L.map Nd.xs) d.xs) := hF.sor
    refine (seek_two o G pb d kb L x w hP hT (sor_seps hT.len hfl) (fun n hn => ⟨sor_leaves hT.len hfl n hn, by have := (hsz n hn).2; omega⟩) (by have := two_small hT hsz hF.small; omega) hF.inv hF.apart hp hp3).mono ?_
    rintro r w' ⟨i, f0, hf0, h1, hP', hI, hO, h⟩
    rcases h with ⟨rfl, rfl, h22⟩ | ⟨rfl, n, j, f, hn, rfl, hf, h2, h3, h22⟩
    · obtain ⟨a, b⟩ := hf0.hit.1 rfl
      have hl := hT.len
      obtain ⟨n, hn⟩ : ∃ n, L[i]? = some n := ⟨_, List.getElem?_eq_getElem (by omega)⟩
      obtain ⟨L1, L2, rfl, rfl⟩ := split_at hn
      exact ⟨rfl, ⟨L1, n, L2, rfl, h1, .inl ⟨a, b, h22⟩⟩, ⟨hI, hP', hO⟩⟩
    · obtain ⟨L1, L2, rfl, rfl⟩ := split_at hn
      cases f
      · exfalso
        have hxx : x ∈ flatF ((L1 ++ ([n] ++ L2)).map Nd.xs) d.xs := hx
        rw [flat_at hT.len] at hxx hfl
        have hl := hT.len
        have hs := sides G.W (K1 := L1.map Nd.xs) (K2 := L2.map Nd.xs) (S1 := d.xs.take L1.length) (S2 := d.xs.drop L1.length) (x := n.xs) (e := x) (by simp at hl ⊢; omega) (by simp at hl ⊢; omega) hfl (by
          have e1 : (d.xs.take L1.length).length = L1.length := by simp at hl ⊢; omega
          rw [List.take_append_drop, e1]; exact hf0)
        exact ins_not G.W (sor_of_flat hfl) hs.1 hs.2 hf hxx
      · obtain ⟨a, b⟩ := hf.hit.1 rfl
        exact ⟨rfl, ⟨L1, n, L2, rfl, h1, .inr ⟨j, a, b, h2, h3, h22⟩⟩, ⟨hI, hP', hO⟩⟩

/-- remove over whatever tree. -/
theorem removeT (o : Ords) (pb : Nat) (t : Tree) (x : Int) (w : World) (hP : Path0 w pb) (hF : Fits o w t) (hY : SeekYes pb x w t) (hp : ¬ footT t pb) :
    Calls Yba.prog 40 #[.pointer (some ⟨pb, 0, none⟩)] w fun r w' => ∃ t', r = .returned (.pointer (rootT t')) ∧ RemW t x pb w w' t' := by
  match t, hF, hY, hp with
  | some (.inl d), hF, ⟨i, h1, h2, h3, h4⟩, hp =>
    subst h2
    exact remove_one pb d i w h3 h4 hF.ok h1 (fun h => hp (.inl h)) (fun h => hp (.inr h))
  | some (.inr (d, kb, L)), hF, ⟨L1, n, L2, h1, h2, h3⟩, hp =>
    subst h1
    have hl : d.xs.length ≤ 125 := by have := two_small hF.ok.1 hF.ok.2.1 hF.small; omega
    rcases h3 with ⟨a, b, c⟩ | ⟨j, a, b, c, e, f⟩
    · subst b
      exact remove_root2 pb d kb L1 n L2 w hP h2 c hF.ok a hp hl
    · subst b
      exact remove_leaf2 pb d kb L1 n L2 j w h2 c e f hF.ok a hp hl

/-- What a Remove leaves. -/
structure TakeW (o : Ords) (sb : Nat) (hb : Option Nat) (t : Tree) (e : Int) (w w' : World) (hb' : Option Nat) (t' : Tree) : Prop where
  mem : ∀ y, y ∈ flatT t' ↔ y ∈ flatT t ∧ y ≠ e
  only : Only (setFoot o sb hb t) w w'
  hold : ∀ h, hb' = some h → hb = some h ∨ w.heap.size ≤ h
  foot : ∀ k, footT t' k → footT t k ∨ w.heap.size ≤ k

theorem cut_sor {lt : Int → Int → Prop} (W : Whole lt) {A B : List Int} {x : Int} (h : Sor lt (A ++ x :: B)) : Sor lt (A ++ B) ∧ ∀ y, y ∈ A ++ B ↔ y ∈ A ++ x :: B ∧ y ≠ x := by
  obtain ⟨h1, h2, h3⟩ := List.pairwise_append.1 h
  obtain ⟨h4, h5⟩ := List.pairwise_cons.1 h2
  refine ⟨List.pairwise_append.2 ⟨h1, h5, fun a ha b hb => h3 a ha b (by simp [hb])⟩, fun y => ⟨fun hy => ?_, fun ⟨hy, hne⟩ => ?_⟩⟩
  · rcases List.mem_append.1 hy with hy | hy
    · exact ⟨by simp [hy], fun e => W.irr x (by have := h3 y hy x (by simp); rwa [e] at this)⟩
    · exact ⟨by simp [hy], fun e => W.irr x (by have := h4 y hy; rwa [e] at this)⟩
  · simp at hy ⊢; rcases hy with h | h | h
    · exact .inl h
    · exact absurd h hne
    · exact .inr h
end Go.Proofs.Ybulkcgwo.T
