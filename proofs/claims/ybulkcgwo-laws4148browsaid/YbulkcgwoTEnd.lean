import Derived.Test.YbulkcgwoTInv
namespace Go.Proofs.Ybulkcgwo.T
open Go.RowKit
set_option linter.unusedVariables false
set_option linter.unusedSimpArgs false

theorem len_any (sb : Nat) (n : Int) (w : World) (h : w.cell? ⟨sb, 3, none⟩ = some (.int .i64 n)) :
    Calls Yba.prog 14 #[.pointer (some ⟨sb, 0, none⟩)] w fun r w' => r = .returned (.int .i64 n) ∧ w' = w := by
  go_enter Yba.func14, Yba.ntmps14
  go_wp2
  go_ret
  exact ⟨rfl, rfl⟩

theorem flat_leafs {t : Tree} (hne : t ≠ none) : flatF ((leafsT t).map Nd.xs) (sepsT t) = flatT t := by
  match t, hne with
  | some (.inl d), _ => simp [leafsT, sepsT, flatT, flatF, postF]
  | some (.inr (d, kb, L)), _ => rfl

theorem leafs_ok {w : World} {t : Tree} (h : TOK w t) (hne : t ≠ none) (hn : (flatT t).length ≤ 5000) :
    (leafsT t).length = (sepsT t).length + 1 ∧ (leafsT t).length ≤ 200 ∧ ∀ d ∈ leafsT t, EOK w d ∧ w.cell? ⟨d.b, 0, none⟩ = some (.pointer none) ∧ d.xs ≠ [] ∧ d.xs.length ≤ 125 := by
  match t, h, hne, hn with
  | some (.inl d), h, _, _ =>
    refine ⟨rfl, by simp [leafsT], fun e he => ?_⟩
    simp only [leafsT, List.mem_singleton] at he
    subst he
    exact ⟨h.1, h.2.1, h.2.2.2, h.2.2.1⟩
  | some (.inr (d, kb, L)), h, _, hn =>
    have h1 := h.1.len
    have h2 := two_small h.1 h.2.1 hn
    refine ⟨h1, by simp only [leafsT]; omega, fun e he => ?_⟩
    obtain ⟨h3, h4⟩ := h.2.1 e he
    exact ⟨(h.1.leaf e he).1, (h.1.leaf e he).2, fun e0 => by rw [e0] at h3; simp at h3, h4⟩

theorem merge_len (M : List Int) : (M.mergeSort fun x y => decide (x ≤ y)).length = M.length := by simp

/-- The end of the second law. -/
theorem final_desc {t : Tree} {M : List Int} (hs : Sor (fun a b => b < a) (flatT t)) (hm : ∀ y, y ∈ flatT t ↔ y ∈ M) : flatT t = (Lib.compact (M.mergeSort fun x y => decide (x ≤ y))).reverse := by
  obtain ⟨h1, h2⟩ := compact_sorted M
  refine sor_ext whole_gt _ _ hs (rev_gt h1) (fun y => ?_)
  rw [List.mem_reverse, h2, hm]
theorem final_asc {t : Tree} {M : List Int} (hs : Sor (fun a b => a < b) (flatT t)) (hm : ∀ y, y ∈ flatT t ↔ y ∈ M) : flatT t = Lib.compact (M.mergeSort fun x y => decide (x ≤ y)) := by
  obtain ⟨h1, h2⟩ := compact_sorted M
  refine sor_ext whole_lt _ _ hs h1 (fun y => ?_)
  rw [h2, hm]
end Go.Proofs.Ybulkcgwo.T
