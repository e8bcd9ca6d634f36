import Derived.Test.YbulkcgwoTRefillA
namespace Go.Proofs.Ybulkcgwo.T
open Go.RowKit
set_option linter.unusedVariables false
set_option linter.unusedSimpArgs false

set_option maxHeartbeats 2000000 in
set_option maxRecDepth 100000 in
theorem last_leaf (pb b i : Nat) (n : Nd) (w : World) (hP : Path0 w pb) (hQ : Path1 w pb b i) (h22 : w.cell? ⟨pb, 22, none⟩ = some (.int .i64 1)) (hE : EOK w n) (h0 : w.cell? ⟨n.b, 0, none⟩ = some (.pointer none)) (hp : pb ≠ n.b) :
    Calls Yba.prog 56 #[.pointer (some ⟨pb, 0, none⟩), .pointer (some ⟨n.b, 0, none⟩)] w fun e w' => e = .returned (.tuple #[]) ∧ Path0 w' pb ∧ Path1 w' pb b i ∧ w'.cell? ⟨pb, 2, none⟩ = some (.pointer (some ⟨n.b, 0, none⟩)) ∧ w'.cell? ⟨pb, 22, none⟩ = some (.int .i64 2) ∧ Only (fun k => k = pb) w w' := by
  obtain ⟨u2, hu2, hf2⟩ := hP.cell 2 (by omega)
  obtain ⟨u3, hu3, hf3⟩ := hP.cell 3 (by omega)
  have hf22 := hP.cell 22 (by omega)
  obtain ⟨-, -, hf22⟩ := hf22
  have HP := hide hP
  have HQ := hide hQ
  have ec := hE.cell
  clear hP hQ hE
  have hp' : n.b ≠ pb := fun h => hp h.symm
  go_enter Yba.func56, Yba.ntmps56
  go_wp2
  refine wp_loop_rounds 1 ?_
  rw [rounds_succ]
  go_wp2
  go_region_held3 (fun w' => w'.cell? ⟨pb, 22, none⟩ = some (.int .i64 1) ∧ w'.cell? ⟨n.b, 1, none⟩ = some (.slice (some ⟨n.eb, n.eo, none⟩) n.xs.length n.cap)) (first | (go_simp; done) | go_keep) (fail)
  have H3 : Hid (Fr2 w pb (.pointer (some ⟨n.b, 0, none⟩)) (.int .i64 n.xs.length) ((w.setCell ⟨pb, 2, none⟩ (.pointer (some ⟨n.b, 0, none⟩))).setCell ⟨pb, 3, none⟩ (.int .i64 n.xs.length)).drew) := fr2_mk HP.out hu2 hu3
  generalize ((w.setCell ⟨pb, 2, none⟩ (.pointer (some ⟨n.b, 0, none⟩))).setCell ⟨pb, 3, none⟩ (.int .i64 n.xs.length)).drew = w3 at H3 ⊢
  obtain ⟨r2, r3, rP, rO, rk⟩ := H3.out
  have r22 := (rk 22 (by omega) (by omega)).trans h22
  obtain ⟨v22, hv22, hg22⟩ := rP.cell 22 (by omega)
  have s0 := rO.cell h0 hp'
  have HRP := hide rP
  have HRO := hide rO
  have HQ3 : Hid (Path1 w3 pb b i) := ⟨(rk 0 (by omega) (by omega)).trans HQ.out.n, (rk 1 (by omega) (by omega)).trans HQ.out.i⟩
  clear rP rO rk hv22 v22 hu2 hu3 hf2 hf3 hf22 h22 h0 ec r3
  go_wp2
  (try simp only [Exit.inBlock, Exit.then])
  refine bodyPost_ret (results_none rfl _ _ _) rfl ?_
  refine ⟨rfl, ⟨World.there_setCells HRP.out.room pb 22 [_]⟩, ⟨?_, ?_⟩, ?_, World.cell?_setCell_same _ _ _ r22, HRO.out.setCell (.inl rfl) _⟩
  · rw [World.cell?_setCell_other _ _ _ _ (by simp)]; exact HQ3.out.n
  · rw [World.cell?_setCell_other _ _ _ _ (by simp)]; exact HQ3.out.i
  · rw [World.cell?_setCell_other _ _ _ _ (by simp)]; exact r2
end Go.Proofs.Ybulkcgwo.T
