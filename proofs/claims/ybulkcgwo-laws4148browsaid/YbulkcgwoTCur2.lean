import Derived.Test.YbulkcgwoTCur
namespace Go.Proofs.Ybulkcgwo.T
open Go.RowKit
set_option linter.unusedVariables false
set_option linter.unusedSimpArgs false

set_option maxHeartbeats 1000000 in
set_option maxRecDepth 100000 in
theorem first_leaf1 (cb sb b : Nat) (w : World) (hC : Cur w cb sb) (h24 : w.cell? ⟨cb, 24, none⟩ = some (.int .i64 1)) (h0 : w.cell? ⟨b, 0, none⟩ = some (.pointer none)) (hp : cb ≠ b) :
    Calls Yba.prog 80 #[.pointer (some ⟨cb, 2, none⟩), .pointer (some ⟨b, 0, none⟩)] w fun e w' => e = .returned (.tuple #[]) ∧ Laid w w' cb sb 1 b := by
  obtain ⟨u2, hu2, hf2⟩ := hC.cell 4 (by omega)
  obtain ⟨u3, hu3, hf3⟩ := hC.cell 5 (by omega)
  obtain ⟨-, -, hf24⟩ := hC.cell 24 (by omega)
  have HL := hide (laid_mk (k := 1) (b := b) hC (by omega))
  simp only [Nat.mul_one, Nat.reduceAdd] at HL
  clear hC
  go_enter Yba.func80, Yba.ntmps80
  go_wp2
  refine wp_loop_rounds 1 ?_
  rw [rounds_succ]
  go_wp2
  go_region_held3 (fun w' => w'.cell? ⟨cb, 24, none⟩ = some (.int .i64 1)) (first | (go_simp; done) | go_keep) (fail)
  have g24 : ((w.setCell ⟨cb, 4, none⟩ (.pointer (some ⟨b, 0, none⟩))).setCell ⟨cb, 5, none⟩ (.int .i64 0)).drew.cell? ⟨cb, 24, none⟩ = some (.int .i64 1) := by rw [World.cell?_drew, cell_set_other (by omega), cell_set_other (by omega)]; exact h24
  have gf : ((w.setCell ⟨cb, 4, none⟩ (.pointer (some ⟨b, 0, none⟩))).setCell ⟨cb, 5, none⟩ (.int .i64 0)).drew.frozen? ⟨cb, 24, none⟩ = false := by rw [World.frozen?_drew, World.frozen?_setCell, World.frozen?_setCell]; exact hf24
  have g0 : ((w.setCell ⟨cb, 4, none⟩ (.pointer (some ⟨b, 0, none⟩))).setCell ⟨cb, 5, none⟩ (.int .i64 0)).drew.cell? ⟨b, 0, none⟩ = some (.pointer none) := (((Only.refl (fun k => k = cb) w).setCell (.inl rfl) _).setCell (.inl rfl) _).drew.cell h0 (fun h => hp h.symm)
  generalize ((w.setCell ⟨cb, 4, none⟩ (.pointer (some ⟨b, 0, none⟩))).setCell ⟨cb, 5, none⟩ (.int .i64 0)).drew = w3 at HL g24 gf g0 ⊢
  clear hu2 hf2 hu3 hf3 h24 hf24 h0
  go_wp2
  (try simp only [Exit.inBlock, Exit.then])
  refine bodyPost_ret (results_none rfl _ _ _) rfl ?_
  exact ⟨rfl, HL.out⟩

set_option maxHeartbeats 2000000 in
set_option maxRecDepth 100000 in
theorem first_two (cb sb b kb b1 : Nat) (w : World) (hC : Cur w cb sb) (h24 : w.cell? ⟨cb, 24, none⟩ = some (.int .i64 0)) (h0 : w.cell? ⟨b, 0, none⟩ = some (.pointer (some ⟨kb, 0, none⟩))) (hk : w.cell? ⟨kb, 0, none⟩ = some (.pointer (some ⟨b1, 0, none⟩))) (h1 : w.cell? ⟨b1, 0, none⟩ = some (.pointer none)) (hp : cb ≠ b) (hp1 : cb ≠ kb) (hp2 : cb ≠ b1) :
    Calls Yba.prog 80 #[.pointer (some ⟨cb, 2, none⟩), .pointer (some ⟨b, 0, none⟩)] w fun e w' => e = .returned (.tuple #[]) ∧ Cur w' cb sb ∧ Fram w' cb 0 b 0 ∧ Fram w' cb 1 b1 0 ∧ w'.cell? ⟨cb, 24, none⟩ = some (.int .i64 2) ∧ w'.cell? ⟨cb, 25, none⟩ = w.cell? ⟨cb, 25, none⟩ ∧ Only (fun k => k = cb) w w' := by
  obtain ⟨u2, hu2, hf2⟩ := hC.cell 2 (by omega)
  obtain ⟨u3, hu3, hf3⟩ := hC.cell 3 (by omega)
  obtain ⟨-, -, hf24⟩ := hC.cell 24 (by omega)
  have HL := hide (laid_mk (k := 0) (b := b) hC (by omega))
  simp only [Nat.mul_zero, Nat.add_zero, Nat.zero_add] at HL
  clear hC
  go_enter Yba.func80, Yba.ntmps80
  go_wp2
  refine wp_loop_rounds 2 ?_
  rw [rounds_succ]
  go_wp2
  go_region_held3 (fun w' => w'.cell? ⟨cb, 24, none⟩ = some (.int .i64 0)) (first | (go_simp; done) | go_keep) (fail)
  have hO3 : Only (fun k => k = cb) w ((w.setCell ⟨cb, 2, none⟩ (.pointer (some ⟨b, 0, none⟩))).setCell ⟨cb, 3, none⟩ (.int .i64 0)).drew := (((Only.refl (fun k => k = cb) w).setCell (.inl rfl) _).setCell (.inl rfl) _).drew
  have g24 : ((w.setCell ⟨cb, 2, none⟩ (.pointer (some ⟨b, 0, none⟩))).setCell ⟨cb, 3, none⟩ (.int .i64 0)).drew.cell? ⟨cb, 24, none⟩ = some (.int .i64 0) := by rw [World.cell?_drew, cell_set_other (by omega), cell_set_other (by omega)]; exact h24
  have gf : ((w.setCell ⟨cb, 2, none⟩ (.pointer (some ⟨b, 0, none⟩))).setCell ⟨cb, 3, none⟩ (.int .i64 0)).drew.frozen? ⟨cb, 24, none⟩ = false := by rw [World.frozen?_drew, World.frozen?_setCell, World.frozen?_setCell]; exact hf24
  have g0 := hO3.cell h0 (fun h => hp h.symm)
  have gk := hO3.cell hk (fun h => hp1 h.symm)
  clear hO3
  generalize ((w.setCell ⟨cb, 2, none⟩ (.pointer (some ⟨b, 0, none⟩))).setCell ⟨cb, 3, none⟩ (.int .i64 0)).drew = w3 at HL g24 gf g0 gk ⊢
  clear hu2 hf2 hu3 hf3 h24 hf24
  have hne : kb ≠ cb := fun h => hp1 h.symm
  have hne2 : b ≠ cb := fun h => hp h.symm
  go_wp2
  rw [rounds_succ]
  have HL' : Hid (Laid w (w3.setCell ⟨cb, 24, none⟩ (.int .i64 1)) cb sb 0 b) := HL.out
  have r24 : (w3.setCell ⟨cb, 24, none⟩ (.int .i64 1)).cell? ⟨cb, 24, none⟩ = some (.int .i64 1) := HL'.out.dp
  have r1 := HL'.out.only.cell h1 (fun h => hp2 h.symm)
  have HC4 := hide HL'.out.cur
  clear HL
  generalize (w3.setCell ⟨cb, 24, none⟩ (.int .i64 1)) = w4 at HL' r24 r1 HC4 ⊢
  obtain ⟨v2, hv2, hk2⟩ := HC4.out.cell 4 (by omega)
  obtain ⟨v3, hv3, hk3⟩ := HC4.out.cell 5 (by omega)
  obtain ⟨-, -, hk24⟩ := HC4.out.cell 24 (by omega)
  have HL2 := hide (laid_mk (k := 1) (b := b1) HC4.out (by omega))
  simp only [Nat.mul_one, Nat.reduceAdd] at HL2
  clear g24 gf g0 gk h0 hk h1
  go_wp2
  go_region_held3 (fun w' => w'.cell? ⟨cb, 24, none⟩ = some (.int .i64 1)) (first | (go_simp; done) | go_keep) (fail)
  have g24 : ((w4.setCell ⟨cb, 4, none⟩ (.pointer (some ⟨b1, 0, none⟩))).setCell ⟨cb, 5, none⟩ (.int .i64 0)).drew.cell? ⟨cb, 24, none⟩ = some (.int .i64 1) := by rw [World.cell?_drew, cell_set_other (by omega), cell_set_other (by omega)]; exact r24
  have gf : ((w4.setCell ⟨cb, 4, none⟩ (.pointer (some ⟨b1, 0, none⟩))).setCell ⟨cb, 5, none⟩ (.int .i64 0)).drew.frozen? ⟨cb, 24, none⟩ = false := by rw [World.frozen?_drew, World.frozen?_setCell, World.frozen?_setCell]; exact hk24
  have g0 : ((w4.setCell ⟨cb, 4, none⟩ (.pointer (some ⟨b1, 0, none⟩))).setCell ⟨cb, 5, none⟩ (.int .i64 0)).drew.cell? ⟨b1, 0, none⟩ = some (.pointer none) := (((Only.refl (fun k => k = cb) w4).setCell (.inl rfl) _).setCell (.inl rfl) _).drew.cell r1 (fun h => hp2 h.symm)
  generalize ((w4.setCell ⟨cb, 4, none⟩ (.pointer (some ⟨b1, 0, none⟩))).setCell ⟨cb, 5, none⟩ (.int .i64 0)).drew = w5 at HL2 g24 gf g0 ⊢
  clear hv2 hk2 hv3 hk3 hk24 r24 r1
  go_wp2
  (try simp only [Exit.inBlock, Exit.then])
  refine bodyPost_ret (results_none rfl _ _ _) rfl ?_
  have a1 := HL'.out
  have a2 := HL2.out
  refine ⟨rfl, a2.cur, ⟨(a2.same 2 (by omega) (by omega) (by omega)).trans a1.fr.1, (a2.same 3 (by omega) (by omega) (by omega)).trans a1.fr.2⟩, a2.fr, a2.dp, (a2.same 25 (by omega) (by omega) (by omega)).trans (a1.same 25 (by omega) (by omega) (by omega)), a1.only.trans a2.only (fun k h => .inl h)⟩
end Go.Proofs.Ybulkcgwo.T
