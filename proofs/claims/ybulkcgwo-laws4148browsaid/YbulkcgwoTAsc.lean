import Derived.Test.YbulkcgwoTCur2
namespace Go.Proofs.Ybulkcgwo.T
open Go.RowKit
set_option linter.unusedVariables false
set_option linter.unusedSimpArgs false

theorem changed81 (cb sb hb : Nat) (g : Int) (w : World) (c0 : w.cell? ⟨cb, 0, none⟩ = some (.pointer (some ⟨sb, 0, none⟩))) (c25 : w.cell? ⟨cb, 25, none⟩ = some (.int .u64 g)) (s5 : w.cell? ⟨sb, 5, none⟩ = some (.pointer (some ⟨hb, 0, none⟩))) (k1 : w.cell? ⟨hb, 1, none⟩ = some (.int .u64 g)) :
    Calls Yba.prog 81 #[.pointer (some ⟨cb, 0, none⟩)] w fun r w' => r = .returned (.bool false) ∧ ∃ n, w' = w.drewN n := by
  go_enter Yba.func81, Yba.ntmps81
  go_wp2
  go_quiet (fail)
  go_wp2
  go_ret
  exact ⟨rfl, _, rfl⟩

/-- The walk is over. -/
structure AscEnd (w w' : World) (cb sb : Nat) : Prop where
  cur : Cur w' cb sb
  dp : w'.cell? ⟨cb, 24, none⟩ = some (.int .i64 0)
  gen : w'.cell? ⟨cb, 25, none⟩ = w.cell? ⟨cb, 25, none⟩
  only : Only (fun k => k = cb) w w'

set_option maxHeartbeats 2000000 in
set_option maxRecDepth 100000 in
theorem ascend_end1 (cb sb : Nat) (n : Nd) (w : World) (hC : Cur w cb sb) (hF : Fram w cb 0 n.b n.xs.length) (h24 : w.cell? ⟨cb, 24, none⟩ = some (.int .i64 1)) (ec : w.cell? ⟨n.b, 1, none⟩ = some (.slice (some ⟨n.eb, n.eo, none⟩) n.xs.length n.cap)) :
    Calls Yba.prog 91 #[.pointer (some ⟨cb, 2, none⟩)] w fun r w' => r = .returned (.tuple #[.pointer none, .int .i64 0]) ∧ AscEnd w w' cb sb := by
  obtain ⟨f1, f2⟩ := hF
  simp only [Nat.mul_zero, Nat.add_zero] at f1 f2
  obtain ⟨-, -, hf24⟩ := hC.cell 24 (by omega)
  have HC := hide hC
  clear hC
  have hw0 : IntKind.i64.wrap 0 = 0 := by kernel_rfl
  go_enter Yba.func91, Yba.ntmps91
  go_wp2
  refine wp_loop_rounds 2 ?_
  rw [rounds_succ]
  go_wp2
  go_quiet (fail)
  have HO1 : Hid (Only (fun _ => False) w (w.drewN nq)) := (Only.refl _ _).drewN nq
  generalize (w.drewN nq) = w1 at HO1 ⊢
  have f11 := HO1.out.cell f1 (fun h => h)
  have f21 := HO1.out.cell f2 (fun h => h)
  go_wp2
  go_quiet (fail)
  have HO2 : Hid (Only (fun _ => False) w (w1.drewN nq)) := HO1.out.drewN nq
  generalize (w1.drewN nq) = w2 at HO2 ⊢
  have e2 := HO2.out.cell ec (fun h => h)
  have d2 := HO2.out.cell h24 (fun h => h)
  have df : w2.frozen? ⟨cb, 24, none⟩ = false := (HO2.out.frozen (p := ⟨cb, 24, none⟩) (World.block_lt_of_cell? w ⟨cb, 24, none⟩ h24) (fun h => h)).trans hf24
  clear f1 f2 h24 ec hf24 f11 f21
  go_wp2
  rw [rounds_succ]
  have HE : Hid (AscEnd w (w2.setCell ⟨cb, 24, none⟩ (.int .i64 0)) cb sb) := by
    refine ⟨(HC.out.kept HO2.out (fun h => h)).set 24 _ (by omega) (by omega) (by omega) (by omega), World.cell?_setCell_same _ _ _ d2, ?_, (HO2.out.mono (G := fun k => k = cb) (fun _ _ h => h.elim)).setCell (.inl rfl) _⟩
    rw [cell_set_other (by omega)]
    obtain ⟨u, hu, -⟩ := HC.out.cell 25 (by omega)
    rw [hu]; exact HO2.out.cell hu (fun h => h)
  have dd := HE.out.dp
  generalize (w2.setCell ⟨cb, 24, none⟩ (.int .i64 0)) = w3 at HE dd ⊢
  clear d2 df e2
  go_wp2
  go_ret2
  exact ⟨rfl, HE.out⟩

set_option maxHeartbeats 2000000 in
set_option maxRecDepth 100000 in
theorem ascend_end2 (cb sb : Nat) (d n : Nd) (w : World) (hC : Cur w cb sb) (hF0 : Fram w cb 0 d.b d.xs.length) (hF : Fram w cb 1 n.b n.xs.length) (h24 : w.cell? ⟨cb, 24, none⟩ = some (.int .i64 2)) (ec : w.cell? ⟨n.b, 1, none⟩ = some (.slice (some ⟨n.eb, n.eo, none⟩) n.xs.length n.cap)) (dc : w.cell? ⟨d.b, 1, none⟩ = some (.slice (some ⟨d.eb, d.eo, none⟩) d.xs.length d.cap)) (hp : cb ≠ d.b) :
    Calls Yba.prog 91 #[.pointer (some ⟨cb, 2, none⟩)] w fun r w' => r = .returned (.tuple #[.pointer none, .int .i64 0]) ∧ AscEnd w w' cb sb := by
  obtain ⟨f1, f2⟩ := hF
  obtain ⟨e1, e2⟩ := hF0
  simp only [Nat.mul_zero, Nat.add_zero, Nat.mul_one, Nat.reduceAdd] at f1 f2 e1 e2
  obtain ⟨-, -, hf24⟩ := hC.cell 24 (by omega)
  have HC := hide hC
  clear hC
  have hw0 : IntKind.i64.wrap 0 = 0 := by kernel_rfl
  have hw1 : IntKind.i64.wrap 1 = 1 := by kernel_rfl
  go_enter Yba.func91, Yba.ntmps91
  go_wp2
  refine wp_loop_rounds 3 ?_
  rw [rounds_succ]
  go_wp2
  go_quiet (fail)
  have HO1 : Hid (Only (fun _ => False) w (w.drewN nq)) := (Only.refl _ _).drewN nq
  generalize (w.drewN nq) = w1 at HO1 ⊢
  have f11 := HO1.out.cell f1 (fun h => h)
  have f21 := HO1.out.cell f2 (fun h => h)
  go_wp2
  go_quiet (fail)
  have HO2 : Hid (Only (fun _ => False) w (w1.drewN nq)) := HO1.out.drewN nq
  generalize (w1.drewN nq) = w2 at HO2 ⊢
  have ec2 := HO2.out.cell ec (fun h => h)
  have d2 := HO2.out.cell h24 (fun h => h)
  have df : w2.frozen? ⟨cb, 24, none⟩ = false := (HO2.out.frozen (p := ⟨cb, 24, none⟩) (World.block_lt_of_cell? w ⟨cb, 24, none⟩ h24) (fun h => h)).trans hf24
  clear f1 f2 ec hf24 f11 f21
  go_wp2
  rw [rounds_succ]
  have HO3 : Hid (Only (fun k => k = cb) w (w2.setCell ⟨cb, 24, none⟩ (.int .i64 1))) := (HO2.out.mono (G := fun k => k = cb) (fun _ _ h => h.elim)).setCell (.inl rfl) _
  have HC3 : Hid (Cur (w2.setCell ⟨cb, 24, none⟩ (.int .i64 1)) cb sb) := (HC.out.kept HO2.out (fun h => h)).set 24 _ (by omega) (by omega) (by omega) (by omega)
  have t24 : (w2.setCell ⟨cb, 24, none⟩ (.int .i64 1)).cell? ⟨cb, 24, none⟩ = some (.int .i64 1) := World.cell?_setCell_same _ _ _ d2
  have t2 : (w2.setCell ⟨cb, 24, none⟩ (.int .i64 1)).cell? ⟨cb, 2, none⟩ = some (.pointer (some ⟨d.b, 0, none⟩)) := (cell_set_other (by omega)).trans (HO2.out.cell e1 (fun h => h))
  have t3 : (w2.setCell ⟨cb, 24, none⟩ (.int .i64 1)).cell? ⟨cb, 3, none⟩ = some (.int .i64 d.xs.length) := (cell_set_other (by omega)).trans (HO2.out.cell e2 (fun h => h))
  have t25 : Hid ((w2.setCell ⟨cb, 24, none⟩ (.int .i64 1)).cell? ⟨cb, 25, none⟩ = w.cell? ⟨cb, 25, none⟩) := by
    obtain ⟨u, hu, -⟩ := HC.out.cell 25 (by omega)
    show _ = _
    rw [cell_set_other (by omega), hu]; exact HO2.out.cell hu (fun h => h)
  generalize (w2.setCell ⟨cb, 24, none⟩ (.int .i64 1)) = w3 at HO3 HC3 t24 t2 t3 t25 ⊢
  clear d2 df ec2 e1 e2 h24
  obtain ⟨-, -, tf⟩ := HC3.out.cell 24 (by omega)
  go_wp2
  go_quiet (fail)
  have HP1 : Hid (Only (fun _ => False) w3 (w3.drewN nq)) := (Only.refl _ _).drewN nq
  generalize (w3.drewN nq) = w4 at HP1 ⊢
  have s2 := HP1.out.cell t2 (fun h => h)
  have s3 := HP1.out.cell t3 (fun h => h)
  go_wp2
  go_quiet (fail)
  have HP2 : Hid (Only (fun _ => False) w3 (w4.drewN nq)) := HP1.out.drewN nq
  generalize (w4.drewN nq) = w5 at HP2 ⊢
  have dc5 := HP2.out.cell (HO3.out.cell dc (fun h => hp h.symm)) (fun h => h)
  have r24 := HP2.out.cell t24 (fun h => h)
  have rf : w5.frozen? ⟨cb, 24, none⟩ = false := (HP2.out.frozen (p := ⟨cb, 24, none⟩) (World.block_lt_of_cell? w3 ⟨cb, 24, none⟩ t24) (fun h => h)).trans tf
  clear t2 t3 t24 s2 s3 tf dc
  go_wp2
  rw [rounds_succ]
  have HE : Hid (AscEnd w (w5.setCell ⟨cb, 24, none⟩ (.int .i64 0)) cb sb) := by
    refine ⟨(HC3.out.kept HP2.out (fun h => h)).set 24 _ (by omega) (by omega) (by omega) (by omega), World.cell?_setCell_same _ _ _ r24, ?_, (HO3.out.trans (HP2.out.mono (G := fun k => k = cb) (fun _ _ h => h.elim)) (fun k h => .inl h)).setCell (.inl rfl) _⟩
    rw [cell_set_other (by omega), ← t25.out]
    obtain ⟨u, hu, -⟩ := HC3.out.cell 25 (by omega)
    rw [hu]; exact HP2.out.cell hu (fun h => h)
  have dd := HE.out.dp
  generalize (w5.setCell ⟨cb, 24, none⟩ (.int .i64 0)) = w6 at HE dd ⊢
  clear r24 rf dc5
  go_wp2
  go_ret2
  exact ⟨rfl, HE.out⟩
end Go.Proofs.Ybulkcgwo.T
