import Derived.Test.YbulkcgwoTAsc
namespace Go.Proofs.Ybulkcgwo.T
open Go.RowKit
set_option linter.unusedVariables false
set_option linter.unusedSimpArgs false

/-- The walk has passed a separator. -/
structure AscMid (w w' : World) (cb sb b i q : Nat) : Prop where
  cur : Cur w' cb sb
  f0 : Fram w' cb 0 b (i + 1)
  f1 : Fram w' cb 1 q 0
  dp : w'.cell? ⟨cb, 24, none⟩ = some (.int .i64 2)
  gen : w'.cell? ⟨cb, 25, none⟩ = w.cell? ⟨cb, 25, none⟩
  only : Only (fun k => k = cb) w w'

set_option maxHeartbeats 2000000 in
set_option maxRecDepth 100000 in
theorem ascend_mid (cb sb : Nat) (d n : Nd) (i kb q : Nat) (w : World) (hC : Cur w cb sb) (hF0 : Fram w cb 0 d.b i) (hF : Fram w cb 1 n.b n.xs.length) (h24 : w.cell? ⟨cb, 24, none⟩ = some (.int .i64 2)) (ec : w.cell? ⟨n.b, 1, none⟩ = some (.slice (some ⟨n.eb, n.eo, none⟩) n.xs.length n.cap)) (dc : w.cell? ⟨d.b, 1, none⟩ = some (.slice (some ⟨d.eb, d.eo, none⟩) d.xs.length d.cap)) (hi : i < d.xs.length) (hi2 : i ≤ 125)
    (d0 : w.cell? ⟨d.b, 0, none⟩ = some (.pointer (some ⟨kb, 0, none⟩))) (ck : w.cell? ⟨kb, i + 1, none⟩ = some (.pointer (some ⟨q, 0, none⟩))) (q0 : w.cell? ⟨q, 0, none⟩ = some (.pointer none)) (hp : cb ≠ d.b) (hp1 : cb ≠ kb) (hp2 : cb ≠ q) :
    Calls Yba.prog 91 #[.pointer (some ⟨cb, 2, none⟩)] w fun r w' => r = .returned (.tuple #[.pointer (some ⟨d.b, 0, none⟩), .int .i64 i]) ∧ AscMid w w' cb sb d.b i q := by
  obtain ⟨f1, f2⟩ := hF
  obtain ⟨e1, e2⟩ := hF0
  simp only [Nat.mul_zero, Nat.add_zero, Nat.mul_one, Nat.reduceAdd] at f1 f2 e1 e2
  obtain ⟨-, -, hf24⟩ := hC.cell 24 (by omega)
  have HC := hide hC
  clear hC
  have hw0 : IntKind.i64.wrap 0 = 0 := by kernel_rfl
  have hw1 : IntKind.i64.wrap 1 = 1 := by kernel_rfl
  have hw2 : IntKind.i64.wrap ((i : Int) + 1) = (i : Int) + 1 := by simp only [IntKind.wrap_i64]; omega
  have z1 : (i : Int) < (d.xs.length : Int) := by omega
  have z2 : (i : Int) + 1 < 127 := by omega
  go_enter Yba.func91, Yba.ntmps91
  go_wp2
  refine wp_loop_rounds 2 ?_
  rw [rounds_succ]
  go_wp2
  go_quiet (fail)
  have HO1 : Hid (Only (fun _ => False) w (w.drewN nq)) := (Only.refl _ _).drewN nq
  generalize (w.drewN nq) = w1 at HO1 ⊢
  have f11 := HO1.out.cell f1 (fun h => h)
  have f21 := HO1.out.cell f2 (fun h => h)
  go_wp2
  go_quiet (fail)
  have HO2 : Hid (Only (fun _ => False) w (w1.drewN nq)) := HO1.out.drewN nq
  generalize (w1.drewN nq) = w2 at HO2 ⊢
  have ec2 := HO2.out.cell ec (fun h => h)
  have d2 := HO2.out.cell h24 (fun h => h)
  have df : w2.frozen? ⟨cb, 24, none⟩ = false := (HO2.out.frozen (p := ⟨cb, 24, none⟩) (World.block_lt_of_cell? w ⟨cb, 24, none⟩ h24) (fun h => h)).trans hf24
  clear f1 f2 ec hf24 f11 f21
  go_wp2
  rw [rounds_succ]
  have HO3 : Hid (Only (fun k => k = cb) w (w2.setCell ⟨cb, 24, none⟩ (.int .i64 1))) := (HO2.out.mono (G := fun k => k = cb) (fun _ _ h => h.elim)).setCell (.inl rfl) _
  have HC3 : Hid (Cur (w2.setCell ⟨cb, 24, none⟩ (.int .i64 1)) cb sb) := (HC.out.kept HO2.out (fun h => h)).set 24 _ (by omega) (by omega) (by omega) (by omega)
  have t24 : (w2.setCell ⟨cb, 24, none⟩ (.int .i64 1)).cell? ⟨cb, 24, none⟩ = some (.int .i64 1) := World.cell?_setCell_same _ _ _ d2
  have t2 : (w2.setCell ⟨cb, 24, none⟩ (.int .i64 1)).cell? ⟨cb, 2, none⟩ = some (.pointer (some ⟨d.b, 0, none⟩)) := (cell_set_other (by omega)).trans (HO2.out.cell e1 (fun h => h))
  have t3 : (w2.setCell ⟨cb, 24, none⟩ (.int .i64 1)).cell? ⟨cb, 3, none⟩ = some (.int .i64 i) := (cell_set_other (by omega)).trans (HO2.out.cell e2 (fun h => h))
  have t25 : Hid ((w2.setCell ⟨cb, 24, none⟩ (.int .i64 1)).cell? ⟨cb, 25, none⟩ = w.cell? ⟨cb, 25, none⟩) := by
    obtain ⟨u, hu, -⟩ := HC.out.cell 25 (by omega)
    show _ = _
    rw [cell_set_other (by omega), hu]; exact HO2.out.cell hu (fun h => h)
  generalize (w2.setCell ⟨cb, 24, none⟩ (.int .i64 1)) = w3 at HO3 HC3 t24 t2 t3 t25 ⊢
  clear d2 df ec2 e1 e2 h24
  obtain ⟨-, -, tf3⟩ := HC3.out.cell 3 (by omega)
  go_wp2
  go_quiet (fail)
  have HP1 : Hid (Only (fun _ => False) w3 (w3.drewN nq)) := (Only.refl _ _).drewN nq
  generalize (w3.drewN nq) = w4 at HP1 ⊢
  have s2 := HP1.out.cell t2 (fun h => h)
  have s3 := HP1.out.cell t3 (fun h => h)
  go_wp2
  go_quiet (fail)
  have HP2 : Hid (Only (fun _ => False) w3 (w4.drewN nq)) := HP1.out.drewN nq
  generalize (w4.drewN nq) = w5 at HP2 ⊢
  have HO5 : Hid (Only (fun k => k = cb) w w5) := HO3.out.trans (HP2.out.mono (G := fun k => k = cb) (fun _ _ h => h.elim)) (fun k h => .inl h)
  have HC5 := hide (HC3.out.kept HP2.out (fun h => h))
  have dc5 := HO5.out.cell dc (fun h => hp h.symm)
  have HX : Hid (w5.cell? ⟨cb, 24, none⟩ = some (.int .i64 1) ∧ w5.cell? ⟨cb, 2, none⟩ = some (.pointer (some ⟨d.b, 0, none⟩)) ∧ w5.cell? ⟨cb, 25, none⟩ = w.cell? ⟨cb, 25, none⟩) := by
    refine ⟨HP2.out.cell t24 (fun h => h), HP2.out.cell t2 (fun h => h), ?_⟩
    rw [← t25.out]
    obtain ⟨u, hu, -⟩ := HC3.out.cell 25 (by omega)
    rw [hu]; exact HP2.out.cell hu (fun h => h)
  have r3 := HP2.out.cell t3 (fun h => h)
  have rf : w5.frozen? ⟨cb, 3, none⟩ = false := (HP2.out.frozen (p := ⟨cb, 3, none⟩) (World.block_lt_of_cell? w3 ⟨cb, 3, none⟩ t3) (fun h => h)).trans tf3
  have HO6 : Hid (Only (fun k => k = cb) w (w5.setCell ⟨cb, 3, none⟩ (.int .i64 ((i : Int) + 1)))) := HO5.out.setCell (.inl rfl) _
  have d06 := HO6.out.cell d0 (fun h => hp h.symm)
  have ck6 := HO6.out.cell ck (fun h => hp1 h.symm)
  have HC6 : Hid (Cur (w5.setCell ⟨cb, 3, none⟩ (.int .i64 ((i : Int) + 1))) cb sb) := HC5.out.set 3 _ (by omega) (by omega) (by omega) (by omega)
  have HFL := hide (first_leaf1 cb sb q (w5.setCell ⟨cb, 3, none⟩ (.int .i64 ((i : Int) + 1))) HC6.out ((cell_set_other (by omega)).trans HX.out.1) (HO6.out.cell q0 (fun h => hp2 h.symm)) hp2)
  have HS3 : Hid ((w5.setCell ⟨cb, 3, none⟩ (.int .i64 ((i : Int) + 1))).cell? ⟨cb, 3, none⟩ = some (.int .i64 ((i : Int) + 1))) := World.cell?_setCell_same _ _ _ r3
  have HS2 : Hid ((w5.setCell ⟨cb, 3, none⟩ (.int .i64 ((i : Int) + 1))).cell? ⟨cb, 2, none⟩ = some (.pointer (some ⟨d.b, 0, none⟩))) := (cell_set_other (by omega)).trans HX.out.2.1
  have HS25 : Hid ((w5.setCell ⟨cb, 3, none⟩ (.int .i64 ((i : Int) + 1))).cell? ⟨cb, 25, none⟩ = w.cell? ⟨cb, 25, none⟩) := (cell_set_other (by omega)).trans HX.out.2.2
  have hpd : d.b ≠ cb := fun h => hp h.symm
  have hpk : kb ≠ cb := fun h => hp1 h.symm
  clear t2 t3 t24 s2 s3 dc d0 ck q0 tf3
  go_wp2_with (first
    | (go_at_call 80; refine HFL.out.mono ?_; rintro e w7 ⟨rfl, hL⟩; have HL := hide hL; clear hL)
    | fail)
  go_ret2
  have a := HL.out
  refine ⟨rfl, ⟨a.cur, ⟨(a.same 2 (by omega) (by omega) (by omega)).trans HS2.out, ?_⟩, a.fr, a.dp, (a.same 25 (by omega) (by omega) (by omega)).trans HS25.out, HO6.out.trans a.only (fun k h => .inl h)⟩⟩
  rw [a.same _ (by omega) (by omega) (by omega)]; exact HS3.out
end Go.Proofs.Ybulkcgwo.T
