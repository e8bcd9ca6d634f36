import Derived.Test.YbulkcgwoTSplit
import Derived.Lib.Builder
namespace Go.Proofs.Ybulkcgwo.T
open Go.RowKit
set_option linter.unusedVariables false

/-- The set's own cells. -/
structure Own (w : World) (sb : Nat) (cv sv : Value) (root : Option Addr) (n g : Int) (h : Option Addr) : Prop where
  c0 : w.cell? ⟨sb, 0, none⟩ = some cv
  c1 : w.cell? ⟨sb, 1, none⟩ = some sv
  c2 : w.cell? ⟨sb, 2, none⟩ = some (.pointer root)
  c3 : w.cell? ⟨sb, 3, none⟩ = some (.int .i64 n)
  c4 : w.cell? ⟨sb, 4, none⟩ = some (.int .u64 g)
  c5 : w.cell? ⟨sb, 5, none⟩ = some (.pointer h)
  f2 : w.frozen? ⟨sb, 2, none⟩ = false
  f3 : w.frozen? ⟨sb, 3, none⟩ = false
  f4 : w.frozen? ⟨sb, 4, none⟩ = false
  f5 : w.frozen? ⟨sb, 5, none⟩ = false
/-- The holding's cells: it is held by the set, in step. -/
structure Hol (w : World) (sb hb : Nat) (g : Int) : Prop where
  c0 : w.cell? ⟨hb, 0, none⟩ = some (.pointer (some ⟨sb, 0, none⟩))
  c1 : w.cell? ⟨hb, 1, none⟩ = some (.int .u64 g)
  f1 : w.frozen? ⟨hb, 1, none⟩ = false

theorem Own.kept {w w' : World} {sb : Nat} {cv sv : Value} {root : Option Addr} {n g : Int} {h : Option Addr} (H : Own w sb cv sv root n g h) {F : Nat → Prop} (hO : Only F w w') (hF : ¬ F sb) : Own w' sb cv sv root n g h := by
  have hl := World.block_lt_of_cell? w _ H.c0
  exact ⟨hO.cell H.c0 hF, hO.cell H.c1 hF, hO.cell H.c2 hF, hO.cell H.c3 hF, hO.cell H.c4 hF, hO.cell H.c5 hF, (hO.frozen (p := ⟨sb, 2, none⟩) hl hF).trans H.f2, (hO.frozen (p := ⟨sb, 3, none⟩) hl hF).trans H.f3, (hO.frozen (p := ⟨sb, 4, none⟩) hl hF).trans H.f4, (hO.frozen (p := ⟨sb, 5, none⟩) hl hF).trans H.f5⟩
theorem Hol.kept {w w' : World} {sb hb : Nat} {g : Int} (H : Hol w sb hb g) {F : Nat → Prop} (hO : Only F w w') (hF : ¬ F hb) : Hol w' sb hb g := by
  have hl := World.block_lt_of_cell? w _ H.c0
  exact ⟨hO.cell H.c0 hF, hO.cell H.c1 hF, (hO.frozen (p := ⟨hb, 1, none⟩) hl hF).trans H.f1⟩

theorem stale_nil (sb : Nat) (w : World) (h5 : w.cell? ⟨sb, 5, none⟩ = some (.pointer none)) :
    Calls Yba.prog 33 #[.pointer (some ⟨sb, 0, none⟩)] w fun r w' => r = .returned (.bool false) ∧ ∃ n, w' = w.drewN n := by
  go_enter Yba.func33, Yba.ntmps33
  go_wp2
  go_quiet (fail)
  go_wp2
  go_ret
  exact ⟨rfl, _, rfl⟩

theorem stale_held (sb hb : Nat) (g : Int) (w : World) (h4 : w.cell? ⟨sb, 4, none⟩ = some (.int .u64 g)) (h5 : w.cell? ⟨sb, 5, none⟩ = some (.pointer (some ⟨hb, 0, none⟩))) (k1 : w.cell? ⟨hb, 1, none⟩ = some (.int .u64 g)) :
    Calls Yba.prog 33 #[.pointer (some ⟨sb, 0, none⟩)] w fun r w' => r = .returned (.bool false) ∧ ∃ n, w' = w.drewN n := by
  go_enter Yba.func33, Yba.ntmps33
  go_wp2
  go_quiet (fail)
  go_wp2
  go_ret
  exact ⟨rfl, _, rfl⟩

theorem nodes_nil (sb : Nat) (root : Option Addr) (w : World) (h2 : w.cell? ⟨sb, 2, none⟩ = some (.pointer root)) (h5 : w.cell? ⟨sb, 5, none⟩ = some (.pointer none)) :
    Calls Yba.prog 10 #[.pointer (some ⟨sb, 0, none⟩)] w fun r w' => r = .returned (.pointer root) ∧ ∃ n, w' = w.drewN n := by
  go_enter Yba.func10, Yba.ntmps10
  go_wp2_with (first | (go_at_call 33; refine (stale_nil sb _ h5).mono ?_; rintro e w' ⟨rfl, n, rfl⟩) | fail)
  go_ret
  exact ⟨rfl, _, rfl⟩

theorem nodes_held (sb hb : Nat) (root : Option Addr) (g : Int) (w : World) (h2 : w.cell? ⟨sb, 2, none⟩ = some (.pointer root)) (h4 : w.cell? ⟨sb, 4, none⟩ = some (.int .u64 g)) (h5 : w.cell? ⟨sb, 5, none⟩ = some (.pointer (some ⟨hb, 0, none⟩))) (k1 : w.cell? ⟨hb, 1, none⟩ = some (.int .u64 g)) :
    Calls Yba.prog 10 #[.pointer (some ⟨sb, 0, none⟩)] w fun r w' => r = .returned (.pointer root) ∧ ∃ n, w' = w.drewN n := by
  go_enter Yba.func10, Yba.ntmps10
  go_wp2_with (first | (go_at_call 33; refine (stale_held sb hb g _ h4 h5 k1).mono ?_; rintro e w' ⟨rfl, n, rfl⟩) | fail)
  go_ret
  exact ⟨rfl, _, rfl⟩

/-- plant: a new holding, one gen on. -/
theorem plant_any (sb : Nat) (cv sv : Value) (root0 root : Option Addr) (n0 n g : Int) (h0 : Option Addr) (w : World) (H : Own w sb cv sv root0 n0 g h0) :
    Calls Yba.prog 51 #[.pointer (some ⟨sb, 0, none⟩), .pointer root, .int .i64 n] w fun r w' => r = .returned (.tuple #[]) ∧ ∃ g', Own w' sb cv sv root n g' (some ⟨w.heap.size, 0, none⟩) ∧ Hol w' sb w.heap.size g' ∧ Only (fun k => k = sb) w w' := by
  obtain ⟨c0, c1, c2, c3, c4, c5, f2, f3, f4, f5⟩ := H
  have hl := World.block_lt_of_cell? w _ c0
  simp only at hl
  go_enter Yba.func51, Yba.ntmps51
  go_wp2
  go_end0
  refine ⟨rfl, IntKind.u64.wrap (g + 1), ⟨?_, ?_, ?_, ?_, ?_, ?_, ?_, ?_, ?_, ?_⟩, ⟨?_, ?_, ?_⟩, ?_⟩
  all_goals first | (go_simp; done) | exact (((((Only.refl (fun k => k = sb) _).setCell (.inl rfl) _).setCell (.inl rfl) _).setCell (.inl rfl) _).setCell (.inl rfl) _).alloc _

theorem clone_nil (w : World) : Calls Yba.prog 52 #[.pointer none] w fun r w' => r = .returned (.pointer none) ∧ w' = w := by
  go_enter Yba.func52, Yba.ntmps52
  go_wp2
  go_ret
  exact ⟨rfl, rfl⟩

theorem changed_any (sb hb : Nat) (cv sv : Value) (root0 root : Option Addr) (n0 n g g0 : Int) (w : World) (H : Own w sb cv sv root0 n0 g (some ⟨hb, 0, none⟩)) (K : Hol w sb hb g0) (hne : hb ≠ sb) :
    Calls Yba.prog 38 #[.pointer (some ⟨sb, 0, none⟩), .pointer root, .int .i64 n] w fun r w' => r = .returned (.tuple #[]) ∧ ∃ g', Own w' sb cv sv root n g' (some ⟨hb, 0, none⟩) ∧ Hol w' sb hb g' ∧ Only (fun k => k = sb ∨ k = hb) w w' := by
  obtain ⟨c0, c1, c2, c3, c4, c5, f2, f3, f4, f5⟩ := H
  obtain ⟨k0, k1, kf⟩ := K
  have hl := World.block_lt_of_cell? w _ c0
  simp only at hl
  have hne' : sb ≠ hb := fun h => hne h.symm
  go_enter Yba.func38, Yba.ntmps38
  go_wp2
  have hO : Hid (Only (fun k => k = sb ∨ k = hb) w (((w.setCell ⟨sb, 2, none⟩ (.pointer root)).setCell ⟨sb, 3, none⟩ (.int .i64 n)).setCell ⟨sb, 4, none⟩ (.int .u64 (IntKind.u64.wrap (g + 1))))) := (((Only.refl _ _).setCell (.inl (.inl rfl)) _).setCell (.inl (.inl rfl)) _).setCell (.inl (.inl rfl)) _
  have e : Hid (Own (((w.setCell ⟨sb, 2, none⟩ (.pointer root)).setCell ⟨sb, 3, none⟩ (.int .i64 n)).setCell ⟨sb, 4, none⟩ (.int .u64 (IntKind.u64.wrap (g + 1)))) sb cv sv root n (IntKind.u64.wrap (g + 1)) (some ⟨hb, 0, none⟩) ∧ Hol (((w.setCell ⟨sb, 2, none⟩ (.pointer root)).setCell ⟨sb, 3, none⟩ (.int .i64 n)).setCell ⟨sb, 4, none⟩ (.int .u64 (IntKind.u64.wrap (g + 1)))) sb hb g0) := by
    refine ⟨⟨?_, ?_, ?_, ?_, ?_, ?_, ?_, ?_, ?_, ?_⟩, ⟨?_, ?_, ?_⟩⟩
    all_goals (go_simp; done)
  generalize (((w.setCell ⟨sb, 2, none⟩ (.pointer root)).setCell ⟨sb, 3, none⟩ (.int .i64 n)).setCell ⟨sb, 4, none⟩ (.int .u64 (IntKind.u64.wrap (g + 1)))) = w1 at hO e ⊢
  clear c0 c1 c2 c3 c4 c5 f2 f3 f4 f5 k0 k1 kf
  obtain ⟨⟨c0, c1, c2, c3, c4, c5, f2, f3, f4, f5⟩, ⟨k0, k1, kf⟩⟩ := e.out
  generalize IntKind.u64.wrap (g + 1) = g1 at e c4 ⊢
  go_region_held3 (fun w' => w'.cell? ⟨sb, 4, none⟩ = some (.int .u64 g1) ∧ w'.cell? ⟨sb, 5, none⟩ = some (.pointer (some ⟨hb, 0, none⟩))) (go_keep) (fail)
  go_wp2
  go_end0
  refine ⟨rfl, g1, ⟨?_, ?_, ?_, ?_, ?_, ?_, ?_, ?_, ?_, ?_⟩, ⟨?_, ?_, ?_⟩, ?_⟩
  all_goals first | (go_simp; done) | exact (hO.out.setCell (.inl (.inr rfl)) _).drew | exact hO.out.drew.setCell (.inl (.inr rfl)) _

theorem neq26 (b : Nat) (w : World) : (binOp .neq 26 (.pointer (some ⟨b, 0, none⟩)) (.pointer (some ⟨b, 0, none⟩))).run Yba.prog w = .ok (.bool false) w := by
  obtain ⟨j, hj⟩ : ∃ j, Yba.prog.info? 38 = some j := Option.isSome_iff_exists.1 (by kernel_rfl)
  exact Lib.run_neq_ptr_same w ⟨b, 0, none⟩ Yba.underlying26 hj
set_option maxRecDepth 100000 in
theorem hold_nil (sb : Nat) (cv sv : Value) (n g : Int) (w : World) (H : Own w sb cv sv none n g none) :
    Calls Yba.prog 36 #[.pointer (some ⟨sb, 0, none⟩)] w fun r w' => r = .returned (.tuple #[]) ∧ ∃ g' hb, w.heap.size ≤ hb ∧ Own w' sb cv sv none n g' (some ⟨hb, 0, none⟩) ∧ Hol w' sb hb g' ∧ Only (fun k => k = sb) w w' := by
  have HO := hide H
  obtain ⟨c0, c1, c2, c3, c4, c5, f2, f3, f4, f5⟩ := H
  go_enter Yba.func36, Yba.ntmps36
  go_wp2_with (first | (go_at_call 10; refine (nodes_nil sb none _ c2 c5).mono ?_; rintro e w' ⟨rfl, nn, rfl⟩) | fail)
  have hO1 : Only (fun k => k = sb) w (w.drewN nn) := (Only.refl _ _).drewN nn
  have HO1 : Hid (∀ m, Own (w.drewN m) sb cv sv none n g none) := fun m => HO.out.kept ((Only.refl (fun _ => False) w).drewN m) (fun h => h)
  go_region_held3 (fun w' => w'.cell? ⟨sb, 3, none⟩ = some (.int .i64 n)) (first | go_keep | exact hOw.c3) ((first | (go_at_call 52; refine (clone_nil _).mono ?_; rintro e w' ⟨rfl, rfl⟩) | (go_at_call 51; refine (plant_any sb cv sv none none n n g none _ (by simpa using HO1.out (nn + 1))).mono ?_; rintro e w' ⟨rfl, g', hOw, hHo, hOn⟩)))
  go_wp2
  go_end0
  exact ⟨rfl, g', _, Nat.le_refl _, hOw, hHo, ((Only.refl (fun k => k = sb) w).drewN (nn + 1)).trans hOn (fun k h => .inl h)⟩

set_option maxRecDepth 100000 in
theorem hold_held (sb hb : Nat) (cv sv : Value) (root : Option Addr) (n g : Int) (w : World) (H : Own w sb cv sv root n g (some ⟨hb, 0, none⟩)) (K : Hol w sb hb g) :
    Calls Yba.prog 36 #[.pointer (some ⟨sb, 0, none⟩)] w fun r w' => r = .returned (.tuple #[]) ∧ ∃ m, w' = w.drewN m := by
  obtain ⟨c0, c1, c2, c3, c4, c5, f2, f3, f4, f5⟩ := H
  obtain ⟨k0, k1, kf⟩ := K
  have hp := neq26 sb
  go_enter Yba.func36, Yba.ntmps36
  go_wp2_with (first | (go_at_call 10; refine (nodes_held sb hb root g _ c2 c4 c5 k1).mono ?_; rintro e w' ⟨rfl, nn, rfl⟩) | fail)
  go_end0
  exact ⟨rfl, nn, rfl⟩
end Go.Proofs.Ybulkcgwo.T
