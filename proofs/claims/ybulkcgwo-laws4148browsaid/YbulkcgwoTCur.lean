import Derived.Test.YbulkcgwoTTree
import Derived.Test.YbulkcgwoTSet
import Derived.Test.YbulkcgwoTRegion
namespace Go.Proofs.Ybulkcgwo.T
open Go.RowKit
set_option linter.unusedVariables false
set_option linter.unusedSimpArgs false

def curCells (sb : Nat) : Array Value := #[.pointer (some ⟨sb, 0, none⟩), .int .i64 0, .pointer none, .int .i64 0, .pointer none, .int .i64 0, .pointer none, .int .i64 0, .pointer none, .int .i64 0, .pointer none, .int .i64 0, .pointer none, .int .i64 0, .pointer none, .int .i64 0, .pointer none, .int .i64 0, .pointer none, .int .i64 0, .pointer none, .int .i64 0, .pointer none, .int .i64 0, .int .i64 0, .int .u64 0, .int .i64 0, .bool false, .int .i64 0, .pointer none, .int .i64 0]
theorem cursor_any (sb : Nat) (w : World) :
    Calls Yba.prog 70 #[.pointer (some ⟨sb, 0, none⟩), .int .i64 0] w fun r w' => r = .returned (.pointer (some ⟨w.heap.size, 0, none⟩)) ∧ w' = w.alloc (.cells (curCells sb) 130) := by
  go_enter Yba.func70, Yba.ntmps70
  go_wp2
  go_ret
  exact ⟨rfl, rfl⟩

/-- The fixed part of a cursor. -/
structure Cur (w : World) (cb sb : Nat) : Prop where
  s : w.cell? ⟨cb, 0, none⟩ = some (.pointer (some ⟨sb, 0, none⟩))
  d : w.cell? ⟨cb, 1, none⟩ = some (.int .i64 0)
  e : w.cell? ⟨cb, 29, none⟩ = some (.pointer none)
  ea : w.cell? ⟨cb, 30, none⟩ = some (.int .i64 0)
  room : w.there cb 0 31
theorem Cur.kept {w w' : World} {cb sb : Nat} (h : Cur w cb sb) {F : Nat → Prop} (hO : Only F w w') (hF : ¬ F cb) : Cur w' cb sb := ⟨hO.cell h.s hF, hO.cell h.d hF, hO.cell h.e hF, hO.cell h.ea hF, hO.there h.room hF⟩
theorem Cur.cell {w : World} {cb sb : Nat} (h : Cur w cb sb) (j : Nat) (hj : j < 31) : ∃ u, w.cell? ⟨cb, j, none⟩ = some u ∧ w.frozen? ⟨cb, j, none⟩ = false := by
  obtain ⟨h1, h2⟩ := h.room j hj
  rw [Nat.zero_add] at h1 h2
  obtain ⟨u, hu⟩ := Option.isSome_iff_exists.1 h1
  exact ⟨u, hu, h2⟩
theorem cur_new (sb : Nat) (w : World) : Cur (w.alloc (.cells (curCells sb) 130)) w.heap.size sb := by
  have hc : ∀ j, (w.alloc (.cells (curCells sb) 130)).cell? ⟨w.heap.size, j, none⟩ = (curCells sb)[j]? := fun j => cell_of_row _ _ _ _ _ _ (heap_alloc_new w _)
  refine ⟨hc 0, hc 1, hc 29, hc 30, fun j hj => ?_⟩
  rw [Nat.zero_add, hc]
  refine ⟨?_, ?_⟩
  · rw [Array.getElem?_eq_getElem (by simpa [curCells] using hj)]; rfl
  · unfold World.frozen?; rw [heap_alloc_new]; simp
/-- One cell of the cursor is written: which is none of the fixed ones. -/
theorem Cur.set {w : World} {cb sb : Nat} (h : Cur w cb sb) (j : Nat) (v : Value) (h0 : j ≠ 0) (h1 : j ≠ 1) (h2 : j ≠ 29) (h3 : j ≠ 30) : Cur (w.setCell ⟨cb, j, none⟩ v) cb sb := by
  have ne : ∀ i, j ≠ i → (w.setCell ⟨cb, j, none⟩ v).cell? ⟨cb, i, none⟩ = w.cell? ⟨cb, i, none⟩ := fun i hi => World.cell?_setCell_other _ _ _ _ (fun e => hi (by injection e))
  exact ⟨(ne 0 h0).trans h.s, (ne 1 h1).trans h.d, (ne 29 h2).trans h.e, (ne 30 h3).trans h.ea, World.there_setCells h.room cb j [_]⟩

/-- The path within the cursor, one frame. -/
def Fram (w : World) (cb k b i : Nat) : Prop := w.cell? ⟨cb, 2 + 2 * k, none⟩ = some (.pointer (some ⟨b, 0, none⟩)) ∧ w.cell? ⟨cb, 3 + 2 * k, none⟩ = some (.int .i64 i)
/-- A frame has been laid. -/
structure Laid (w w' : World) (cb sb k b : Nat) : Prop where
  fr : Fram w' cb k b 0
  dp : w'.cell? ⟨cb, 24, none⟩ = some (.int .i64 ((k + 1 : Nat) : Int))
  same : ∀ j, j ≠ 2 + 2 * k → j ≠ 3 + 2 * k → j ≠ 24 → w'.cell? ⟨cb, j, none⟩ = w.cell? ⟨cb, j, none⟩
  cur : Cur w' cb sb
  only : Only (fun k => k = cb) w w'

theorem cell_set_other {w : World} {b i j : Nat} {v : Value} (h : i ≠ j) : (w.setCell ⟨b, i, none⟩ v).cell? ⟨b, j, none⟩ = w.cell? ⟨b, j, none⟩ := World.cell?_setCell_other _ _ _ _ (fun e => h (by injection e))
theorem laid_mk {w : World} {cb sb k b : Nat} (hC : Cur w cb sb) (hk : k ≤ 1) : Laid w ((((w.setCell ⟨cb, 2 + 2 * k, none⟩ (.pointer (some ⟨b, 0, none⟩))).setCell ⟨cb, 3 + 2 * k, none⟩ (.int .i64 0)).drew).setCell ⟨cb, 24, none⟩ (.int .i64 ((k + 1 : Nat) : Int))) cb sb k b := by
  obtain ⟨u2, hu2, -⟩ := hC.cell (2 + 2 * k) (by omega)
  obtain ⟨u3, hu3, -⟩ := hC.cell (3 + 2 * k) (by omega)
  obtain ⟨u24, hu24, -⟩ := hC.cell 24 (by omega)
  have e3 : (w.setCell ⟨cb, 2 + 2 * k, none⟩ (.pointer (some ⟨b, 0, none⟩))).cell? ⟨cb, 3 + 2 * k, none⟩ = some u3 := (cell_set_other (by omega)).trans hu3
  have e24 : (((w.setCell ⟨cb, 2 + 2 * k, none⟩ (.pointer (some ⟨b, 0, none⟩))).setCell ⟨cb, 3 + 2 * k, none⟩ (.int .i64 0)).drew).cell? ⟨cb, 24, none⟩ = some u24 := by
    rw [World.cell?_drew, cell_set_other (by omega), cell_set_other (by omega)]; exact hu24
  refine ⟨⟨?_, ?_⟩, World.cell?_setCell_same _ _ _ e24, fun j h1 h2 h3 => ?_, ?_, ((((Only.refl (fun k => k = cb) w).setCell (.inl rfl) _).setCell (.inl rfl) _).drew).setCell (.inl rfl) _⟩
  · rw [cell_set_other (by omega), World.cell?_drew, cell_set_other (by omega)]; exact World.cell?_setCell_same _ _ _ hu2
  · rw [cell_set_other (by omega), World.cell?_drew]; exact World.cell?_setCell_same _ _ _ e3
  · rw [cell_set_other (by omega), World.cell?_drew, cell_set_other (by omega), cell_set_other (by omega)]
  · have h1 := ((hC.set (2 + 2 * k) (.pointer (some ⟨b, 0, none⟩)) (by omega) (by omega) (by omega) (by omega)).set (3 + 2 * k) (.int .i64 0) (by omega) (by omega) (by omega) (by omega))
    exact (h1.kept ((Only.refl (fun _ => False) _).drew) (fun h => h)).set 24 _ (by omega) (by omega) (by omega) (by omega)

set_option maxHeartbeats 1000000 in
set_option maxRecDepth 100000 in
theorem first_leaf0 (cb sb b : Nat) (w : World) (hC : Cur w cb sb) (h24 : w.cell? ⟨cb, 24, none⟩ = some (.int .i64 0)) (h0 : w.cell? ⟨b, 0, none⟩ = some (.pointer none)) (hp : cb ≠ b) :
    Calls Yba.prog 80 #[.pointer (some ⟨cb, 2, none⟩), .pointer (some ⟨b, 0, none⟩)] w fun e w' => e = .returned (.tuple #[]) ∧ Laid w w' cb sb 0 b := by
  obtain ⟨u2, hu2, hf2⟩ := hC.cell 2 (by omega)
  obtain ⟨u3, hu3, hf3⟩ := hC.cell 3 (by omega)
  obtain ⟨-, -, hf24⟩ := hC.cell 24 (by omega)
  have HL := hide (laid_mk (k := 0) (b := b) hC (by omega))
  simp only [Nat.mul_zero, Nat.add_zero, Nat.zero_add] at HL
  clear hC
  go_enter Yba.func80, Yba.ntmps80
  go_wp2
  refine wp_loop_rounds 1 ?_
  rw [rounds_succ]
  go_wp2
  go_region_held3 (fun w' => w'.cell? ⟨cb, 24, none⟩ = some (.int .i64 0)) (first | (go_simp; done) | go_keep) (fail)
  have g24 : ((w.setCell ⟨cb, 2, none⟩ (.pointer (some ⟨b, 0, none⟩))).setCell ⟨cb, 3, none⟩ (.int .i64 0)).drew.cell? ⟨cb, 24, none⟩ = some (.int .i64 0) := by rw [World.cell?_drew, cell_set_other (by omega), cell_set_other (by omega)]; exact h24
  have gf : ((w.setCell ⟨cb, 2, none⟩ (.pointer (some ⟨b, 0, none⟩))).setCell ⟨cb, 3, none⟩ (.int .i64 0)).drew.frozen? ⟨cb, 24, none⟩ = false := by rw [World.frozen?_drew, World.frozen?_setCell, World.frozen?_setCell]; exact hf24
  have g0 : ((w.setCell ⟨cb, 2, none⟩ (.pointer (some ⟨b, 0, none⟩))).setCell ⟨cb, 3, none⟩ (.int .i64 0)).drew.cell? ⟨b, 0, none⟩ = some (.pointer none) := (((Only.refl (fun k => k = cb) w).setCell (.inl rfl) _).setCell (.inl rfl) _).drew.cell h0 (fun h => hp h.symm)
  generalize ((w.setCell ⟨cb, 2, none⟩ (.pointer (some ⟨b, 0, none⟩))).setCell ⟨cb, 3, none⟩ (.int .i64 0)).drew = w3 at HL g24 gf g0 ⊢
  clear hu2 hf2 hu3 hf3 h24 hf24 h0
  go_wp2
  (try simp only [Exit.inBlock, Exit.then])
  refine bodyPost_ret (results_none rfl _ _ _) rfl ?_
  exact ⟨rfl, HL.out⟩
end Go.Proofs.Ybulkcgwo.T
