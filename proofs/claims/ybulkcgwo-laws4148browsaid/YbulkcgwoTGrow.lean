import Derived.Test.YbulkcgwoTEnd
import Derived.Lib.AppendZerosOnto
namespace Go.Proofs.Ybulkcgwo.T
open Go.RowKit
set_option linter.unusedVariables false
set_option linter.unusedSimpArgs false

def grownObj (z : Value) (k g : Nat) (e : TypeId) : Obj := .cells (([] : List Value).toArray ++ Builtin.zeroCells z.cells k ++ Builtin.zeroCells z.cells (g - k)) e
theorem grown_there {t e : TypeId} {z : Value} (T : OneT t e z) (k g : Nat) (hk : k ≤ g) (w : World) : (w.alloc (grownObj z k g e)).there w.heap.size 0 g := by
  intro j hj
  rw [Nat.zero_add]
  have hs : (([] : List Value).toArray ++ Builtin.zeroCells z.cells k ++ Builtin.zeroCells z.cells (g - k)).size = g := by
    rw [T.zc]; simp [Builtin.zeroCells]; omega
  refine ⟨?_, ?_⟩
  · unfold grownObj; rw [cell_of_row _ _ _ _ _ _ (heap_alloc_new w _), Array.getElem?_eq_getElem (by omega)]; rfl
  · unfold World.frozen?; rw [heap_alloc_new]; simp [grownObj]

theorem run_zeros {t e : TypeId} {z : Value} (T : OneT t e z) (ty : TypeId) (k : Nat) (h0 : 0 < k) (hk : k ≤ 100000) (w : World) :
    (Builtin.append_ #[t, 3] ty #[.slice none 0 0, .int .i64 (k : Int)]).run Yba.prog w = .ok (.slice (some ⟨w.heap.size, 0, none⟩) k (grownCap w k 0 e)) (w.drew.alloc (grownObj z k (grownCap w k 0 e) e)) := by
  obtain ⟨i, hi, hz0, hz1, hz2⟩ := info_parts T.info
  have hold : (Builtin.firstCells i.size 0 (.slice none 0 0)).run Yba.prog w.drew = .ok ([] : List Value).toArray w.drew := run_firstCells_none w.drew i.size 0 0 0
  have := Lib.run_append_grow_zeros (P := Yba.prog) w t 3 ty e i z .i64 .i64 T.und Yba.underlying3 hi hz0 none 0 0 [] hold k h0 (by omega) (by omega) (by omega) (by rw [hz2]; omega) (by rw [hz2]; exact growslice_fits (by omega) (by omega))
  rw [Nat.zero_add] at this
  exact this

structure Grew (w : World) (n cap : Nat) (w' : World) : Prop where
  le : n ≤ cap
  max : cap ≤ maxLen
  room : w'.there w.heap.size 0 cap
  size : w'.heap.size = w.heap.size + 1
  only : Only (fun _ => False) w w'

theorem grew_of {t e : TypeId} {z : Value} (T : OneT t e z) (k : Nat) (hk : k ≤ 100000) (w : World) : Grew w k (grownCap w k 0 e) (w.drew.alloc (grownObj z k (grownCap w k 0 e) e)) :=
  ⟨grownCap_ge _ _ _ _, grownCap_le_maxLen _ _ _ _ (by unfold maxLen; omega), grown_there T _ _ (grownCap_ge _ _ _ _) w.drew, by simp, ((Only.refl _ _).drew).alloc _⟩

theorem cut_nil {t e : TypeId} {z : Value} (T : OneT t e z) (w : World) : (Instr.slice t (.slice none 0 0) none (some (.int .i64 0)) none).run Yba.prog w = .ok (.slice none 0 0) w := by
  rw [run_slice_h (P := Yba.prog) w t _ 0 0 (by rw [T.el]; exact T.und) .i64 0 (by omega) (by omega), run_size T]
  simp [sliced, Result.andThen]

section
variable {ops : Array Oper} {rest : List Oper} {o : Oper} {a : Act} {w : World} {Q : Exit → Act → World → Prop}
theorem wpList_zeros {t e : TypeId} {z : Value} (T : OneT t e z) (hg : o.guard = none) (s x : Operand) (hop : o.op = Op.call { callee := Callee.builtin Builtin.append, args := #[s, x], argTypes := #[t, 3] })
    (n : Nat) (hs : a.eval s = .slice none 0 0) (hx : a.eval x = .int .i64 (n : Int)) (h0 : 0 < n) (hn : n ≤ 100000)
    (hK : ∀ cap w', Grew w n cap w' → wpList Yba.prog ops Q rest (a.put o.dst (.slice (some ⟨w.heap.size, 0, none⟩) n cap)) w') :
    wpList Yba.prog ops Q (o :: rest) a w := by
  refine wpList_plain hg fun K hK' => ?_
  have hrun := run_zeros T o.type n h0 hn w
  have hG := grew_of T n hn w
  unfold Oper.wp
  simp [execOp, hop, resolve, invoke, builtin, hs, hx, hrun, Result.andThen]
  exact hK' _ _ (hK _ _ hG)
end

set_option maxHeartbeats 1000000 in
theorem grow87 (n : Nat) (w : World) (h0 : 0 < n) (hn : n ≤ 100000) :
    Calls Yba.prog 93 #[.slice none 0 0, .int .i64 n] w fun r w' => ∃ cap, r = .returned (.slice (some ⟨w.heap.size, 0, none⟩) 0 cap) ∧ Grew w n cap w' := by
  have s2 := cut_nil one87
  have s3 := fun g => run_cutTo one87 w.heap.size 0 n g 0 0 rfl (Nat.zero_le _)
  have i1 : ¬ ((n : Int) < 0) := by omega
  have i2 : (0 : Int) < (n : Int) := by omega
  go_enter Yba.func93, Yba.ntmps93
  go_wp2_with (first | (at_builtin; refine wpList_zeros one87 rfl (.tmp 20) (.tmp 21) rfl n rfl rfl h0 hn ?_; intro cap w1 hG; have HG := hide hG; clear hG) | fail)
  go_ret
  exact ⟨cap, rfl, HG.out⟩
set_option maxHeartbeats 1000000 in
theorem grow23 (n : Nat) (w : World) (h0 : 0 < n) (hn : n ≤ 100000) :
    Calls Yba.prog 94 #[.slice none 0 0, .int .i64 n] w fun r w' => ∃ cap, r = .returned (.slice (some ⟨w.heap.size, 0, none⟩) 0 cap) ∧ Grew w n cap w' := by
  have s2 := cut_nil one23
  have s3 := fun g => run_cutTo one23 w.heap.size 0 n g 0 0 rfl (Nat.zero_le _)
  have i1 : ¬ ((n : Int) < 0) := by omega
  have i2 : (0 : Int) < (n : Int) := by omega
  go_enter Yba.func94, Yba.ntmps94
  go_wp2_with (first | (at_builtin; refine wpList_zeros one23 rfl (.tmp 20) (.tmp 21) rfl n rfl rfl h0 hn ?_; intro cap w1 hG; have HG := hide hG; clear hG) | fail)
  go_ret
  exact ⟨cap, rfl, HG.out⟩
end Go.Proofs.Ybulkcgwo.T
