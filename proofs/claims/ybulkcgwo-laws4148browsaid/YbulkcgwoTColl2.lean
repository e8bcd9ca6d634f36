import Derived.Test.YbulkcgwoTColl
namespace Go.Proofs.Ybulkcgwo.T
open Go.RowKit Go.Shelf
set_option linter.unusedVariables false
set_option linter.unusedSimpArgs false

theorem walk45 (sb : Nat) (w : World) :
    Calls Yba.prog 45 #[.pointer (some ⟨sb, 0, none⟩), .int .i64 0] w fun r w' => r = .returned (.func (.func 69) #[] #[.pointer (some ⟨w.heap.size, 0, none⟩), .pointer (some ⟨w.heap.size + 1, 0, none⟩)]) ∧ w' = (w.alloc (.cells #[.pointer (some ⟨sb, 0, none⟩)] 26)).alloc (.cells #[.int .i64 0] 93) := by
  go_enter Yba.func45, Yba.ntmps45
  go_wp2
  go_ret
  exact ⟨rfl, rfl⟩

/-- All: the iterator's value, and its two boxes. -/
theorem all_any (sb : Nat) (w : World) :
    Calls Yba.prog 25 #[.pointer (some ⟨sb, 0, none⟩)] w fun r w' => ∃ p2 p3, r = .returned (.func (.func 69) #[] #[.pointer (some ⟨p2, 0, none⟩), .pointer (some ⟨p3, 0, none⟩)]) ∧ w'.cell? ⟨p2, 0, none⟩ = some (.pointer (some ⟨sb, 0, none⟩)) ∧ w'.cell? ⟨p3, 0, none⟩ = some (.int .i64 0) ∧ Only (fun _ => False) w w' := by
  go_enter Yba.func25, Yba.ntmps25
  go_wp2_with (first | (go_at_call 45; refine (walk45 sb w).mono ?_; rintro r w1 ⟨rfl, rfl⟩) | fail)
  go_ret
  refine ⟨_, _, rfl, ?_, ?_, ((Only.refl _ _).alloc _).alloc _⟩
  · rw [World.cell?_alloc_past _ _ _ (by simp), cell_of_row _ _ _ _ _ _ (heap_alloc_new w _)]; rfl
  · have := cell_of_row _ _ 0 _ _ _ (heap_alloc_new (w.alloc (.cells #[.pointer (some ⟨sb, 0, none⟩)] 26)) (.cells #[.int .i64 0] 93))
    rw [World.size_alloc] at this
    rw [this]; rfl

/-- Collect over it. -/
theorem collect_any (p2 p3 sb hb : Nat) (cv sv : Value) (n g : Int) (t : Tree) (w : World) (hR : Reads w sb hb cv sv n g t) (c2 : w.cell? ⟨p2, 0, none⟩ = some (.pointer (some ⟨sb, 0, none⟩))) (c3 : w.cell? ⟨p3, 0, none⟩ = some (.int .i64 0)) (hne : flatT t ≠ []) :
    Calls Yba.prog 24 #[.func (.func 69) #[] #[.pointer (some ⟨p2, 0, none⟩), .pointer (some ⟨p3, 0, none⟩)]] w fun e w' => ∃ gb gc, e = .returned (.slice (some ⟨gb, 0, none⟩) (flatT t).length gc) ∧ w'.rangeAt gb 0 (ints (flatT t)) ∧ Only (fun _ => False) w w' := by
  have HA := hide (appendSeq_any p2 p3 sb hb cv sv n g t w hR c2 c3)
  clear hR c2 c3
  go_enter Yba.func24, Yba.ntmps24
  go_wp2_with (first | (go_at_call 44; refine HA.out.mono ?_; rintro r w1 ⟨v, rfl, hrow, hO⟩; have HRw := hide hrow; have HO := hide hO; clear hrow hO HA) | fail)
  go_ret
  have hpos : 0 < (flatT t).length := List.length_pos_iff.2 hne
  have hown := HRw.out
  rcases hown.2 with ⟨_, h0⟩ | ⟨gb, gc, cur, rfl, _⟩
  · omega
  · refine ⟨gb, gc, rfl, fun j u hj => ?_, HO.out⟩
    have := hown.cells rfl j u hj
    rw [Addr.add_lit] at this; exact this
end Go.Proofs.Ybulkcgwo.T
