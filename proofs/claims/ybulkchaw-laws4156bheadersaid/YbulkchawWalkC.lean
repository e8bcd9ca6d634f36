import Derived.Test.YbulkchawWalkB
namespace Go.Proofs.Ybulkchaw
open Go.RowKit
set_option linter.unusedVariables false

theorem own_shape {w : World} {base n : Nat} {v : Value} {xs : List Value} (h : w.ownsRow base 5 1 v n xs) (hn : 0 < n) : ∃ g cap, v = .slice (some ⟨g, 0, none⟩) n cap ∧ ∀ j, j < n → w.cell? ⟨g, j, none⟩ = xs[j]? := by
  have h' := h
  obtain ⟨_, h2⟩ := h'
  rcases h2 with ⟨_, h0⟩ | ⟨g, cap, cur, rfl, _⟩
  · omega
  · exact ⟨g, cap, rfl, fun j hj => h.cellAt j (by omega)⟩

set_option maxHeartbeats 4000000 in
set_option maxRecDepth 100000 in
theorem law_no (code flags vendor len : Int) (w : World) (w0 : (Lit.int .u32 code).wf = true) (w1 : (Lit.int .u8 flags).wf = true) (w2 : (Lit.int .u32 vendor).wf = true) (h128 : ¬ 128 ≤ flags) :
    Calls Yba.prog 4 #[.int .u32 code, .int .u8 flags, .int .u32 vendor, .int .i64 len] w fun e w' => e = .returned (.bool true) ∧ Below w.heap.size w w' := by
  have ha := and_top flags w1
  rw [if_neg h128] at ha
  have hbd := bounds_u32 w0
  have hbv := bounds_u32 w2
  have hbf := bounds_u8 w1
  go_enter Yba.func4, Yba.ntmps4
  go_wp2_with (first
    | (go_at_call 6; refine (header_no w.heap.size code flags vendor len (w.alloc (.cells #[.int .u32 code, .int .u8 flags, .int .u32 vendor, .slice none 0 0] 26)) (by simp) (by simp) (by simp) (by simp) w0 w1 w2 ha).mono ?_; rintro e w9 ⟨v9, rfl, ⟨x, hx, ho⟩, hb9⟩; obtain ⟨g, cap, hv9, hcell⟩ := own_shape ho (by omega); rw [hv9]; have HX := hide hx; have HC := hide hcell; clear hcell hx ho hv9; have k0 := HC.out 0 (by omega); have k1 := HC.out 1 (by omega); have k2 := HC.out 2 (by omega); have k3 := HC.out 3 (by omega); have k4 := HC.out 4 (by omega); simp [be] at k0 k1 k2 k3 k4; rw [HX.out] at k4)
    | go_in)
  go_ret
  exact ⟨rfl, ((Below.refl _ _).alloc (Nat.le_refl _) _).trans (hb9.mono (by simp))⟩

set_option maxHeartbeats 4000000 in
set_option maxRecDepth 100000 in
theorem law_yes (code flags vendor len : Int) (w : World) (w0 : (Lit.int .u32 code).wf = true) (w1 : (Lit.int .u8 flags).wf = true) (w2 : (Lit.int .u32 vendor).wf = true) (h128 : 128 ≤ flags) :
    Calls Yba.prog 4 #[.int .u32 code, .int .u8 flags, .int .u32 vendor, .int .i64 len] w fun e w' => e = .returned (.bool true) ∧ Below w.heap.size w w' := by
  have ha := and_top flags w1
  rw [if_pos h128] at ha
  have hbd := bounds_u32 w0
  have hbv := bounds_u32 w2
  have hbf := bounds_u8 w1
  go_enter Yba.func4, Yba.ntmps4
  go_wp2_with (first
    | (go_at_call 6; refine (header_yes w.heap.size code flags vendor len (w.alloc (.cells #[.int .u32 code, .int .u8 flags, .int .u32 vendor, .slice none 0 0] 26)) (by simp) (by simp) (by simp) (by simp) w0 w1 w2 ha).mono ?_; rintro e w9 ⟨v9, rfl, ⟨x, hx, ho⟩, hb9⟩; obtain ⟨g, cap, hv9, hcell⟩ := own_shape ho (by omega); rw [hv9]; have HX := hide hx; have HC := hide hcell; clear hcell hx ho hv9; have k0 := HC.out 0 (by omega); have k1 := HC.out 1 (by omega); have k2 := HC.out 2 (by omega); have k3 := HC.out 3 (by omega); have k4 := HC.out 4 (by omega); have k8 := HC.out 8 (by omega); have k9 := HC.out 9 (by omega); have k10 := HC.out 10 (by omega); have k11 := HC.out 11 (by omega); simp [be] at k0 k1 k2 k3 k4 k8 k9 k10 k11; rw [HX.out] at k4)
    | go_in)
  go_ret
  exact ⟨rfl, ((Below.refl _ _).alloc (Nat.le_refl _) _).trans (hb9.mono (by simp))⟩

end Go.Proofs.Ybulkchaw
