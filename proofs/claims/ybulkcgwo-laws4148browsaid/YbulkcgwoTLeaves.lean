import Derived.Test.YbulkcgwoTRow
namespace Go.Proofs.Ybulkcgwo.T
open Go.RowKit
set_option linter.unusedVariables false
set_option linter.unusedSimpArgs false

theorem row_made (w : World) (c : Nat) (hc : c ≤ 1000000) :
    RowAt (((w.alloc (madeObj (.pointer none) c 28)).alloc (.cells #[.slice (some ⟨w.heap.size, 0, none⟩) 0 c, .slice (some ⟨w.heap.size + 1 + 1, 0, none⟩) 0 (c - 1), .slice none 0 0] 89)).alloc (madeObj (.int .i64 0) (c - 1) 3)) w.heap.size (w.heap.size + 1) [] [] := by
  generalize hR : (#[.slice (some ⟨w.heap.size, 0, none⟩) 0 c, .slice (some ⟨w.heap.size + 1 + 1, 0, none⟩) 0 (c - 1), .slice none 0 0] : Array Value) = R
  have z1 : (w.alloc (madeObj (.pointer none) c 28)).heap.size = w.heap.size + 1 := by simp
  have z2 : ((w.alloc (madeObj (.pointer none) c 28)).alloc (.cells R 89)).heap.size = w.heap.size + 1 + 1 := by simp
  have z3 : (((w.alloc (madeObj (.pointer none) c 28)).alloc (.cells R 89)).alloc (madeObj (.int .i64 0) (c - 1) 3)).heap.size = w.heap.size + 1 + 1 + 1 := by simp
  have O1 : Only (fun _ => False) (w.alloc (madeObj (.pointer none) c 28)) (((w.alloc (madeObj (.pointer none) c 28)).alloc (.cells R 89)).alloc (madeObj (.int .i64 0) (c - 1) 3)) := ((Only.refl _ _).alloc _).alloc _
  have O2 : Only (fun _ => False) ((w.alloc (madeObj (.pointer none) c 28)).alloc (.cells R 89)) (((w.alloc (madeObj (.pointer none) c 28)).alloc (.cells R 89)).alloc (madeObj (.int .i64 0) (c - 1) 3)) := (Only.refl _ _).alloc _
  have hcell : ∀ j v, R[j]? = some v → (((w.alloc (madeObj (.pointer none) c 28)).alloc (.cells R 89)).alloc (madeObj (.int .i64 0) (c - 1) 3)).cell? ⟨w.heap.size + 1, j, none⟩ = some v := by
    intro j v hv
    refine O2.cell (p := ⟨w.heap.size + 1, j, none⟩) ?_ (fun h => h)
    rw [← z1, cell_of_row _ _ _ _ _ _ (heap_alloc_new _ _)]; exact hv
  have hfr : ∀ j, (((w.alloc (madeObj (.pointer none) c 28)).alloc (.cells R 89)).alloc (madeObj (.int .i64 0) (c - 1) 3)).frozen? ⟨w.heap.size + 1, j, none⟩ = false := by
    intro j
    rw [O2.frozen (p := ⟨w.heap.size + 1, j, none⟩) (by rw [z2]; show w.heap.size + 1 < _; omega) (fun h => h)]
    rw [← z1]; unfold World.frozen?; rw [heap_alloc_new]; simp
  have t1 := O1.there (made_there one87 c w) (fun h => h)
  have t2 := made_there one23 (c - 1) ((w.alloc (madeObj (.pointer none) c 28)).alloc (.cells R 89))
  rw [z2] at t2
  subst hR
  exact ⟨w.heap.size, 0, c, w.heap.size + 1 + 1, 0, c - 1, ⟨hcell 0 _ rfl, hcell 1 _ rfl, hcell 2 _ rfl, hfr 0, hfr 1, Nat.zero_le _, by unfold maxLen; omega, fun j v hv => by simp [ptrs] at hv, t1, Nat.zero_le _, by unfold maxLen; omega, fun j v hv => by simp [ints] at hv, t2, by omega, by omega, by omega, by rw [z3]; omega, by rw [z3]; omega⟩, by omega, by omega, by omega⟩

set_option maxHeartbeats 1000000 in
set_option maxRecDepth 100000 in
theorem leavesS (o : Ords) (G : o.Good) (sb h' : Nat) (t : Tree) (w : World) (hS : St o w sb (some h') t) (hne : t ≠ none) (hn : (flatT t).length ≤ 5000) :
    Calls Yba.prog 22 #[.pointer (some ⟨sb, 0, none⟩)] w fun r w' => ∃ rb, r = .returned (.pointer (some ⟨rb, 0, none⟩)) ∧ RowAt w' w.heap.size rb ((leafsT t).map Nd.b) (sepsT t) ∧ Only (fun _ => False) w w' := by
  obtain ⟨g, hg, hh⟩ := hS.own
  have c3 := hg.c3
  have HG := hide hg
  have HH := hide (hh h' rfl)
  have HS := hide hS
  clear hg hh hS
  generalize hN : (flatT t).length = N at c3 hn HG
  have HN := hide hN
  clear hN
  go_enter Yba.func22, Yba.ntmps22
  obtain ⟨c, hc⟩ : ∃ c, c = (N + 1) / 63 + 1 := ⟨_, rfl⟩
  have s1 := run_mk one87 c (((N : Int) + 1) / 63 + 1) (by omega) (by omega)
  have s2 := run_mk one23 (c - 1) ((c : Int) - 1) (by omega) (by omega)
  have hw1 : IntKind.i64.wrap ((c : Int) - 1) = (c : Int) - 1 := by simp only [IntKind.wrap_i64]; omega
  have HC := hide hc
  clear hc
  have hc1 : c ≤ 1000 := by have := HC.out; omega
  go_wp2_with fail
  have HR1 := hide (row_made w c (by omega))
  have HO1 : Hid (Only (fun _ => False) w (((w.alloc (madeObj (.pointer none) c 28)).alloc (.cells #[.slice (some ⟨w.heap.size, 0, none⟩) 0 c, .slice (some ⟨w.heap.size + 1 + 1, 0, none⟩) 0 (c - 1), .slice none 0 0] 89)).alloc (madeObj (.int .i64 0) (c - 1) 3))) := (((Only.refl _ _).alloc _).alloc _).alloc _
  generalize (((w.alloc (madeObj (.pointer none) c 28)).alloc (.cells #[.slice (some ⟨w.heap.size, 0, none⟩) 0 c, .slice (some ⟨w.heap.size + 1 + 1, 0, none⟩) 0 (c - 1), .slice none 0 0] 89)).alloc (madeObj (.int .i64 0) (c - 1) 3)) = w1 at HR1 HO1 ⊢
  obtain ⟨rb, hrb⟩ : ∃ rb, rb = w.heap.size + 1 := ⟨_, rfl⟩
  rw [← hrb] at HR1 ⊢
  have HRB := hide hrb
  clear hrb
  have HS1 := hide (HS.out.kept G HO1.out (fun h => h) (fun _ _ h => h) (fun _ _ h => h) (fun _ _ h => h))
  have HG1 := hide (HG.out.kept HO1.out (fun h => h))
  have HH1 := hide (HH.out.kept HO1.out (fun h => h))
  clear s1 s2 hw1 c3
  refine (nodes_held sb h' (rootT t) g w1 HG1.out.c2 HG1.out.c4 HG1.out.c5 HH1.out.c1).mono ?_
  rintro r w2 ⟨rfl, q, rfl⟩
  have hO2 : Hid (Only (fun _ => False) w1 (w1.drewN q)) := (Only.refl _ _).drewN q
  generalize w1.drewN q = w2 at hO2 ⊢
  have HR2 := hide (HR1.out.kept hO2.out (fun _ _ h => h))
  obtain ⟨a, ha, hcall⟩ := gatherT w.heap.size rb t w2 HR2.out (Nat.le_trans HO1.out.size hO2.out.size) (HS1.out.ok.kept hO2.out (fun _ _ h => h)) (fun k hk => foot_lt HS.out.ok hk) hne (by rw [HN.out]; exact hn)
  have HCall := hide hcall
  have HA := hide ha
  clear hcall ha
  go_wp2_with (first | (go_at_call 43; refine HCall.out.mono ?_; rintro r w3 ⟨rfl, hR3, hO3⟩; have HR3 := hide hR3; have HO3 := hide hO3; clear hR3 hO3) | fail)
  go_ret
  exact ⟨rb, rfl, HR3.out, ((HO1.out.trans hO2.out (fun i h => False.elim h)).trans HO3.out (fun i h => .inr h))⟩
end Go.Proofs.Ybulkcgwo.T
