import Derived.Test.YbulkcgwoTFromR
namespace Go.Proofs.Ybulkcgwo.T
open Go.RowKit
set_option linter.unusedVariables false
set_option linter.unusedSimpArgs false

set_option maxHeartbeats 4000000 in
set_option maxRecDepth 100000 in
theorem refill_joinR (d : Nd) (kb : Nat) (L1 : List Nd) (n f : Nd) (L2 : List Nd) (w : World) (hT : Two w d kb (L1 ++ ([n, f] ++ L2))) (hl : d.xs.length ≤ 125) (hf6 : f.xs.length ≤ 62) (hn1 : n.xs.length ≤ 1000) (hno : NoLeft L1) :
    Calls Yba.prog 58 #[.pointer (some ⟨d.b, 0, none⟩), .int .i64 ((L1.length : Nat) : Int)] w fun e w' => e = .returned (.tuple #[]) ∧ TwoJoin d kb L1 n f L2 w w' := by
  have HT := hide hT
  have hi : L1.length < d.xs.length := by have := hT.len; simp at this; omega
  have hfm : f ∈ L1 ++ ([n, f] ++ L2) := by simp
  have ck0 := kid_at (L1 := L1) (n := n) (L2 := f :: L2) hT.K
  have ck1 := kid_at (L1 := L1 ++ [n]) (n := f) (L2 := L2) (by simpa using hT.K)
  rw [List.length_append, List.length_singleton] at ck1
  have fc := (hT.leaf f hfm).1.cell
  have dc := hT.E.cell
  have d0 := hT.K.cell
  have HNO : Hid (L1.length = 0 ∨ ∃ (k : Nat) (p : Nd), L1.length = k + 1 ∧ w.cell? ⟨kb, k, none⟩ = some (.pointer (some ⟨p.b, 0, none⟩)) ∧ w.cell? ⟨p.b, 1, none⟩ = some (.slice (some ⟨p.eb, p.eo, none⟩) p.xs.length p.cap) ∧ p.xs.length ≤ 62) := by
    rcases hno with rfl | ⟨L0, p, rfl, hp⟩
    · exact .inl rfl
    · refine .inr ⟨L0.length, p, by simp, kid_at (L1 := L0) (n := p) (L2 := [n, f] ++ L2) (by simpa using hT.K), (hT.leaf p (by simp)).1.cell, hp⟩
  have HJ := hide (join_two d kb L1 n f L2 w hT hl hn1 (by omega))
  clear hT hno
  generalize hiN : L1.length = i at *
  have j0 : (i : Int) < 127 := by omega
  have j1 : (i : Int) + 1 < 127 := by omega
  have j2 : (i : Int) < (d.xs.length : Int) := by omega
  have j3 : ¬ (62 : Int) < (f.xs.length : Int) := by omega
  have j4 : ¬ (i : Int) = (d.xs.length : Int) := by omega
  have hw1 : IntKind.i64.wrap ((i : Int) + 1) = (i : Int) + 1 := by simp only [IntKind.wrap_i64]; omega
  go_enter Yba.func58, Yba.ntmps58
  go_upto_region 1 with fail
  go_cut [36] from 19 to 35 (fun u wx => u = .bool false ∧ wx = w)
  case first =>
    rcases HNO.out with h0 | ⟨k, p, hk, hpc, hpe, hpl⟩
    · subst h0
      go_wp2_with fail
      go_meet
      exact ⟨rfl, rfl⟩
    · subst hk
      have z0 : (k : Int) < 127 := by omega
      have z1 : ¬ (62 : Int) < (p.xs.length : Int) := by omega
      have z2 : (0 : Int) < (k : Int) + 1 := by omega
      have z3 : IntKind.i64.wrap (k : Int) = (k : Int) := by simp only [IntKind.wrap_i64]; omega
      go_wp2_with fail
      go_meet
      exact ⟨rfl, rfl⟩
  case rest =>
    obtain ⟨rfl, hwc⟩ := hcut
    rw [hwc]
    clear hwc
    go_wp2_with (first
      | (go_at_call 74; refine HJ.out.mono ?_; rintro e w4 ⟨rfl, hJ⟩; have HJ2 := hide hJ; clear hJ HJ)
      | fail)
    go_end0
    exact ⟨rfl, HJ2.out⟩

set_option maxHeartbeats 4000000 in
set_option maxRecDepth 100000 in
theorem refill_joinL (d : Nd) (kb : Nat) (L1 : List Nd) (p n : Nd) (w : World) (hT : Two w d kb (L1 ++ ([p, n] ++ []))) (hl : d.xs.length ≤ 125) (hp6 : p.xs.length ≤ 62) (hn1 : n.xs.length ≤ 1000) :
    Calls Yba.prog 58 #[.pointer (some ⟨d.b, 0, none⟩), .int .i64 ((L1.length + 1 : Nat) : Int)] w fun e w' => e = .returned (.tuple #[]) ∧ TwoJoin d kb L1 p n [] w w' := by
  have HT := hide hT
  have hi : L1.length + 1 = d.xs.length := by have := hT.len; simp at this; omega
  have hpm : p ∈ L1 ++ ([p, n] ++ []) := by simp
  have ck0 := kid_at (L1 := L1) (n := p) (L2 := [n]) hT.K
  have ck1 := kid_at (L1 := L1 ++ [p]) (n := n) (L2 := []) (by simpa using hT.K)
  rw [List.length_append, List.length_singleton] at ck1
  have pc := (hT.leaf p hpm).1.cell
  have dc := hT.E.cell
  have d0 := hT.K.cell
  have HJ := hide (join_two d kb L1 p n [] w hT hl (by omega) hn1)
  clear hT
  generalize hiN : L1.length = i at *
  have j0 : (i : Int) < 127 := by omega
  have j1 : (i : Int) + 1 < 127 := by omega
  have j2 : ¬ (i : Int) + 1 < (i : Int) + 1 := by omega
  have j3 : ¬ (62 : Int) < (p.xs.length : Int) := by omega
  rw [← hi] at dc
  clear hi hl
  have z2 : (0 : Int) < (i : Int) + 1 := by omega
  have z3 : IntKind.i64.wrap (i : Int) = (i : Int) := by simp only [IntKind.wrap_i64]; omega
  go_enter Yba.func58, Yba.ntmps58
  go_wp2_with (first
    | (go_at_call 74; refine HJ.out.mono ?_; rintro e w4 ⟨rfl, hJ⟩; have HJ2 := hide hJ; clear hJ HJ)
    | fail)
  go_end0
  exact ⟨rfl, HJ2.out⟩
end Go.Proofs.Ybulkcgwo.T
