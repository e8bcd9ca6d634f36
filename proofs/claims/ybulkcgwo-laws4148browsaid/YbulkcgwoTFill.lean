import Derived.Test.YbulkcgwoTPut
import Derived.Deep.DeepCutAuto
namespace Go.Proofs.Ybulkcgwo.T
open Go.RowKit
set_option linter.unusedVariables false
set_option linter.unusedSimpArgs false

theorem cmpI_self (x : Int) : cmpI x x = 0 := by simp [cmpI]

/-- The run at the start of a list. -/
def RunN (xs : List Int) (n : Nat) : Prop := n ≤ xs.length ∧ Sor (fun a b => a < b) (xs.take n)
/-- What the loop's test leaves. -/
def Test (xs : List Int) (n : Nat) (w wx : World) (u : Value) : Prop := ∃ b, u = .bool b ∧ (b = true → n < xs.length ∧ RunN xs (n + 1)) ∧ ∃ q, wx = w.drewN q

theorem run_next {xs : List Int} {n : Nat} (h : RunN xs n) (hn : n < xs.length) (hx : n = 0 ∨ xs.getD (n - 1) 0 < xs.getD n 0) : RunN xs (n + 1) := by
  refine ⟨by omega, ?_⟩
  have e : xs.take (n + 1) = xs.take n ++ [xs.getD n 0] := by
    rw [List.take_add_one, List.getD_eq_getElem?_getD, List.getElem?_eq_getElem hn]; rfl
  rw [e]
  refine List.pairwise_append.2 ⟨h.2, by simp, fun a ha b hb => ?_⟩
  simp only [List.mem_singleton] at hb
  subst hb
  obtain ⟨j, hj, rfl⟩ := List.mem_iff_getElem.1 ha
  rw [List.length_take] at hj
  have hjn : j < n := by omega
  rcases hx with h0 | hx
  · omega
  · have hj1 : (xs.take n)[j] = (xs.take n).getD j 0 := by simp [List.getD_eq_getElem?_getD, hj]
    have hg : ∀ i, i < n → (xs.take n).getD i 0 = xs.getD i 0 := fun i hi => by simp [List.getD_eq_getElem?_getD, hi]
    rw [hj1]
    by_cases ej : j = n - 1
    · rw [hg j hjn, ej]; exact hx
    · have := Sor.at h.2 (i := j) (j := n - 1) (by omega) (by rw [List.length_take]; omega)
      rw [hg (n - 1) (by omega)] at this
      exact Int.lt_trans this hx

set_option maxHeartbeats 4000000 in
set_option maxRecDepth 100000 in
theorem fill_any {w0 w : World} {sb eb eo cap : Nat} {xs : List Int} (h : InvS ordA w0 w sb [] none none) (hr0 : w0.rangeAt eb eo (ints xs)) (hel : eb < w0.heap.size) (hle : xs.length ≤ cap) (hcm : cap ≤ maxLen) (hb5 : xs.length ≤ 4000) :
    Calls Yba.prog 32 #[.pointer (some ⟨sb, 0, none⟩), .slice (some ⟨eb, eo, none⟩) xs.length cap] w fun r w' => r = .returned (.tuple #[]) ∧ ∃ h' t', InvS ordA w0 w' sb xs (some h') t' := by
  have HR := hide (h.only.range hr0 (fun h => h))
  have HR0 := hide hr0
  clear hr0
  have c0 : w.cell? ⟨sb, 0, none⟩ = some (.func (.func 16) #[] #[]) := h.st.own.choose_spec.1.c0
  have HI := hide h
  clear h
  go_enter Yba.func32, Yba.ntmps32
  go_wp2
  go_loopw [4] (fun i wr => ∃ n : Nat, n ≤ xs.length ∧ i = .int .i64 n ∧ RunN xs n ∧ ∃ q, wr = w.drewN q) (fun i _ => xs.length - (intOf i).toNat)
  case atStart => exact ⟨0, Nat.zero_le _, rfl, ⟨Nat.zero_le _, List.Pairwise.nil⟩, 0, rfl⟩
  case round =>
    obtain ⟨n, hn, rfl, hrun, q, rfl⟩ := hrel
    have HRun := hide hrun
    clear hrun
    go_upto_region 1 with fail
    go_cut [49] from 7 to 48 (fun u wx => Test xs n w wx u)
    case first =>
      go_wp2_with fail
      by_cases hnl : n < xs.length
      · have hy := range_at HR.out (k := n) hnl
        have i1 : (n : Int) < (xs.length : Int) := by omega
        have HN := hide (fun h => run_next HRun.out hnl h)
        by_cases hn0 : n = 0
        · subst hn0
          generalize xs.getD 0 0 = y at hy HN
          rw [Nat.add_zero] at hy
          have i2 : 0 < xs.length := by omega
          refine wp_region_noPanic ?_
          refine wp_region_held_drew (S := fun w' => w'.cell? ⟨sb, 0, none⟩ = some (.func (.func 16) #[] #[]) ∧ w'.cell? ⟨eb, eo, none⟩ = some (.int .i64 y)) (by kernel_rfl) ⟨by simpa using c0, by simpa using hy⟩ (fun hHeld => ?_)
          refine takeYes 0 (some 7) (.int .i64 0) (by kernel_rfl) (by kernel_rfl) (by kernel_rfl) (by kernel_rfl) (fun _ _ _ h => h) (by kernel_rfl) ?_ hHeld ?_
          · intro w' hSw; obtain ⟨y0, y1⟩ := hSw; simp only [List.getElem?_toArray, List.getElem?_cons_zero, List.getElem?_cons_succ, Option.map_some]; go_simp
          simp only [Act.put, List.setIfInBounds_toArray, List.set_cons_zero, List.set_cons_succ]
          refine takeYes 1 (some 8) (.slice (some ⟨eb, eo, none⟩) xs.length cap) (by kernel_rfl) (by kernel_rfl) (by kernel_rfl) (by kernel_rfl) (fun _ _ _ h => h) (by kernel_rfl) ?_ hHeld ?_
          · intro w' hSw; obtain ⟨y0, y1⟩ := hSw; simp only [List.getElem?_toArray, List.getElem?_cons_zero, List.getElem?_cons_succ, Option.map_some]; go_simp
          simp only [Act.put, List.setIfInBounds_toArray, List.set_cons_zero, List.set_cons_succ]
          refine takeYes 2 (some 9) (.int .i64 (xs.length : Int)) (by kernel_rfl) (by kernel_rfl) (by kernel_rfl) (by kernel_rfl) (fun _ _ _ h => h) (by kernel_rfl) ?_ hHeld ?_
          · intro w' hSw; obtain ⟨y0, y1⟩ := hSw; simp only [List.getElem?_toArray, List.getElem?_cons_zero, List.getElem?_cons_succ, Option.map_some]; go_simp
          simp only [Act.put, List.setIfInBounds_toArray, List.set_cons_zero, List.set_cons_succ]
          refine takeYes 3 (some 10) (.bool true) (by kernel_rfl) (by kernel_rfl) (by kernel_rfl) (by kernel_rfl) (fun _ _ _ h => h) (by kernel_rfl) ?_ hHeld ?_
          · intro w' hSw; obtain ⟨y0, y1⟩ := hSw; simp only [List.getElem?_toArray, List.getElem?_cons_zero, List.getElem?_cons_succ, Option.map_some]; go_simp
          simp only [Act.put, List.setIfInBounds_toArray, List.set_cons_zero, List.set_cons_succ]
          refine takeYes 4 (some 11) (.bool true) (by kernel_rfl) (by kernel_rfl) (by kernel_rfl) (by kernel_rfl) (fun _ _ _ h => h) (by kernel_rfl) ?_ hHeld ?_
          · intro w' hSw; obtain ⟨y0, y1⟩ := hSw; simp only [List.getElem?_toArray, List.getElem?_cons_zero, List.getElem?_cons_succ, Option.map_some]; go_simp
          simp only [Act.put, List.setIfInBounds_toArray, List.set_cons_zero, List.set_cons_succ]
          refine takeYes 5 (some 12) (.pointer (some ⟨sb, 0, none⟩)) (by kernel_rfl) (by kernel_rfl) (by kernel_rfl) (by kernel_rfl) (fun _ _ _ h => h) (by kernel_rfl) ?_ hHeld ?_
          · intro w' hSw; obtain ⟨y0, y1⟩ := hSw; simp only [List.getElem?_toArray, List.getElem?_cons_zero, List.getElem?_cons_succ, Option.map_some]; go_simp
          simp only [Act.put, List.setIfInBounds_toArray, List.set_cons_zero, List.set_cons_succ]
          refine takeYes 6 (some 13) (.pointer (some ⟨sb, 0, none⟩)) (by kernel_rfl) (by kernel_rfl) (by kernel_rfl) (by kernel_rfl) (fun _ _ _ h => h) (by kernel_rfl) ?_ hHeld ?_
          · intro w' hSw; obtain ⟨y0, y1⟩ := hSw; simp only [List.getElem?_toArray, List.getElem?_cons_zero, List.getElem?_cons_succ, Option.map_some]; go_simp
          simp only [Act.put, List.setIfInBounds_toArray, List.set_cons_zero, List.set_cons_succ]
          refine takeYes 7 (some 14) (.pointer (some ⟨sb, 0, none⟩)) (by kernel_rfl) (by kernel_rfl) (by kernel_rfl) (by kernel_rfl) (fun _ _ _ h => h) (by kernel_rfl) ?_ hHeld ?_
          · intro w' hSw; obtain ⟨y0, y1⟩ := hSw; simp only [List.getElem?_toArray, List.getElem?_cons_zero, List.getElem?_cons_succ, Option.map_some]; go_simp
          simp only [Act.put, List.setIfInBounds_toArray, List.set_cons_zero, List.set_cons_succ]
          refine takeYes 8 (some 15) (.pointer (some ⟨sb, 0, none⟩)) (by kernel_rfl) (by kernel_rfl) (by kernel_rfl) (by kernel_rfl) (fun _ _ _ h => h) (by kernel_rfl) ?_ hHeld ?_
          · intro w' hSw; obtain ⟨y0, y1⟩ := hSw; simp only [List.getElem?_toArray, List.getElem?_cons_zero, List.getElem?_cons_succ, Option.map_some]; go_simp
          simp only [Act.put, List.setIfInBounds_toArray, List.set_cons_zero, List.set_cons_succ]
          refine takeYes 9 (some 16) (.func (.func 16) #[] #[]) (by kernel_rfl) (by kernel_rfl) (by kernel_rfl) (by kernel_rfl) (fun _ _ _ h => h) (by kernel_rfl) ?_ hHeld ?_
          · intro w' hSw; obtain ⟨y0, y1⟩ := hSw; simp only [List.getElem?_toArray, List.getElem?_cons_zero, List.getElem?_cons_succ, Option.map_some]; go_simp
          simp only [Act.put, List.setIfInBounds_toArray, List.set_cons_zero, List.set_cons_succ]
          refine takeYes 10 (some 17) (.slice (some ⟨eb, eo, none⟩) xs.length cap) (by kernel_rfl) (by kernel_rfl) (by kernel_rfl) (by kernel_rfl) (fun _ _ _ h => h) (by kernel_rfl) ?_ hHeld ?_
          · intro w' hSw; obtain ⟨y0, y1⟩ := hSw; simp only [List.getElem?_toArray, List.getElem?_cons_zero, List.getElem?_cons_succ, Option.map_some]; go_simp
          simp only [Act.put, List.setIfInBounds_toArray, List.set_cons_zero, List.set_cons_succ]
          refine takeYes 11 (some 18) (.int .i64 0) (by kernel_rfl) (by kernel_rfl) (by kernel_rfl) (by kernel_rfl) (fun _ _ _ h => h) (by kernel_rfl) ?_ hHeld ?_
          · intro w' hSw; obtain ⟨y0, y1⟩ := hSw; simp only [List.getElem?_toArray, List.getElem?_cons_zero, List.getElem?_cons_succ, Option.map_some]; go_simp
          simp only [Act.put, List.setIfInBounds_toArray, List.set_cons_zero, List.set_cons_succ]
          refine takeYes 12 (some 19) (.pointer (some ⟨eb, eo, none⟩)) (by kernel_rfl) (by kernel_rfl) (by kernel_rfl) (by kernel_rfl) (fun _ _ _ h => h) (by kernel_rfl) ?_ hHeld ?_
          · intro w' hSw; obtain ⟨y0, y1⟩ := hSw; simp only [List.getElem?_toArray, List.getElem?_cons_zero, List.getElem?_cons_succ, Option.map_some]; go_simp
          simp only [Act.put, List.setIfInBounds_toArray, List.set_cons_zero, List.set_cons_succ]
          refine takeYes 13 (some 20) (.int .i64 y) (by kernel_rfl) (by kernel_rfl) (by kernel_rfl) (by kernel_rfl) (fun _ _ _ h => h) (by kernel_rfl) ?_ hHeld ?_
          · intro w' hSw; obtain ⟨y0, y1⟩ := hSw; simp only [List.getElem?_toArray, List.getElem?_cons_zero, List.getElem?_cons_succ, Option.map_some]; go_simp
          simp only [Act.put, List.setIfInBounds_toArray, List.set_cons_zero, List.set_cons_succ]
          refine takeYes 14 (some 21) (.slice (some ⟨eb, eo, none⟩) xs.length cap) (by kernel_rfl) (by kernel_rfl) (by kernel_rfl) (by kernel_rfl) (fun _ _ _ h => h) (by kernel_rfl) ?_ hHeld ?_
          · intro w' hSw; obtain ⟨y0, y1⟩ := hSw; simp only [List.getElem?_toArray, List.getElem?_cons_zero, List.getElem?_cons_succ, Option.map_some]; go_simp
          simp only [Act.put, List.setIfInBounds_toArray, List.set_cons_zero, List.set_cons_succ]
          refine takeYes 15 (some 22) (.int .i64 0) (by kernel_rfl) (by kernel_rfl) (by kernel_rfl) (by kernel_rfl) (fun _ _ _ h => h) (by kernel_rfl) ?_ hHeld ?_
          · intro w' hSw; obtain ⟨y0, y1⟩ := hSw; simp only [List.getElem?_toArray, List.getElem?_cons_zero, List.getElem?_cons_succ, Option.map_some]; go_simp
          simp only [Act.put, List.setIfInBounds_toArray, List.set_cons_zero, List.set_cons_succ]
          refine takeYes 16 (some 23) (.pointer (some ⟨eb, eo, none⟩)) (by kernel_rfl) (by kernel_rfl) (by kernel_rfl) (by kernel_rfl) (fun _ _ _ h => h) (by kernel_rfl) ?_ hHeld ?_
          · intro w' hSw; obtain ⟨y0, y1⟩ := hSw; simp only [List.getElem?_toArray, List.getElem?_cons_zero, List.getElem?_cons_succ, Option.map_some]; go_simp
          simp only [Act.put, List.setIfInBounds_toArray, List.set_cons_zero, List.set_cons_succ]
          refine takeYes 17 (some 24) (.int .i64 y) (by kernel_rfl) (by kernel_rfl) (by kernel_rfl) (by kernel_rfl) (fun _ _ _ h => h) (by kernel_rfl) ?_ hHeld ?_
          · intro w' hSw; obtain ⟨y0, y1⟩ := hSw; simp only [List.getElem?_toArray, List.getElem?_cons_zero, List.getElem?_cons_succ, Option.map_some]; go_simp
          simp only [Act.put, List.setIfInBounds_toArray, List.set_cons_zero, List.set_cons_succ]
          refine wpAnyH_ready (rs := [18]) (by kernel_rfl) (by simp) ?_
          refine AllReadyH.cons rfl (fun K hK => ?_) AllReadyH.nil
          have HK := hide hK
          clear hK
          go_simp
          refine (compare_any y y _).mono ?_
          rintro r w5 ⟨rfl, rfl⟩
          rw [cmpI_self]
          refine HK.out _ _ hHeld (fun hHeld => ?_)
          clear HK K
          refine takeYes 19 (some 26) (.bool true) (by kernel_rfl) (by kernel_rfl) (by kernel_rfl) (by kernel_rfl) (fun _ _ _ h => h) (by kernel_rfl) ?_ hHeld ?_
          · intro w' hSw; obtain ⟨y0, y1⟩ := hSw; simp only [List.getElem?_toArray, List.getElem?_cons_zero, List.getElem?_cons_succ, Option.map_some]; go_simp
          simp only [Act.put, List.setIfInBounds_toArray, List.set_cons_zero, List.set_cons_succ]
          refine takeYes 20 (some 27) (.bool true) (by kernel_rfl) (by kernel_rfl) (by kernel_rfl) (by kernel_rfl) (fun _ _ _ h => h) (by kernel_rfl) ?_ hHeld ?_
          · intro w' hSw; obtain ⟨y0, y1⟩ := hSw; simp only [List.getElem?_toArray, List.getElem?_cons_zero, List.getElem?_cons_succ, Option.map_some]; go_simp
          simp only [Act.put, List.setIfInBounds_toArray, List.set_cons_zero, List.set_cons_succ]
          refine takeYes 21 (some 28) (.bool true) (by kernel_rfl) (by kernel_rfl) (by kernel_rfl) (by kernel_rfl) (fun _ _ _ h => h) (by kernel_rfl) ?_ hHeld ?_
          · intro w' hSw; obtain ⟨y0, y1⟩ := hSw; simp only [List.getElem?_toArray, List.getElem?_cons_zero, List.getElem?_cons_succ, Option.map_some]; go_simp
          simp only [Act.put, List.setIfInBounds_toArray, List.set_cons_zero, List.set_cons_succ]
          refine takeYes 22 (some 29) (.int .i64 0) (by kernel_rfl) (by kernel_rfl) (by kernel_rfl) (by kernel_rfl) (fun _ _ _ h => h) (by kernel_rfl) ?_ hHeld ?_
          · intro w' hSw; obtain ⟨y0, y1⟩ := hSw; simp only [List.getElem?_toArray, List.getElem?_cons_zero, List.getElem?_cons_succ, Option.map_some]; go_simp
          simp only [Act.put, List.setIfInBounds_toArray, List.set_cons_zero, List.set_cons_succ]
          refine takeYes 23 (some 30) (.bool true) (by kernel_rfl) (by kernel_rfl) (by kernel_rfl) (by kernel_rfl) (fun _ _ _ h => h) (by kernel_rfl) ?_ hHeld ?_
          · intro w' hSw; obtain ⟨y0, y1⟩ := hSw; simp only [List.getElem?_toArray, List.getElem?_cons_zero, List.getElem?_cons_succ, Option.map_some]; go_simp
          simp only [Act.put, List.setIfInBounds_toArray, List.set_cons_zero, List.set_cons_succ]
          refine takeYes 24 (some 31) (.bool true) (by kernel_rfl) (by kernel_rfl) (by kernel_rfl) (by kernel_rfl) (fun _ _ _ h => h) (by kernel_rfl) ?_ hHeld ?_
          · intro w' hSw; obtain ⟨y0, y1⟩ := hSw; simp only [List.getElem?_toArray, List.getElem?_cons_zero, List.getElem?_cons_succ, Option.map_some]; go_simp
          simp only [Act.put, List.setIfInBounds_toArray, List.set_cons_zero, List.set_cons_succ]
          refine takeNo 25 (some 32) (by kernel_rfl) (by kernel_rfl) (by kernel_rfl) (by kernel_rfl) (fun _ _ _ h => h) (by kernel_rfl) hHeld ?_
          simp only [Act.put, List.setIfInBounds_toArray, List.set_cons_zero, List.set_cons_succ]
          refine takeNo 26 (some 33) (by kernel_rfl) (by kernel_rfl) (by kernel_rfl) (by kernel_rfl) (fun _ _ _ h => h) (by kernel_rfl) hHeld ?_
          simp only [Act.put, List.setIfInBounds_toArray, List.set_cons_zero, List.set_cons_succ]
          refine takeNo 27 (some 34) (by kernel_rfl) (by kernel_rfl) (by kernel_rfl) (by kernel_rfl) (fun _ _ _ h => h) (by kernel_rfl) hHeld ?_
          simp only [Act.put, List.setIfInBounds_toArray, List.set_cons_zero, List.set_cons_succ]
          refine takeNo 28 (some 35) (by kernel_rfl) (by kernel_rfl) (by kernel_rfl) (by kernel_rfl) (fun _ _ _ h => h) (by kernel_rfl) hHeld ?_
          simp only [Act.put, List.setIfInBounds_toArray, List.set_cons_zero, List.set_cons_succ]
          refine takeNo 29 (some 36) (by kernel_rfl) (by kernel_rfl) (by kernel_rfl) (by kernel_rfl) (fun _ _ _ h => h) (by kernel_rfl) hHeld ?_
          simp only [Act.put, List.setIfInBounds_toArray, List.set_cons_zero, List.set_cons_succ]
          refine takeNo 30 (some 37) (by kernel_rfl) (by kernel_rfl) (by kernel_rfl) (by kernel_rfl) (fun _ _ _ h => h) (by kernel_rfl) hHeld ?_
          simp only [Act.put, List.setIfInBounds_toArray, List.set_cons_zero, List.set_cons_succ]
          refine takeNo 31 (some 38) (by kernel_rfl) (by kernel_rfl) (by kernel_rfl) (by kernel_rfl) (fun _ _ _ h => h) (by kernel_rfl) hHeld ?_
          simp only [Act.put, List.setIfInBounds_toArray, List.set_cons_zero, List.set_cons_succ]
          refine takeNo 32 (some 39) (by kernel_rfl) (by kernel_rfl) (by kernel_rfl) (by kernel_rfl) (fun _ _ _ h => h) (by kernel_rfl) hHeld ?_
          simp only [Act.put, List.setIfInBounds_toArray, List.set_cons_zero, List.set_cons_succ]
          refine takeNo 33 (some 40) (by kernel_rfl) (by kernel_rfl) (by kernel_rfl) (by kernel_rfl) (fun _ _ _ h => h) (by kernel_rfl) hHeld ?_
          simp only [Act.put, List.setIfInBounds_toArray, List.set_cons_zero, List.set_cons_succ]
          refine takeNo 34 (some 41) (by kernel_rfl) (by kernel_rfl) (by kernel_rfl) (by kernel_rfl) (fun _ _ _ h => h) (by kernel_rfl) hHeld ?_
          simp only [Act.put, List.setIfInBounds_toArray, List.set_cons_zero, List.set_cons_succ]
          refine takeNo 35 (some 42) (by kernel_rfl) (by kernel_rfl) (by kernel_rfl) (by kernel_rfl) (fun _ _ _ h => h) (by kernel_rfl) hHeld ?_
          simp only [Act.put, List.setIfInBounds_toArray, List.set_cons_zero, List.set_cons_succ]
          refine takeNo 36 (some 43) (by kernel_rfl) (by kernel_rfl) (by kernel_rfl) (by kernel_rfl) (fun _ _ _ h => h) (by kernel_rfl) hHeld ?_
          simp only [Act.put, List.setIfInBounds_toArray, List.set_cons_zero, List.set_cons_succ]
          refine takeNo 37 (some 44) (by kernel_rfl) (by kernel_rfl) (by kernel_rfl) (by kernel_rfl) (fun _ _ _ h => h) (by kernel_rfl) hHeld ?_
          simp only [Act.put, List.setIfInBounds_toArray, List.set_cons_zero, List.set_cons_succ]
          refine takeNo 38 (some 45) (by kernel_rfl) (by kernel_rfl) (by kernel_rfl) (by kernel_rfl) (fun _ _ _ h => h) (by kernel_rfl) hHeld ?_
          simp only [Act.put, List.setIfInBounds_toArray, List.set_cons_zero, List.set_cons_succ]
          refine takeNo 39 (some 46) (by kernel_rfl) (by kernel_rfl) (by kernel_rfl) (by kernel_rfl) (fun _ _ _ h => h) (by kernel_rfl) hHeld ?_
          simp only [Act.put, List.setIfInBounds_toArray, List.set_cons_zero, List.set_cons_succ]
          refine takeNo 40 (some 47) (by kernel_rfl) (by kernel_rfl) (by kernel_rfl) (by kernel_rfl) (fun _ _ _ h => h) (by kernel_rfl) hHeld ?_
          simp only [Act.put, List.setIfInBounds_toArray, List.set_cons_zero, List.set_cons_succ]
          refine takeYes 41 (some 48) (.bool true) (by kernel_rfl) (by kernel_rfl) (by kernel_rfl) (by kernel_rfl) (fun _ _ _ h => h) (by kernel_rfl) ?_ hHeld ?_
          · intro w' hSw; obtain ⟨y0, y1⟩ := hSw; simp only [List.getElem?_toArray, List.getElem?_cons_zero, List.getElem?_cons_succ, Option.map_some]; go_simp
          simp only [Act.put, List.setIfInBounds_toArray, List.set_cons_zero, List.set_cons_succ]
          refine takeYes 42 (some 49) (.bool true) (by kernel_rfl) (by kernel_rfl) (by kernel_rfl) (by kernel_rfl) (fun _ _ _ h => h) (by kernel_rfl) ?_ hHeld ?_
          · intro w' hSw; obtain ⟨y0, y1⟩ := hSw; simp only [List.getElem?_toArray, List.getElem?_cons_zero, List.getElem?_cons_succ, Option.map_some]; go_simp
          simp only [Act.put, List.setIfInBounds_toArray, List.set_cons_zero, List.set_cons_succ]
          refine wpAnyH_done (by kernel_rfl) ?_ _
          refine NoPanic.normal ?_
          clear hHeld
          go_wp2_with fail
          go_meet
          exact ⟨true, rfl, fun _ => ⟨hnl, HN.out (.inl (by trivial))⟩, q + 1, rfl⟩
        · have hz := range_at HR.out (k := n - 1) (by omega)
          have i0 : ¬ ((n : Int) = 0) := by omega
          have hw1 : IntKind.i64.wrap ((n : Int) - 1) = ((n - 1 : Nat) : Int) := by simp only [IntKind.wrap_i64]; omega
          have i3 : ((n - 1 : Nat) : Int) < (xs.length : Int) := by omega
          generalize xs.getD n 0 = y at hy HN
          generalize xs.getD (n - 1) 0 = z at hz HN
          have hcz : (cmpI z y < 0 ↔ z < y) := (cmpI_sign z y).1
          refine wp_region_noPanic ?_
          refine wp_region_held_drew (S := fun w' => w'.cell? ⟨sb, 0, none⟩ = some (.func (.func 16) #[] #[]) ∧ w'.cell? ⟨eb, eo + n, none⟩ = some (.int .i64 y) ∧ w'.cell? ⟨eb, eo + (n - 1), none⟩ = some (.int .i64 z)) (by kernel_rfl) ⟨by simpa using c0, by simpa using hy, by simpa using hz⟩ (fun hHeld => ?_)
          refine takeYes 0 (some 7) (.int .i64 (n : Int)) (by kernel_rfl) (by kernel_rfl) (by kernel_rfl) (by kernel_rfl) (fun _ _ _ h => h) (by kernel_rfl) ?_ hHeld ?_
          · intro w' hSw; obtain ⟨y0, y1, y2⟩ := hSw; simp only [List.getElem?_toArray, List.getElem?_cons_zero, List.getElem?_cons_succ, Option.map_some]; go_simp
          simp only [Act.put, List.setIfInBounds_toArray, List.set_cons_zero, List.set_cons_succ]
          refine takeYes 1 (some 8) (.slice (some ⟨eb, eo, none⟩) xs.length cap) (by kernel_rfl) (by kernel_rfl) (by kernel_rfl) (by kernel_rfl) (fun _ _ _ h => h) (by kernel_rfl) ?_ hHeld ?_
          · intro w' hSw; obtain ⟨y0, y1, y2⟩ := hSw; simp only [List.getElem?_toArray, List.getElem?_cons_zero, List.getElem?_cons_succ, Option.map_some]; go_simp
          simp only [Act.put, List.setIfInBounds_toArray, List.set_cons_zero, List.set_cons_succ]
          refine takeYes 2 (some 9) (.int .i64 (xs.length : Int)) (by kernel_rfl) (by kernel_rfl) (by kernel_rfl) (by kernel_rfl) (fun _ _ _ h => h) (by kernel_rfl) ?_ hHeld ?_
          · intro w' hSw; obtain ⟨y0, y1, y2⟩ := hSw; simp only [List.getElem?_toArray, List.getElem?_cons_zero, List.getElem?_cons_succ, Option.map_some]; go_simp
          simp only [Act.put, List.setIfInBounds_toArray, List.set_cons_zero, List.set_cons_succ]
          refine takeYes 3 (some 10) (.bool true) (by kernel_rfl) (by kernel_rfl) (by kernel_rfl) (by kernel_rfl) (fun _ _ _ h => h) (by kernel_rfl) ?_ hHeld ?_
          · intro w' hSw; obtain ⟨y0, y1, y2⟩ := hSw; simp only [List.getElem?_toArray, List.getElem?_cons_zero, List.getElem?_cons_succ, Option.map_some]; go_simp
          simp only [Act.put, List.setIfInBounds_toArray, List.set_cons_zero, List.set_cons_succ]
          refine takeYes 4 (some 11) (.bool true) (by kernel_rfl) (by kernel_rfl) (by kernel_rfl) (by kernel_rfl) (fun _ _ _ h => h) (by kernel_rfl) ?_ hHeld ?_
          · intro w' hSw; obtain ⟨y0, y1, y2⟩ := hSw; simp only [List.getElem?_toArray, List.getElem?_cons_zero, List.getElem?_cons_succ, Option.map_some]; go_simp
          simp only [Act.put, List.setIfInBounds_toArray, List.set_cons_zero, List.set_cons_succ]
          refine takeYes 5 (some 12) (.pointer (some ⟨sb, 0, none⟩)) (by kernel_rfl) (by kernel_rfl) (by kernel_rfl) (by kernel_rfl) (fun _ _ _ h => h) (by kernel_rfl) ?_ hHeld ?_
          · intro w' hSw; obtain ⟨y0, y1, y2⟩ := hSw; simp only [List.getElem?_toArray, List.getElem?_cons_zero, List.getElem?_cons_succ, Option.map_some]; go_simp
          simp only [Act.put, List.setIfInBounds_toArray, List.set_cons_zero, List.set_cons_succ]
          refine takeYes 6 (some 13) (.pointer (some ⟨sb, 0, none⟩)) (by kernel_rfl) (by kernel_rfl) (by kernel_rfl) (by kernel_rfl) (fun _ _ _ h => h) (by kernel_rfl) ?_ hHeld ?_
          · intro w' hSw; obtain ⟨y0, y1, y2⟩ := hSw; simp only [List.getElem?_toArray, List.getElem?_cons_zero, List.getElem?_cons_succ, Option.map_some]; go_simp
          simp only [Act.put, List.setIfInBounds_toArray, List.set_cons_zero, List.set_cons_succ]
          refine takeYes 7 (some 14) (.pointer (some ⟨sb, 0, none⟩)) (by kernel_rfl) (by kernel_rfl) (by kernel_rfl) (by kernel_rfl) (fun _ _ _ h => h) (by kernel_rfl) ?_ hHeld ?_
          · intro w' hSw; obtain ⟨y0, y1, y2⟩ := hSw; simp only [List.getElem?_toArray, List.getElem?_cons_zero, List.getElem?_cons_succ, Option.map_some]; go_simp
          simp only [Act.put, List.setIfInBounds_toArray, List.set_cons_zero, List.set_cons_succ]
          refine takeYes 8 (some 15) (.pointer (some ⟨sb, 0, none⟩)) (by kernel_rfl) (by kernel_rfl) (by kernel_rfl) (by kernel_rfl) (fun _ _ _ h => h) (by kernel_rfl) ?_ hHeld ?_
          · intro w' hSw; obtain ⟨y0, y1, y2⟩ := hSw; simp only [List.getElem?_toArray, List.getElem?_cons_zero, List.getElem?_cons_succ, Option.map_some]; go_simp
          simp only [Act.put, List.setIfInBounds_toArray, List.set_cons_zero, List.set_cons_succ]
          refine takeYes 9 (some 16) (.func (.func 16) #[] #[]) (by kernel_rfl) (by kernel_rfl) (by kernel_rfl) (by kernel_rfl) (fun _ _ _ h => h) (by kernel_rfl) ?_ hHeld ?_
          · intro w' hSw; obtain ⟨y0, y1, y2⟩ := hSw; simp only [List.getElem?_toArray, List.getElem?_cons_zero, List.getElem?_cons_succ, Option.map_some]; go_simp
          simp only [Act.put, List.setIfInBounds_toArray, List.set_cons_zero, List.set_cons_succ]
          refine takeYes 10 (some 17) (.slice (some ⟨eb, eo, none⟩) xs.length cap) (by kernel_rfl) (by kernel_rfl) (by kernel_rfl) (by kernel_rfl) (fun _ _ _ h => h) (by kernel_rfl) ?_ hHeld ?_
          · intro w' hSw; obtain ⟨y0, y1, y2⟩ := hSw; simp only [List.getElem?_toArray, List.getElem?_cons_zero, List.getElem?_cons_succ, Option.map_some]; go_simp
          simp only [Act.put, List.setIfInBounds_toArray, List.set_cons_zero, List.set_cons_succ]
          refine takeYes 11 (some 18) (.int .i64 (n : Int)) (by kernel_rfl) (by kernel_rfl) (by kernel_rfl) (by kernel_rfl) (fun _ _ _ h => h) (by kernel_rfl) ?_ hHeld ?_
          · intro w' hSw; obtain ⟨y0, y1, y2⟩ := hSw; simp only [List.getElem?_toArray, List.getElem?_cons_zero, List.getElem?_cons_succ, Option.map_some]; go_simp
          simp only [Act.put, List.setIfInBounds_toArray, List.set_cons_zero, List.set_cons_succ]
          refine takeYes 12 (some 19) (.pointer (some ⟨eb, eo + n, none⟩)) (by kernel_rfl) (by kernel_rfl) (by kernel_rfl) (by kernel_rfl) (fun _ _ _ h => h) (by kernel_rfl) ?_ hHeld ?_
          · intro w' hSw; obtain ⟨y0, y1, y2⟩ := hSw; simp only [List.getElem?_toArray, List.getElem?_cons_zero, List.getElem?_cons_succ, Option.map_some]; go_simp
          simp only [Act.put, List.setIfInBounds_toArray, List.set_cons_zero, List.set_cons_succ]
          refine takeYes 13 (some 20) (.int .i64 y) (by kernel_rfl) (by kernel_rfl) (by kernel_rfl) (by kernel_rfl) (fun _ _ _ h => h) (by kernel_rfl) ?_ hHeld ?_
          · intro w' hSw; obtain ⟨y0, y1, y2⟩ := hSw; simp only [List.getElem?_toArray, List.getElem?_cons_zero, List.getElem?_cons_succ, Option.map_some]; go_simp
          simp only [Act.put, List.setIfInBounds_toArray, List.set_cons_zero, List.set_cons_succ]
          refine takeYes 14 (some 21) (.slice (some ⟨eb, eo, none⟩) xs.length cap) (by kernel_rfl) (by kernel_rfl) (by kernel_rfl) (by kernel_rfl) (fun _ _ _ h => h) (by kernel_rfl) ?_ hHeld ?_
          · intro w' hSw; obtain ⟨y0, y1, y2⟩ := hSw; simp only [List.getElem?_toArray, List.getElem?_cons_zero, List.getElem?_cons_succ, Option.map_some]; go_simp
          simp only [Act.put, List.setIfInBounds_toArray, List.set_cons_zero, List.set_cons_succ]
          refine takeYes 15 (some 22) (.int .i64 (n : Int)) (by kernel_rfl) (by kernel_rfl) (by kernel_rfl) (by kernel_rfl) (fun _ _ _ h => h) (by kernel_rfl) ?_ hHeld ?_
          · intro w' hSw; obtain ⟨y0, y1, y2⟩ := hSw; simp only [List.getElem?_toArray, List.getElem?_cons_zero, List.getElem?_cons_succ, Option.map_some]; go_simp
          simp only [Act.put, List.setIfInBounds_toArray, List.set_cons_zero, List.set_cons_succ]
          refine takeYes 16 (some 23) (.pointer (some ⟨eb, eo + n, none⟩)) (by kernel_rfl) (by kernel_rfl) (by kernel_rfl) (by kernel_rfl) (fun _ _ _ h => h) (by kernel_rfl) ?_ hHeld ?_
          · intro w' hSw; obtain ⟨y0, y1, y2⟩ := hSw; simp only [List.getElem?_toArray, List.getElem?_cons_zero, List.getElem?_cons_succ, Option.map_some]; go_simp
          simp only [Act.put, List.setIfInBounds_toArray, List.set_cons_zero, List.set_cons_succ]
          refine takeYes 17 (some 24) (.int .i64 y) (by kernel_rfl) (by kernel_rfl) (by kernel_rfl) (by kernel_rfl) (fun _ _ _ h => h) (by kernel_rfl) ?_ hHeld ?_
          · intro w' hSw; obtain ⟨y0, y1, y2⟩ := hSw; simp only [List.getElem?_toArray, List.getElem?_cons_zero, List.getElem?_cons_succ, Option.map_some]; go_simp
          simp only [Act.put, List.setIfInBounds_toArray, List.set_cons_zero, List.set_cons_succ]
          refine wpAnyH_ready (rs := [18]) (by kernel_rfl) (by simp) ?_
          refine AllReadyH.cons rfl (fun K hK => ?_) AllReadyH.nil
          have HK := hide hK
          clear hK
          go_simp
          refine (compare_any y y _).mono ?_
          rintro r w5 ⟨rfl, rfl⟩
          rw [cmpI_self]
          refine HK.out _ _ hHeld (fun hHeld => ?_)
          clear HK K
          refine takeYes 19 (some 26) (.bool true) (by kernel_rfl) (by kernel_rfl) (by kernel_rfl) (by kernel_rfl) (fun _ _ _ h => h) (by kernel_rfl) ?_ hHeld ?_
          · intro w' hSw; obtain ⟨y0, y1, y2⟩ := hSw; simp only [List.getElem?_toArray, List.getElem?_cons_zero, List.getElem?_cons_succ, Option.map_some]; go_simp
          simp only [Act.put, List.setIfInBounds_toArray, List.set_cons_zero, List.set_cons_succ]
          refine takeYes 20 (some 27) (.bool true) (by kernel_rfl) (by kernel_rfl) (by kernel_rfl) (by kernel_rfl) (fun _ _ _ h => h) (by kernel_rfl) ?_ hHeld ?_
          · intro w' hSw; obtain ⟨y0, y1, y2⟩ := hSw; simp only [List.getElem?_toArray, List.getElem?_cons_zero, List.getElem?_cons_succ, Option.map_some]; go_simp
          simp only [Act.put, List.setIfInBounds_toArray, List.set_cons_zero, List.set_cons_succ]
          refine takeYes 21 (some 28) (.bool true) (by kernel_rfl) (by kernel_rfl) (by kernel_rfl) (by kernel_rfl) (fun _ _ _ h => h) (by kernel_rfl) ?_ hHeld ?_
          · intro w' hSw; obtain ⟨y0, y1, y2⟩ := hSw; simp only [List.getElem?_toArray, List.getElem?_cons_zero, List.getElem?_cons_succ, Option.map_some]; go_simp
          simp only [Act.put, List.setIfInBounds_toArray, List.set_cons_zero, List.set_cons_succ]
          refine takeYes 22 (some 29) (.int .i64 (n : Int)) (by kernel_rfl) (by kernel_rfl) (by kernel_rfl) (by kernel_rfl) (fun _ _ _ h => h) (by kernel_rfl) ?_ hHeld ?_
          · intro w' hSw; obtain ⟨y0, y1, y2⟩ := hSw; simp only [List.getElem?_toArray, List.getElem?_cons_zero, List.getElem?_cons_succ, Option.map_some]; go_simp
          simp only [Act.put, List.setIfInBounds_toArray, List.set_cons_zero, List.set_cons_succ]
          refine takeYes 23 (some 30) (.bool false) (by kernel_rfl) (by kernel_rfl) (by kernel_rfl) (by kernel_rfl) (fun _ _ _ h => h) (by kernel_rfl) ?_ hHeld ?_
          · intro w' hSw; obtain ⟨y0, y1, y2⟩ := hSw; simp only [List.getElem?_toArray, List.getElem?_cons_zero, List.getElem?_cons_succ, Option.map_some]; go_simp
          simp only [Act.put, List.setIfInBounds_toArray, List.set_cons_zero, List.set_cons_succ]
          refine takeYes 24 (some 31) (.bool false) (by kernel_rfl) (by kernel_rfl) (by kernel_rfl) (by kernel_rfl) (fun _ _ _ h => h) (by kernel_rfl) ?_ hHeld ?_
          · intro w' hSw; obtain ⟨y0, y1, y2⟩ := hSw; simp only [List.getElem?_toArray, List.getElem?_cons_zero, List.getElem?_cons_succ, Option.map_some]; go_simp
          simp only [Act.put, List.setIfInBounds_toArray, List.set_cons_zero, List.set_cons_succ]
          refine takeYes 25 (some 32) (.pointer (some ⟨sb, 0, none⟩)) (by kernel_rfl) (by kernel_rfl) (by kernel_rfl) (by kernel_rfl) (fun _ _ _ h => h) (by kernel_rfl) ?_ hHeld ?_
          · intro w' hSw; obtain ⟨y0, y1, y2⟩ := hSw; simp only [List.getElem?_toArray, List.getElem?_cons_zero, List.getElem?_cons_succ, Option.map_some]; go_simp
          simp only [Act.put, List.setIfInBounds_toArray, List.set_cons_zero, List.set_cons_succ]
          refine takeYes 26 (some 33) (.pointer (some ⟨sb, 0, none⟩)) (by kernel_rfl) (by kernel_rfl) (by kernel_rfl) (by kernel_rfl) (fun _ _ _ h => h) (by kernel_rfl) ?_ hHeld ?_
          · intro w' hSw; obtain ⟨y0, y1, y2⟩ := hSw; simp only [List.getElem?_toArray, List.getElem?_cons_zero, List.getElem?_cons_succ, Option.map_some]; go_simp
          simp only [Act.put, List.setIfInBounds_toArray, List.set_cons_zero, List.set_cons_succ]
          refine takeYes 27 (some 34) (.pointer (some ⟨sb, 0, none⟩)) (by kernel_rfl) (by kernel_rfl) (by kernel_rfl) (by kernel_rfl) (fun _ _ _ h => h) (by kernel_rfl) ?_ hHeld ?_
          · intro w' hSw; obtain ⟨y0, y1, y2⟩ := hSw; simp only [List.getElem?_toArray, List.getElem?_cons_zero, List.getElem?_cons_succ, Option.map_some]; go_simp
          simp only [Act.put, List.setIfInBounds_toArray, List.set_cons_zero, List.set_cons_succ]
          refine takeYes 28 (some 35) (.pointer (some ⟨sb, 0, none⟩)) (by kernel_rfl) (by kernel_rfl) (by kernel_rfl) (by kernel_rfl) (fun _ _ _ h => h) (by kernel_rfl) ?_ hHeld ?_
          · intro w' hSw; obtain ⟨y0, y1, y2⟩ := hSw; simp only [List.getElem?_toArray, List.getElem?_cons_zero, List.getElem?_cons_succ, Option.map_some]; go_simp
          simp only [Act.put, List.setIfInBounds_toArray, List.set_cons_zero, List.set_cons_succ]
          refine takeYes 29 (some 36) (.func (.func 16) #[] #[]) (by kernel_rfl) (by kernel_rfl) (by kernel_rfl) (by kernel_rfl) (fun _ _ _ h => h) (by kernel_rfl) ?_ hHeld ?_
          · intro w' hSw; obtain ⟨y0, y1, y2⟩ := hSw; simp only [List.getElem?_toArray, List.getElem?_cons_zero, List.getElem?_cons_succ, Option.map_some]; go_simp
          simp only [Act.put, List.setIfInBounds_toArray, List.set_cons_zero, List.set_cons_succ]
          refine takeYes 30 (some 37) (.slice (some ⟨eb, eo, none⟩) xs.length cap) (by kernel_rfl) (by kernel_rfl) (by kernel_rfl) (by kernel_rfl) (fun _ _ _ h => h) (by kernel_rfl) ?_ hHeld ?_
          · intro w' hSw; obtain ⟨y0, y1, y2⟩ := hSw; simp only [List.getElem?_toArray, List.getElem?_cons_zero, List.getElem?_cons_succ, Option.map_some]; go_simp
          simp only [Act.put, List.setIfInBounds_toArray, List.set_cons_zero, List.set_cons_succ]
          refine takeYes 31 (some 38) (.int .i64 (n : Int)) (by kernel_rfl) (by kernel_rfl) (by kernel_rfl) (by kernel_rfl) (fun _ _ _ h => h) (by kernel_rfl) ?_ hHeld ?_
          · intro w' hSw; obtain ⟨y0, y1, y2⟩ := hSw; simp only [List.getElem?_toArray, List.getElem?_cons_zero, List.getElem?_cons_succ, Option.map_some]; go_simp
          simp only [Act.put, List.setIfInBounds_toArray, List.set_cons_zero, List.set_cons_succ]
          refine takeYes 32 (some 39) (.int .i64 ((n - 1 : Nat) : Int)) (by kernel_rfl) (by kernel_rfl) (by kernel_rfl) (by kernel_rfl) (fun _ _ _ h => h) (by kernel_rfl) ?_ hHeld ?_
          · intro w' hSw; obtain ⟨y0, y1, y2⟩ := hSw; simp only [List.getElem?_toArray, List.getElem?_cons_zero, List.getElem?_cons_succ, Option.map_some]; go_simp
          simp only [Act.put, List.setIfInBounds_toArray, List.set_cons_zero, List.set_cons_succ]
          refine takeYes 33 (some 40) (.pointer (some ⟨eb, eo + (n - 1), none⟩)) (by kernel_rfl) (by kernel_rfl) (by kernel_rfl) (by kernel_rfl) (fun _ _ _ h => h) (by kernel_rfl) ?_ hHeld ?_
          · intro w' hSw; obtain ⟨y0, y1, y2⟩ := hSw; simp only [List.getElem?_toArray, List.getElem?_cons_zero, List.getElem?_cons_succ, Option.map_some]; go_simp
          simp only [Act.put, List.setIfInBounds_toArray, List.set_cons_zero, List.set_cons_succ]
          refine takeYes 34 (some 41) (.int .i64 z) (by kernel_rfl) (by kernel_rfl) (by kernel_rfl) (by kernel_rfl) (fun _ _ _ h => h) (by kernel_rfl) ?_ hHeld ?_
          · intro w' hSw; obtain ⟨y0, y1, y2⟩ := hSw; simp only [List.getElem?_toArray, List.getElem?_cons_zero, List.getElem?_cons_succ, Option.map_some]; go_simp
          simp only [Act.put, List.setIfInBounds_toArray, List.set_cons_zero, List.set_cons_succ]
          refine takeYes 35 (some 42) (.slice (some ⟨eb, eo, none⟩) xs.length cap) (by kernel_rfl) (by kernel_rfl) (by kernel_rfl) (by kernel_rfl) (fun _ _ _ h => h) (by kernel_rfl) ?_ hHeld ?_
          · intro w' hSw; obtain ⟨y0, y1, y2⟩ := hSw; simp only [List.getElem?_toArray, List.getElem?_cons_zero, List.getElem?_cons_succ, Option.map_some]; go_simp
          simp only [Act.put, List.setIfInBounds_toArray, List.set_cons_zero, List.set_cons_succ]
          refine takeYes 36 (some 43) (.int .i64 (n : Int)) (by kernel_rfl) (by kernel_rfl) (by kernel_rfl) (by kernel_rfl) (fun _ _ _ h => h) (by kernel_rfl) ?_ hHeld ?_
          · intro w' hSw; obtain ⟨y0, y1, y2⟩ := hSw; simp only [List.getElem?_toArray, List.getElem?_cons_zero, List.getElem?_cons_succ, Option.map_some]; go_simp
          simp only [Act.put, List.setIfInBounds_toArray, List.set_cons_zero, List.set_cons_succ]
          refine takeYes 37 (some 44) (.pointer (some ⟨eb, eo + n, none⟩)) (by kernel_rfl) (by kernel_rfl) (by kernel_rfl) (by kernel_rfl) (fun _ _ _ h => h) (by kernel_rfl) ?_ hHeld ?_
          · intro w' hSw; obtain ⟨y0, y1, y2⟩ := hSw; simp only [List.getElem?_toArray, List.getElem?_cons_zero, List.getElem?_cons_succ, Option.map_some]; go_simp
          simp only [Act.put, List.setIfInBounds_toArray, List.set_cons_zero, List.set_cons_succ]
          refine takeYes 38 (some 45) (.int .i64 y) (by kernel_rfl) (by kernel_rfl) (by kernel_rfl) (by kernel_rfl) (fun _ _ _ h => h) (by kernel_rfl) ?_ hHeld ?_
          · intro w' hSw; obtain ⟨y0, y1, y2⟩ := hSw; simp only [List.getElem?_toArray, List.getElem?_cons_zero, List.getElem?_cons_succ, Option.map_some]; go_simp
          simp only [Act.put, List.setIfInBounds_toArray, List.set_cons_zero, List.set_cons_succ]
          refine wpAnyH_ready (rs := [39]) (by kernel_rfl) (by simp) ?_
          refine AllReadyH.cons rfl (fun K hK => ?_) AllReadyH.nil
          have HK := hide hK
          clear hK
          go_simp
          refine (compare_any z y _).mono ?_
          rintro r w5 ⟨rfl, rfl⟩
          refine HK.out _ _ hHeld (fun hHeld => ?_)
          clear HK K
          refine takeYes 40 (some 47) (.bool (decide (z < y))) (by kernel_rfl) (by kernel_rfl) (by kernel_rfl) (by kernel_rfl) (fun _ _ _ h => h) (by kernel_rfl) ?_ hHeld ?_
          · intro w' hSw; obtain ⟨y0, y1, y2⟩ := hSw; simp only [List.getElem?_toArray, List.getElem?_cons_zero, List.getElem?_cons_succ, Option.map_some]; go_simp
          simp only [Act.put, List.setIfInBounds_toArray, List.set_cons_zero, List.set_cons_succ]
          refine takeYes 41 (some 48) (.bool (decide (z < y))) (by kernel_rfl) (by kernel_rfl) (by kernel_rfl) (by kernel_rfl) (fun _ _ _ h => h) (by kernel_rfl) ?_ hHeld ?_
          · intro w' hSw; obtain ⟨y0, y1, y2⟩ := hSw; simp only [List.getElem?_toArray, List.getElem?_cons_zero, List.getElem?_cons_succ, Option.map_some]; go_simp
          simp only [Act.put, List.setIfInBounds_toArray, List.set_cons_zero, List.set_cons_succ]
          refine takeYes 42 (some 49) (.bool (decide (z < y))) (by kernel_rfl) (by kernel_rfl) (by kernel_rfl) (by kernel_rfl) (fun _ _ _ h => h) (by kernel_rfl) ?_ hHeld ?_
          · intro w' hSw; obtain ⟨y0, y1, y2⟩ := hSw; simp only [List.getElem?_toArray, List.getElem?_cons_zero, List.getElem?_cons_succ, Option.map_some]; go_simp
          simp only [Act.put, List.setIfInBounds_toArray, List.set_cons_zero, List.set_cons_succ]
          refine wpAnyH_done (by kernel_rfl) ?_ _
          refine NoPanic.normal ?_
          clear hHeld
          go_wp2_with fail
          go_meet
          exact ⟨decide (z < y), rfl, fun h => ⟨hnl, HN.out (.inr (by simpa using h))⟩, q + 1, rfl⟩
      · have e : n = xs.length := by omega
        subst e
        have i1 : ¬ (xs.length : Int) < (xs.length : Int) := by omega
        refine wp_region_noPanic ?_
        refine wp_region_held_drew (S := fun w' => w'.cell? ⟨sb, 0, none⟩ = some (.func (.func 16) #[] #[]) ∧ True) (by kernel_rfl) ⟨by simpa using c0, trivial⟩ (fun hHeld => ?_)
        refine takeYes 0 (some 7) (.int .i64 (xs.length : Int)) (by kernel_rfl) (by kernel_rfl) (by kernel_rfl) (by kernel_rfl) (fun _ _ _ h => h) (by kernel_rfl) ?_ hHeld ?_
        · intro w' hSw; obtain ⟨y0, y1⟩ := hSw; simp only [List.getElem?_toArray, List.getElem?_cons_zero, List.getElem?_cons_succ, Option.map_some]; go_simp
        simp only [Act.put, List.setIfInBounds_toArray, List.set_cons_zero, List.set_cons_succ]
        refine takeYes 1 (some 8) (.slice (some ⟨eb, eo, none⟩) xs.length cap) (by kernel_rfl) (by kernel_rfl) (by kernel_rfl) (by kernel_rfl) (fun _ _ _ h => h) (by kernel_rfl) ?_ hHeld ?_
        · intro w' hSw; obtain ⟨y0, y1⟩ := hSw; simp only [List.getElem?_toArray, List.getElem?_cons_zero, List.getElem?_cons_succ, Option.map_some]; go_simp
        simp only [Act.put, List.setIfInBounds_toArray, List.set_cons_zero, List.set_cons_succ]
        refine takeYes 2 (some 9) (.int .i64 (xs.length : Int)) (by kernel_rfl) (by kernel_rfl) (by kernel_rfl) (by kernel_rfl) (fun _ _ _ h => h) (by kernel_rfl) ?_ hHeld ?_
        · intro w' hSw; obtain ⟨y0, y1⟩ := hSw; simp only [List.getElem?_toArray, List.getElem?_cons_zero, List.getElem?_cons_succ, Option.map_some]; go_simp
        simp only [Act.put, List.setIfInBounds_toArray, List.set_cons_zero, List.set_cons_succ]
        refine takeYes 3 (some 10) (.bool false) (by kernel_rfl) (by kernel_rfl) (by kernel_rfl) (by kernel_rfl) (fun _ _ _ h => h) (by kernel_rfl) ?_ hHeld ?_
        · intro w' hSw; obtain ⟨y0, y1⟩ := hSw; simp only [List.getElem?_toArray, List.getElem?_cons_zero, List.getElem?_cons_succ, Option.map_some]; go_simp
        simp only [Act.put, List.setIfInBounds_toArray, List.set_cons_zero, List.set_cons_succ]
        refine takeYes 4 (some 11) (.bool false) (by kernel_rfl) (by kernel_rfl) (by kernel_rfl) (by kernel_rfl) (fun _ _ _ h => h) (by kernel_rfl) ?_ hHeld ?_
        · intro w' hSw; obtain ⟨y0, y1⟩ := hSw; simp only [List.getElem?_toArray, List.getElem?_cons_zero, List.getElem?_cons_succ, Option.map_some]; go_simp
        simp only [Act.put, List.setIfInBounds_toArray, List.set_cons_zero, List.set_cons_succ]
        refine takeNo 5 (some 12) (by kernel_rfl) (by kernel_rfl) (by kernel_rfl) (by kernel_rfl) (fun _ _ _ h => h) (by kernel_rfl) hHeld ?_
        simp only [Act.put, List.setIfInBounds_toArray, List.set_cons_zero, List.set_cons_succ]
        refine takeNo 6 (some 13) (by kernel_rfl) (by kernel_rfl) (by kernel_rfl) (by kernel_rfl) (fun _ _ _ h => h) (by kernel_rfl) hHeld ?_
        simp only [Act.put, List.setIfInBounds_toArray, List.set_cons_zero, List.set_cons_succ]
        refine takeNo 7 (some 14) (by kernel_rfl) (by kernel_rfl) (by kernel_rfl) (by kernel_rfl) (fun _ _ _ h => h) (by kernel_rfl) hHeld ?_
        simp only [Act.put, List.setIfInBounds_toArray, List.set_cons_zero, List.set_cons_succ]
        refine takeNo 8 (some 15) (by kernel_rfl) (by kernel_rfl) (by kernel_rfl) (by kernel_rfl) (fun _ _ _ h => h) (by kernel_rfl) hHeld ?_
        simp only [Act.put, List.setIfInBounds_toArray, List.set_cons_zero, List.set_cons_succ]
        refine takeNo 9 (some 16) (by kernel_rfl) (by kernel_rfl) (by kernel_rfl) (by kernel_rfl) (fun _ _ _ h => h) (by kernel_rfl) hHeld ?_
        simp only [Act.put, List.setIfInBounds_toArray, List.set_cons_zero, List.set_cons_succ]
        refine takeNo 10 (some 17) (by kernel_rfl) (by kernel_rfl) (by kernel_rfl) (by kernel_rfl) (fun _ _ _ h => h) (by kernel_rfl) hHeld ?_
        simp only [Act.put, List.setIfInBounds_toArray, List.set_cons_zero, List.set_cons_succ]
        refine takeNo 11 (some 18) (by kernel_rfl) (by kernel_rfl) (by kernel_rfl) (by kernel_rfl) (fun _ _ _ h => h) (by kernel_rfl) hHeld ?_
        simp only [Act.put, List.setIfInBounds_toArray, List.set_cons_zero, List.set_cons_succ]
        refine takeNo 12 (some 19) (by kernel_rfl) (by kernel_rfl) (by kernel_rfl) (by kernel_rfl) (fun _ _ _ h => h) (by kernel_rfl) hHeld ?_
        simp only [Act.put, List.setIfInBounds_toArray, List.set_cons_zero, List.set_cons_succ]
        refine takeNo 13 (some 20) (by kernel_rfl) (by kernel_rfl) (by kernel_rfl) (by kernel_rfl) (fun _ _ _ h => h) (by kernel_rfl) hHeld ?_
        simp only [Act.put, List.setIfInBounds_toArray, List.set_cons_zero, List.set_cons_succ]
        refine takeNo 14 (some 21) (by kernel_rfl) (by kernel_rfl) (by kernel_rfl) (by kernel_rfl) (fun _ _ _ h => h) (by kernel_rfl) hHeld ?_
        simp only [Act.put, List.setIfInBounds_toArray, List.set_cons_zero, List.set_cons_succ]
        refine takeNo 15 (some 22) (by kernel_rfl) (by kernel_rfl) (by kernel_rfl) (by kernel_rfl) (fun _ _ _ h => h) (by kernel_rfl) hHeld ?_
        simp only [Act.put, List.setIfInBounds_toArray, List.set_cons_zero, List.set_cons_succ]
        refine takeNo 16 (some 23) (by kernel_rfl) (by kernel_rfl) (by kernel_rfl) (by kernel_rfl) (fun _ _ _ h => h) (by kernel_rfl) hHeld ?_
        simp only [Act.put, List.setIfInBounds_toArray, List.set_cons_zero, List.set_cons_succ]
        refine takeNo 17 (some 24) (by kernel_rfl) (by kernel_rfl) (by kernel_rfl) (by kernel_rfl) (fun _ _ _ h => h) (by kernel_rfl) hHeld ?_
        simp only [Act.put, List.setIfInBounds_toArray, List.set_cons_zero, List.set_cons_succ]
        refine takeNo 18 (some 25) (by kernel_rfl) (by kernel_rfl) (by kernel_rfl) (by kernel_rfl) (fun _ _ _ h => h) (by kernel_rfl) hHeld ?_
        simp only [Act.put, List.setIfInBounds_toArray, List.set_cons_zero, List.set_cons_succ]
        refine takeNo 19 (some 26) (by kernel_rfl) (by kernel_rfl) (by kernel_rfl) (by kernel_rfl) (fun _ _ _ h => h) (by kernel_rfl) hHeld ?_
        simp only [Act.put, List.setIfInBounds_toArray, List.set_cons_zero, List.set_cons_succ]
        refine takeYes 20 (some 27) (.bool false) (by kernel_rfl) (by kernel_rfl) (by kernel_rfl) (by kernel_rfl) (fun _ _ _ h => h) (by kernel_rfl) ?_ hHeld ?_
        · intro w' hSw; obtain ⟨y0, y1⟩ := hSw; simp only [List.getElem?_toArray, List.getElem?_cons_zero, List.getElem?_cons_succ, Option.map_some]; go_simp
        simp only [Act.put, List.setIfInBounds_toArray, List.set_cons_zero, List.set_cons_succ]
        refine takeYes 21 (some 28) (.bool false) (by kernel_rfl) (by kernel_rfl) (by kernel_rfl) (by kernel_rfl) (fun _ _ _ h => h) (by kernel_rfl) ?_ hHeld ?_
        · intro w' hSw; obtain ⟨y0, y1⟩ := hSw; simp only [List.getElem?_toArray, List.getElem?_cons_zero, List.getElem?_cons_succ, Option.map_some]; go_simp
        simp only [Act.put, List.setIfInBounds_toArray, List.set_cons_zero, List.set_cons_succ]
        refine takeNo 22 (some 29) (by kernel_rfl) (by kernel_rfl) (by kernel_rfl) (by kernel_rfl) (fun _ _ _ h => h) (by kernel_rfl) hHeld ?_
        simp only [Act.put, List.setIfInBounds_toArray, List.set_cons_zero, List.set_cons_succ]
        refine takeNo 23 (some 30) (by kernel_rfl) (by kernel_rfl) (by kernel_rfl) (by kernel_rfl) (fun _ _ _ h => h) (by kernel_rfl) hHeld ?_
        simp only [Act.put, List.setIfInBounds_toArray, List.set_cons_zero, List.set_cons_succ]
        refine takeNo 24 (some 31) (by kernel_rfl) (by kernel_rfl) (by kernel_rfl) (by kernel_rfl) (fun _ _ _ h => h) (by kernel_rfl) hHeld ?_
        simp only [Act.put, List.setIfInBounds_toArray, List.set_cons_zero, List.set_cons_succ]
        refine takeNo 25 (some 32) (by kernel_rfl) (by kernel_rfl) (by kernel_rfl) (by kernel_rfl) (fun _ _ _ h => h) (by kernel_rfl) hHeld ?_
        simp only [Act.put, List.setIfInBounds_toArray, List.set_cons_zero, List.set_cons_succ]
        refine takeNo 26 (some 33) (by kernel_rfl) (by kernel_rfl) (by kernel_rfl) (by kernel_rfl) (fun _ _ _ h => h) (by kernel_rfl) hHeld ?_
        simp only [Act.put, List.setIfInBounds_toArray, List.set_cons_zero, List.set_cons_succ]
        refine takeNo 27 (some 34) (by kernel_rfl) (by kernel_rfl) (by kernel_rfl) (by kernel_rfl) (fun _ _ _ h => h) (by kernel_rfl) hHeld ?_
        simp only [Act.put, List.setIfInBounds_toArray, List.set_cons_zero, List.set_cons_succ]
        refine takeNo 28 (some 35) (by kernel_rfl) (by kernel_rfl) (by kernel_rfl) (by kernel_rfl) (fun _ _ _ h => h) (by kernel_rfl) hHeld ?_
        simp only [Act.put, List.setIfInBounds_toArray, List.set_cons_zero, List.set_cons_succ]
        refine takeNo 29 (some 36) (by kernel_rfl) (by kernel_rfl) (by kernel_rfl) (by kernel_rfl) (fun _ _ _ h => h) (by kernel_rfl) hHeld ?_
        simp only [Act.put, List.setIfInBounds_toArray, List.set_cons_zero, List.set_cons_succ]
        refine takeNo 30 (some 37) (by kernel_rfl) (by kernel_rfl) (by kernel_rfl) (by kernel_rfl) (fun _ _ _ h => h) (by kernel_rfl) hHeld ?_
        simp only [Act.put, List.setIfInBounds_toArray, List.set_cons_zero, List.set_cons_succ]
        refine takeNo 31 (some 38) (by kernel_rfl) (by kernel_rfl) (by kernel_rfl) (by kernel_rfl) (fun _ _ _ h => h) (by kernel_rfl) hHeld ?_
        simp only [Act.put, List.setIfInBounds_toArray, List.set_cons_zero, List.set_cons_succ]
        refine takeNo 32 (some 39) (by kernel_rfl) (by kernel_rfl) (by kernel_rfl) (by kernel_rfl) (fun _ _ _ h => h) (by kernel_rfl) hHeld ?_
        simp only [Act.put, List.setIfInBounds_toArray, List.set_cons_zero, List.set_cons_succ]
        refine takeNo 33 (some 40) (by kernel_rfl) (by kernel_rfl) (by kernel_rfl) (by kernel_rfl) (fun _ _ _ h => h) (by kernel_rfl) hHeld ?_
        simp only [Act.put, List.setIfInBounds_toArray, List.set_cons_zero, List.set_cons_succ]
        refine takeNo 34 (some 41) (by kernel_rfl) (by kernel_rfl) (by kernel_rfl) (by kernel_rfl) (fun _ _ _ h => h) (by kernel_rfl) hHeld ?_
        simp only [Act.put, List.setIfInBounds_toArray, List.set_cons_zero, List.set_cons_succ]
        refine takeNo 35 (some 42) (by kernel_rfl) (by kernel_rfl) (by kernel_rfl) (by kernel_rfl) (fun _ _ _ h => h) (by kernel_rfl) hHeld ?_
        simp only [Act.put, List.setIfInBounds_toArray, List.set_cons_zero, List.set_cons_succ]
        refine takeNo 36 (some 43) (by kernel_rfl) (by kernel_rfl) (by kernel_rfl) (by kernel_rfl) (fun _ _ _ h => h) (by kernel_rfl) hHeld ?_
        simp only [Act.put, List.setIfInBounds_toArray, List.set_cons_zero, List.set_cons_succ]
        refine takeNo 37 (some 44) (by kernel_rfl) (by kernel_rfl) (by kernel_rfl) (by kernel_rfl) (fun _ _ _ h => h) (by kernel_rfl) hHeld ?_
        simp only [Act.put, List.setIfInBounds_toArray, List.set_cons_zero, List.set_cons_succ]
        refine takeNo 38 (some 45) (by kernel_rfl) (by kernel_rfl) (by kernel_rfl) (by kernel_rfl) (fun _ _ _ h => h) (by kernel_rfl) hHeld ?_
        simp only [Act.put, List.setIfInBounds_toArray, List.set_cons_zero, List.set_cons_succ]
        refine takeNo 39 (some 46) (by kernel_rfl) (by kernel_rfl) (by kernel_rfl) (by kernel_rfl) (fun _ _ _ h => h) (by kernel_rfl) hHeld ?_
        simp only [Act.put, List.setIfInBounds_toArray, List.set_cons_zero, List.set_cons_succ]
        refine takeNo 40 (some 47) (by kernel_rfl) (by kernel_rfl) (by kernel_rfl) (by kernel_rfl) (fun _ _ _ h => h) (by kernel_rfl) hHeld ?_
        simp only [Act.put, List.setIfInBounds_toArray, List.set_cons_zero, List.set_cons_succ]
        refine takeNo 41 (some 48) (by kernel_rfl) (by kernel_rfl) (by kernel_rfl) (by kernel_rfl) (fun _ _ _ h => h) (by kernel_rfl) hHeld ?_
        simp only [Act.put, List.setIfInBounds_toArray, List.set_cons_zero, List.set_cons_succ]
        refine takeYes 42 (some 49) (.bool false) (by kernel_rfl) (by kernel_rfl) (by kernel_rfl) (by kernel_rfl) (fun _ _ _ h => h) (by kernel_rfl) ?_ hHeld ?_
        · intro w' hSw; obtain ⟨y0, y1⟩ := hSw; simp only [List.getElem?_toArray, List.getElem?_cons_zero, List.getElem?_cons_succ, Option.map_some]; go_simp
        simp only [Act.put, List.setIfInBounds_toArray, List.set_cons_zero, List.set_cons_succ]
        refine wpAnyH_done (by kernel_rfl) ?_ _
        refine NoPanic.normal ?_
        clear hHeld
        go_wp2_with fail
        go_meet
        exact ⟨false, rfl, fun h => (by cases h), q + 1, rfl⟩
    case rest =>
      obtain ⟨b, rfl, hb, q2, rfl⟩ := hcut
      have HI2 : Hid (InvS ordA w0 (w.drewN q2) sb [] none none) := ⟨HI.out.st.drewN ordA_good q2, HI.out.mem, HI.out.len, HI.out.only.drewN q2, HI.out.sbn, HI.out.hbn, HI.out.ftn, HI.out.fon⟩
      cases b
      · have s1 := run_cutTo one23 eb eo xs.length cap n (n : Int) rfl (by omega)
        have s2 := run_cut one23 (some ⟨eb, eo, none⟩) xs.length cap n (n : Int) rfl (by omega)
        have HPut := hide (put_any ordA ordA_good n HI2.out (HI2.out.only.range HR0.out (fun h => h)) (Nat.lt_of_lt_of_le hel HI2.out.only.size) hle hcm hn HRun.out.2 (by omega))
        have HCut : Hid (n < xs.length → cutA (some ⟨eb, eo, none⟩) cap n = some ⟨eb, eo + n, none⟩) := fun hlt => cutA_some (by omega)
        generalize cutA (some ⟨eb, eo, none⟩) cap n = ca at s2 HCut
        clear hb c0
        go_wp2_with (first
          | (go_at_call 49; refine HPut.out.mono ?_; rintro r w3 ⟨rfl, h3, t3, hI3⟩; have HI3 := hide hI3; clear hI3)
          | fail)
        go_loopw [61] (fun i wr => ∃ j : Nat, j ≤ xs.length - n ∧ i = .int .i64 j ∧ ∃ h' t', InvS ordA w0 wr sb (xs.take n ++ (xs.drop n).take j) (some h') t') (fun i _ => xs.length - n - (intOf i).toNat)
        case atStart => exact ⟨0, Nat.zero_le _, rfl, h3, t3, by rw [List.take_zero, List.append_nil]; exact HI3.out⟩
        case round =>
          obtain ⟨j, hj, rfl, h', t', hI⟩ := hrel
          have HIj := hide hI
          clear hI
          by_cases hjl : j < xs.length - n
          · have hca := HCut.out (by omega)
            subst hca
            have hy := range_at (HIj.out.only.range HR0.out (fun h => h)) (k := n + j) (by omega)
            rw [← Nat.add_assoc] at hy
            have htk : (xs.drop n).take (j + 1) = (xs.drop n).take j ++ [xs.getD (n + j) 0] := by
              rw [List.take_add_one, List.getElem?_drop, List.getD_eq_getElem?_getD, List.getElem?_eq_getElem (show n + j < xs.length by omega)]; rfl
            have HTK := hide htk
            clear htk
            generalize xs.getD (n + j) 0 = y at hy HTK
            have hNl : (xs.take n ++ (xs.drop n).take j).length ≤ 4000 := by simp; omega
            have i1 : (j : Int) < ((xs.length - n : Nat) : Int) := by omega
            go_wp2_with (first
              | (go_at_call 17; refine (invs_add ordA ordA_good HIj.out y (by omega)).mono ?_; rintro r w5 ⟨⟨v, rfl⟩, h5, t5, hI5⟩; have HI5 := hide hI5; clear hI5)
              | fail)
            refine ⟨⟨j + 1, by omega, by simp, h5, t5, ?_⟩, by simp [intOf]; omega⟩
            rw [HTK.out, ← List.append_assoc]; exact HI5.out
          · have i1 : ¬ (j : Int) < ((xs.length - n : Nat) : Int) := by omega
            go_wp2
            go_end0
            have h6 := HIj.out
            rw [List.take_of_length_le (l := xs.drop n) (by rw [List.length_drop]; omega), List.take_append_drop] at h6
            exact ⟨rfl, h', t', h6⟩
      · obtain ⟨hn1, hr1⟩ := hb rfl
        have HR1 := hide hr1
        clear hr1 hb
        go_wp2
        exact ⟨⟨n + 1, by omega, by simp, HR1.out, q2, rfl⟩, by simp [intOf]; omega⟩
end Go.Proofs.Ybulkcgwo.T
