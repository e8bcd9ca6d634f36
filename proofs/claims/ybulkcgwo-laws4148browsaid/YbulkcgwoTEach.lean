import Derived.Test.YbulkcgwoTYield
import Derived.Deep.DeepCutAuto
namespace Go.Proofs.Ybulkcgwo.T
open Go.RowKit Go.Shelf
set_option linter.unusedVariables false
set_option linter.unusedSimpArgs false

theorem run_whole (eb eo n cap : Nat) (h : n ≤ cap) (hp : 0 < cap) (w : World) :
    (Instr.slice 23 (.slice (some ⟨eb, eo, none⟩) n cap) (some (.int .i64 0)) (some (.int .i64 (n : Int))) none).run Yba.prog w = .ok (.slice (some ⟨eb, eo, none⟩) n cap) w := by
  have := run_cut2 one23 (some ⟨eb, eo, none⟩) n cap 0 n 0 (n : Int) rfl rfl (by omega) h w
  rw [cutA_some hp] at this
  simpa using this

set_option maxHeartbeats 4000000 in
set_option maxRecDepth 100000 in
theorem each_leaf (l N : Nat) (FF : Nat → Prop) (J : List Int → World → Prop) (hY : Rounds l N FF J) (cb sb hb : Nat) (hJs : ∀ pre W W', J pre W → Only (fun k => k = cb) W W' → J pre W') (g : Int) (d : Nd) (W : World) (hJ : J [] W) (hC : Cur W cb sb) (h25 : W.cell? ⟨cb, 25, none⟩ = some (.int .u64 g)) (h24 : W.cell? ⟨cb, 24, none⟩ = some (.int .i64 1)) (hF : Fram W cb 0 d.b 0)
    (hE : EOK W d) (h0 : W.cell? ⟨d.b, 0, none⟩ = some (.pointer none)) (s5 : W.cell? ⟨sb, 5, none⟩ = some (.pointer (some ⟨hb, 0, none⟩))) (k1 : W.cell? ⟨hb, 1, none⟩ = some (.int .u64 g))
    (f1 : ¬ FF d.eb) (f2 : ¬ FF sb) (f3 : ¬ FF hb) (f4 : ¬ FF cb) (f5 : ¬ FF d.b) (hN : d.xs.length ≤ N) (hx : d.xs.length ≤ 1000) (hp : cb ≠ d.b) :
    Calls Yba.prog 72 #[.pointer (some ⟨cb, 0, none⟩), .func (.yield l) #[] #[]] W fun e W' => (∃ v, e = .returned v) ∧ J d.xs W' ∧ Only (fun k => FF k ∨ k = cb) W W' := by
  obtain ⟨e1, e2⟩ := hF
  simp only [Nat.mul_zero, Nat.add_zero] at e1 e2
  have E1 := hide e1
  have E2 := hide e2
  have H24 := hide h24
  have c0 := hC.s
  have ec := hE.cell
  have HCh := hide (changed81 cb sb hb g W c0 h25 s5 k1)
  have HC := hide hC
  have HE := hide hE
  have HY := hide hY
  have HJ := hide hJ
  have HJs := hide hJs
  have FS : Hid ((¬ FF sb) ∧ (¬ FF hb) ∧ (¬ FF cb) ∧ ¬ FF d.b) := ⟨f2, f3, f4, f5⟩
  have FE := hide f1
  clear hC hE hY hJ hJs f1 f2 f3 f4 f5
  have hw0 : IntKind.i64.wrap 0 = 0 := by kernel_rfl
  go_enter Yba.func72, Yba.ntmps72
  go_wp2
  refine wp_loop_rounds 1 ?_
  rw [rounds_succ]
  go_wp2_with (first
    | (go_at_call 81; refine HCh.out.mono ?_; rintro r w1 ⟨rfl, n1, rfl⟩; have HO1 : Hid (Only (fun _ => False) W (W.drewN n1)) := (Only.refl _ _).drewN n1; generalize (W.drewN n1) = w1 at HO1 ⊢; have a2 := HO1.out.cell e2 (fun h => h); have a24 := HO1.out.cell h24 (fun h => h); clear e1 e2 h24 HCh)
    | fail)
  go_quiet (fail)
  have HO2 : Hid (Only (fun _ => False) W (w1.drewN nq)) := HO1.out.drewN nq
  generalize (w1.drewN nq) = w2 at HO2 ⊢
  have HC2 := hide (HC.out.kept HO2.out (fun h => h))
  have HE2 := hide (HE.out.kept HO2.out (fun h => h) (fun h => h))
  clear a2 a24
  have b0 := HC2.out.s
  have bd := HC2.out.d
  have be := HC2.out.e
  have b2 := HO2.out.cell E1.out (fun h => h)
  have b3 := HO2.out.cell E2.out (fun h => h)
  have b25 := HO2.out.cell h25 (fun h => h)
  have bk := HO2.out.cell h0 (fun h => h)
  have bec := HO2.out.cell ec (fun h => h)
  have bs5 := HO2.out.cell s5 (fun h => h)
  have bk1 := HO2.out.cell k1 (fun h => h)
  have HYU := hide (callsIn_wide.1 (yieldUp_in 1 l N (by omega) FF J HY.out [] d.xs d.eb d.eo d.cap sb hb g w2.drew (HJs.out _ _ _ HJ.out ((HO2.out.mono (G := fun k => k = cb) (fun _ _ h => h.elim)).drew)) ((World.rangeAt_drew _ _ _ _).2 HE2.out.row) (by simpa using bs5) (by simpa using bk1) FE.out FS.out.1 FS.out.2.1 (by simpa using hN) hx))
  rw [List.nil_append] at HYU
  have hrw := run_whole d.eb d.eo d.xs.length d.cap HE.out.len HE.out.pos
  have hmin : ∀ (ts : Array TypeId) (t : TypeId) (V : World), (Builtin.min_ ts t #[.int .i64 0, .int .i64 (d.xs.length : Int)]).run Yba.prog V = .ok (.int .i64 0) V := by
    intro ts t V
    rw [run_min_int2, if_neg (by omega)]
  clear h25 h0 ec s5 k1 c0 HO1 bs5 bk1
  go_wp2_with fail
  refine wp_region_noPanic ?_
  refine wp_region_held_drew (S := fun w' => w'.cell? ⟨d.b, 1, none⟩ = some (.slice (some ⟨d.eb, d.eo, none⟩) d.xs.length d.cap) ∧ w'.cell? ⟨cb, 3, none⟩ = some (.int .i64 0) ∧ w'.cell? ⟨cb, 0, none⟩ = some (.pointer (some ⟨sb, 0, none⟩)) ∧ w'.cell? ⟨cb, 25, none⟩ = some (.int .u64 g)) (by kernel_rfl) ⟨by simpa using bec, by simpa using b3, by simpa using b0, by simpa using b25⟩ (fun hHeld => ?_)
  refine takeYes 0 (some 66) (.pointer (some ⟨d.b, 0, none⟩)) (by kernel_rfl) (by kernel_rfl) (by kernel_rfl) (by kernel_rfl) (fun _ _ _ h => h) (by kernel_rfl) ?_ hHeld ?_
  · intro w' hSw; obtain ⟨y0, y1, y2, y3⟩ := hSw; simp only [List.getElem?_toArray, List.getElem?_cons_zero, List.getElem?_cons_succ, Option.map_some]; go_simp
  simp only [Act.put, List.setIfInBounds_toArray, List.set_cons_zero, List.set_cons_succ]
  refine takeYes 1 (some 67) (.pointer (some ⟨d.b, 0, none⟩)) (by kernel_rfl) (by kernel_rfl) (by kernel_rfl) (by kernel_rfl) (fun _ _ _ h => h) (by kernel_rfl) ?_ hHeld ?_
  · intro w' hSw; obtain ⟨y0, y1, y2, y3⟩ := hSw; simp only [List.getElem?_toArray, List.getElem?_cons_zero, List.getElem?_cons_succ, Option.map_some]; go_simp
  simp only [Act.put, List.setIfInBounds_toArray, List.set_cons_zero, List.set_cons_succ]
  refine takeYes 2 (some 68) (.pointer (some ⟨d.b, 1, none⟩)) (by kernel_rfl) (by kernel_rfl) (by kernel_rfl) (by kernel_rfl) (fun _ _ _ h => h) (by kernel_rfl) ?_ hHeld ?_
  · intro w' hSw; obtain ⟨y0, y1, y2, y3⟩ := hSw; simp only [List.getElem?_toArray, List.getElem?_cons_zero, List.getElem?_cons_succ, Option.map_some]; go_simp
  simp only [Act.put, List.setIfInBounds_toArray, List.set_cons_zero, List.set_cons_succ]
  refine takeYes 3 (some 69) (.slice (some ⟨d.eb, d.eo, none⟩) d.xs.length d.cap) (by kernel_rfl) (by kernel_rfl) (by kernel_rfl) (by kernel_rfl) (fun _ _ _ h => h) (by kernel_rfl) ?_ hHeld ?_
  · intro w' hSw; obtain ⟨y0, y1, y2, y3⟩ := hSw; simp only [List.getElem?_toArray, List.getElem?_cons_zero, List.getElem?_cons_succ, Option.map_some]; go_simp
  simp only [Act.put, List.setIfInBounds_toArray, List.set_cons_zero, List.set_cons_succ]
  refine takeYes 4 (some 70) (.pointer (some ⟨cb, 2, none⟩)) (by kernel_rfl) (by kernel_rfl) (by kernel_rfl) (by kernel_rfl) (fun _ _ _ h => h) (by kernel_rfl) ?_ hHeld ?_
  · intro w' hSw; obtain ⟨y0, y1, y2, y3⟩ := hSw; simp only [List.getElem?_toArray, List.getElem?_cons_zero, List.getElem?_cons_succ, Option.map_some]; go_simp
  simp only [Act.put, List.setIfInBounds_toArray, List.set_cons_zero, List.set_cons_succ]
  refine takeYes 5 (some 71) (.pointer (some ⟨cb, 2, none⟩)) (by kernel_rfl) (by kernel_rfl) (by kernel_rfl) (by kernel_rfl) (fun _ _ _ h => h) (by kernel_rfl) ?_ hHeld ?_
  · intro w' hSw; obtain ⟨y0, y1, y2, y3⟩ := hSw; simp only [List.getElem?_toArray, List.getElem?_cons_zero, List.getElem?_cons_succ, Option.map_some]; go_simp
  simp only [Act.put, List.setIfInBounds_toArray, List.set_cons_zero, List.set_cons_succ]
  refine takeYes 6 (some 72) (.pointer (some ⟨cb, 3, none⟩)) (by kernel_rfl) (by kernel_rfl) (by kernel_rfl) (by kernel_rfl) (fun _ _ _ h => h) (by kernel_rfl) ?_ hHeld ?_
  · intro w' hSw; obtain ⟨y0, y1, y2, y3⟩ := hSw; simp only [List.getElem?_toArray, List.getElem?_cons_zero, List.getElem?_cons_succ, Option.map_some]; go_simp
  simp only [Act.put, List.setIfInBounds_toArray, List.set_cons_zero, List.set_cons_succ]
  refine takeYes 7 (some 73) (.int .i64 0) (by kernel_rfl) (by kernel_rfl) (by kernel_rfl) (by kernel_rfl) (fun _ _ _ h => h) (by kernel_rfl) ?_ hHeld ?_
  · intro w' hSw; obtain ⟨y0, y1, y2, y3⟩ := hSw; simp only [List.getElem?_toArray, List.getElem?_cons_zero, List.getElem?_cons_succ, Option.map_some]; go_simp
  simp only [Act.put, List.setIfInBounds_toArray, List.set_cons_zero, List.set_cons_succ]
  refine takeYes 8 (some 74) (.int .i64 (d.xs.length : Int)) (by kernel_rfl) (by kernel_rfl) (by kernel_rfl) (by kernel_rfl) (fun _ _ _ h => h) (by kernel_rfl) ?_ hHeld ?_
  · intro w' hSw; obtain ⟨y0, y1, y2, y3⟩ := hSw; simp only [List.getElem?_toArray, List.getElem?_cons_zero, List.getElem?_cons_succ, Option.map_some]; go_simp
  simp only [Act.put, List.setIfInBounds_toArray, List.set_cons_zero, List.set_cons_succ]
  refine takeYes 9 (some 75) (.int .i64 0) (by kernel_rfl) (by kernel_rfl) (by kernel_rfl) (by kernel_rfl) (fun _ _ _ h => h) (by kernel_rfl) ?_ hHeld ?_
  · intro w' hSw; obtain ⟨y0, y1, y2, y3⟩ := hSw; simp only [List.getElem?_toArray, List.getElem?_cons_zero, List.getElem?_cons_succ, Option.map_some]; go_simp
  simp only [Act.put, List.setIfInBounds_toArray, List.set_cons_zero, List.set_cons_succ]
  refine takeYes 10 (some 76) (.int .i64 (d.xs.length : Int)) (by kernel_rfl) (by kernel_rfl) (by kernel_rfl) (by kernel_rfl) (fun _ _ _ h => h) (by kernel_rfl) ?_ hHeld ?_
  · intro w' hSw; obtain ⟨y0, y1, y2, y3⟩ := hSw; simp only [List.getElem?_toArray, List.getElem?_cons_zero, List.getElem?_cons_succ, Option.map_some]; go_simp
  simp only [Act.put, List.setIfInBounds_toArray, List.set_cons_zero, List.set_cons_succ]
  refine takeYes 11 (some 77) (.slice (some ⟨d.eb, d.eo, none⟩) d.xs.length d.cap) (by kernel_rfl) (by kernel_rfl) (by kernel_rfl) (by kernel_rfl) (fun _ _ _ h => h) (by kernel_rfl) ?_ hHeld ?_
  · intro w' hSw; obtain ⟨y0, y1, y2, y3⟩ := hSw; simp only [List.getElem?_toArray, List.getElem?_cons_zero, List.getElem?_cons_succ, Option.map_some]; go_simp
  simp only [Act.put, List.setIfInBounds_toArray, List.set_cons_zero, List.set_cons_succ]
  refine takeYes 12 (some 78) (.func (.yield l) #[] #[]) (by kernel_rfl) (by kernel_rfl) (by kernel_rfl) (by kernel_rfl) (fun _ _ _ h => h) (by kernel_rfl) ?_ hHeld ?_
  · intro w' hSw; obtain ⟨y0, y1, y2, y3⟩ := hSw; simp only [List.getElem?_toArray, List.getElem?_cons_zero, List.getElem?_cons_succ, Option.map_some]; go_simp
  simp only [Act.put, List.setIfInBounds_toArray, List.set_cons_zero, List.set_cons_succ]
  refine takeYes 13 (some 79) (.pointer (some ⟨cb, 0, none⟩)) (by kernel_rfl) (by kernel_rfl) (by kernel_rfl) (by kernel_rfl) (fun _ _ _ h => h) (by kernel_rfl) ?_ hHeld ?_
  · intro w' hSw; obtain ⟨y0, y1, y2, y3⟩ := hSw; simp only [List.getElem?_toArray, List.getElem?_cons_zero, List.getElem?_cons_succ, Option.map_some]; go_simp
  simp only [Act.put, List.setIfInBounds_toArray, List.set_cons_zero, List.set_cons_succ]
  refine takeYes 14 (some 80) (.pointer (some ⟨cb, 0, none⟩)) (by kernel_rfl) (by kernel_rfl) (by kernel_rfl) (by kernel_rfl) (fun _ _ _ h => h) (by kernel_rfl) ?_ hHeld ?_
  · intro w' hSw; obtain ⟨y0, y1, y2, y3⟩ := hSw; simp only [List.getElem?_toArray, List.getElem?_cons_zero, List.getElem?_cons_succ, Option.map_some]; go_simp
  simp only [Act.put, List.setIfInBounds_toArray, List.set_cons_zero, List.set_cons_succ]
  refine takeYes 15 (some 81) (.pointer (some ⟨cb, 0, none⟩)) (by kernel_rfl) (by kernel_rfl) (by kernel_rfl) (by kernel_rfl) (fun _ _ _ h => h) (by kernel_rfl) ?_ hHeld ?_
  · intro w' hSw; obtain ⟨y0, y1, y2, y3⟩ := hSw; simp only [List.getElem?_toArray, List.getElem?_cons_zero, List.getElem?_cons_succ, Option.map_some]; go_simp
  simp only [Act.put, List.setIfInBounds_toArray, List.set_cons_zero, List.set_cons_succ]
  refine takeYes 16 (some 82) (.pointer (some ⟨sb, 0, none⟩)) (by kernel_rfl) (by kernel_rfl) (by kernel_rfl) (by kernel_rfl) (fun _ _ _ h => h) (by kernel_rfl) ?_ hHeld ?_
  · intro w' hSw; obtain ⟨y0, y1, y2, y3⟩ := hSw; simp only [List.getElem?_toArray, List.getElem?_cons_zero, List.getElem?_cons_succ, Option.map_some]; go_simp
  simp only [Act.put, List.setIfInBounds_toArray, List.set_cons_zero, List.set_cons_succ]
  refine takeYes 17 (some 83) (.pointer (some ⟨cb, 0, none⟩)) (by kernel_rfl) (by kernel_rfl) (by kernel_rfl) (by kernel_rfl) (fun _ _ _ h => h) (by kernel_rfl) ?_ hHeld ?_
  · intro w' hSw; obtain ⟨y0, y1, y2, y3⟩ := hSw; simp only [List.getElem?_toArray, List.getElem?_cons_zero, List.getElem?_cons_succ, Option.map_some]; go_simp
  simp only [Act.put, List.setIfInBounds_toArray, List.set_cons_zero, List.set_cons_succ]
  refine takeYes 18 (some 84) (.pointer (some ⟨cb, 0, none⟩)) (by kernel_rfl) (by kernel_rfl) (by kernel_rfl) (by kernel_rfl) (fun _ _ _ h => h) (by kernel_rfl) ?_ hHeld ?_
  · intro w' hSw; obtain ⟨y0, y1, y2, y3⟩ := hSw; simp only [List.getElem?_toArray, List.getElem?_cons_zero, List.getElem?_cons_succ, Option.map_some]; go_simp
  simp only [Act.put, List.setIfInBounds_toArray, List.set_cons_zero, List.set_cons_succ]
  refine takeYes 19 (some 85) (.pointer (some ⟨cb, 25, none⟩)) (by kernel_rfl) (by kernel_rfl) (by kernel_rfl) (by kernel_rfl) (fun _ _ _ h => h) (by kernel_rfl) ?_ hHeld ?_
  · intro w' hSw; obtain ⟨y0, y1, y2, y3⟩ := hSw; simp only [List.getElem?_toArray, List.getElem?_cons_zero, List.getElem?_cons_succ, Option.map_some]; go_simp
  simp only [Act.put, List.setIfInBounds_toArray, List.set_cons_zero, List.set_cons_succ]
  refine takeYes 20 (some 86) (.int .u64 g) (by kernel_rfl) (by kernel_rfl) (by kernel_rfl) (by kernel_rfl) (fun _ _ _ h => h) (by kernel_rfl) ?_ hHeld ?_
  · intro w' hSw; obtain ⟨y0, y1, y2, y3⟩ := hSw; simp only [List.getElem?_toArray, List.getElem?_cons_zero, List.getElem?_cons_succ, Option.map_some]; go_simp
  simp only [Act.put, List.setIfInBounds_toArray, List.set_cons_zero, List.set_cons_succ]
  refine wpAnyH_ready (rs := [21]) (by kernel_rfl) (by simp) ?_
  refine AllReadyH.cons rfl (fun K hK => ?_) AllReadyH.nil
  have HK := hide hK
  clear hK
  go_simp
  clear hHeld
  refine HYU.out.mono ?_
  rintro r w3 ⟨rfl, hJ3, hO3⟩
  have HJ3 := hide hJ3
  have HO3 := hide hO3
  clear hJ3 hO3 HYU
  refine HK.out _ _ ⟨HO3.out.cell (by simpa using bec) FS.out.2.2.2, HO3.out.cell (by simpa using b3) FS.out.2.2.1, HO3.out.cell (by simpa using b0) FS.out.2.2.1, HO3.out.cell (by simpa using b25) FS.out.2.2.1⟩ (fun hHeld => ?_)
  clear HK K
  refine takeYes 22 (some 65) (.tuple #[.int .i64 0, .bool false, .bool true]) (by kernel_rfl) (by kernel_rfl) (by kernel_rfl) (by kernel_rfl) (fun _ _ _ h => h) (by kernel_rfl) ?_ hHeld ?_
  · intro w' hSw; obtain ⟨y0, y1, y2, y3⟩ := hSw; simp only [List.getElem?_toArray, List.getElem?_cons_zero, List.getElem?_cons_succ, Option.map_some]; go_simp
  simp only [Act.put, List.setIfInBounds_toArray, List.set_cons_zero, List.set_cons_succ]
  refine takeYes 23 (some 88) (.int .i64 0) (by kernel_rfl) (by kernel_rfl) (by kernel_rfl) (by kernel_rfl) (fun _ _ _ h => h) (by kernel_rfl) ?_ hHeld ?_
  · intro w' hSw; obtain ⟨y0, y1, y2, y3⟩ := hSw; simp only [List.getElem?_toArray, List.getElem?_cons_zero, List.getElem?_cons_succ, Option.map_some]; go_simp
  simp only [Act.put, List.setIfInBounds_toArray, List.set_cons_zero, List.set_cons_succ]
  refine takeYes 24 (some 89) (.bool false) (by kernel_rfl) (by kernel_rfl) (by kernel_rfl) (by kernel_rfl) (fun _ _ _ h => h) (by kernel_rfl) ?_ hHeld ?_
  · intro w' hSw; obtain ⟨y0, y1, y2, y3⟩ := hSw; simp only [List.getElem?_toArray, List.getElem?_cons_zero, List.getElem?_cons_succ, Option.map_some]; go_simp
  simp only [Act.put, List.setIfInBounds_toArray, List.set_cons_zero, List.set_cons_succ]
  refine takeYes 25 (some 90) (.bool true) (by kernel_rfl) (by kernel_rfl) (by kernel_rfl) (by kernel_rfl) (fun _ _ _ h => h) (by kernel_rfl) ?_ hHeld ?_
  · intro w' hSw; obtain ⟨y0, y1, y2, y3⟩ := hSw; simp only [List.getElem?_toArray, List.getElem?_cons_zero, List.getElem?_cons_succ, Option.map_some]; go_simp
  simp only [Act.put, List.setIfInBounds_toArray, List.set_cons_zero, List.set_cons_succ]
  refine takeYes 26 (some 7) (.int .i64 0) (by kernel_rfl) (by kernel_rfl) (by kernel_rfl) (by kernel_rfl) (fun _ _ _ h => h) (by kernel_rfl) ?_ hHeld ?_
  · intro w' hSw; obtain ⟨y0, y1, y2, y3⟩ := hSw; simp only [List.getElem?_toArray, List.getElem?_cons_zero, List.getElem?_cons_succ, Option.map_some]; go_simp
  simp only [Act.put, List.setIfInBounds_toArray, List.set_cons_zero, List.set_cons_succ]
  refine takeYes 27 (some 8) (.bool false) (by kernel_rfl) (by kernel_rfl) (by kernel_rfl) (by kernel_rfl) (fun _ _ _ h => h) (by kernel_rfl) ?_ hHeld ?_
  · intro w' hSw; obtain ⟨y0, y1, y2, y3⟩ := hSw; simp only [List.getElem?_toArray, List.getElem?_cons_zero, List.getElem?_cons_succ, Option.map_some]; go_simp
  simp only [Act.put, List.setIfInBounds_toArray, List.set_cons_zero, List.set_cons_succ]
  refine takeYes 28 (some 9) (.bool true) (by kernel_rfl) (by kernel_rfl) (by kernel_rfl) (by kernel_rfl) (fun _ _ _ h => h) (by kernel_rfl) ?_ hHeld ?_
  · intro w' hSw; obtain ⟨y0, y1, y2, y3⟩ := hSw; simp only [List.getElem?_toArray, List.getElem?_cons_zero, List.getElem?_cons_succ, Option.map_some]; go_simp
  simp only [Act.put, List.setIfInBounds_toArray, List.set_cons_zero, List.set_cons_succ]
  refine wpAnyH_done (by kernel_rfl) ?_ _
  refine NoPanic.normal ?_
  clear hHeld
  have HO23 : Hid (Only FF w2 w3) := ((Only.refl FF w2).drew).trans HO3.out (fun k h => .inl h)
  have HC3 := hide (HC2.out.kept HO23.out FS.out.2.2.1)
  have r3 := HO23.out.cell b3 FS.out.2.2.1
  have rce := HO23.out.cell bec FS.out.2.2.2
  obtain ⟨-, -, rf3⟩ := HC3.out.cell 3 (by omega)
  have hpd : d.b ≠ cb := fun h => hp h.symm
  have HC4 : Hid (Cur (w3.setCell ⟨cb, 3, none⟩ (.int .i64 (d.xs.length : Int))) cb sb) := HC3.out.set 3 _ (by omega) (by omega) (by omega) (by omega)
  have HO4 : Hid (Only (fun k => k = cb) w3 (w3.setCell ⟨cb, 3, none⟩ (.int .i64 (d.xs.length : Int)))) := (Only.refl (fun k => k = cb) w3).setCell (.inl rfl) _
  have rce4 := HO4.out.cell rce hpd
  have HST := hide (step_end cb sb (w3.setCell ⟨cb, 3, none⟩ (.int .i64 (d.xs.length : Int))) HC4.out (ascend_end1 cb sb d _ HC4.out ⟨(cell_set_other (by omega)).trans (HO23.out.cell b2 FS.out.2.2.1), World.cell?_setCell_same _ _ _ r3⟩ ((cell_set_other (by omega)).trans (HO23.out.cell (HO2.out.cell H24.out (fun h => h)) FS.out.2.2.1)) rce4))
  clear bec b3 b2 b0 bd be b25 bk hrw hmin
  go_wp2_with (first
    | (go_at_call 85; refine HST.out.mono ?_; rintro r w6 ⟨rfl, hO6⟩; have HO6 := hide hO6; clear hO6 HST)
    | fail)
  (try simp only [Exit.inBlock, Exit.then])
  refine bodyPost_ret (results_none rfl _ _ _) rfl ?_
  have hO46 : Only (fun k => k = cb) w3 w6 := HO4.out.trans HO6.out (fun k h => .inl h)
  refine ⟨⟨_, rfl⟩, HJs.out _ _ _ HJ3.out hO46, ?_⟩
  have o1 : Only (fun k => FF k ∨ k = cb) W w2 := HO2.out.mono (fun _ _ h => h.elim)
  exact (o1.trans HO23.out (fun k h => .inl (.inl h))).trans hO46 (fun k h => .inl (.inr h))
end Go.Proofs.Ybulkcgwo.T
