import Derived.Test.YbulkcgwoTEach
import Derived.Test.YbulkcgwoTFlat
import Derived.Test.YbulkcgwoTJoin
import Derived.Deep.DeepCutAuto
namespace Go.Proofs.Ybulkcgwo.T
open Go.RowKit Go.Shelf
set_option linter.unusedVariables false
set_option linter.unusedSimpArgs false

theorem up_mono (K : List (List Int)) (S : List Int) : ∀ {k m : Nat}, k ≤ m → (upF K S k).length ≤ (upF K S m).length := by
  intro k m h
  induction m with
  | zero => have : k = 0 := by omega
            subst this; exact Nat.le_refl _
  | succ m ih =>
    by_cases e : k = m + 1
    · subst e; exact Nat.le_refl _
    · have := ih (by omega)
      rw [upF, List.length_append]; omega
/-- The index in the first frame. -/
def idxOf (w : World) (cb : Nat) : Nat := match w.cell? ⟨cb, 3, none⟩ with
  | some (.int _ i) => i.toNat
  | _ => 0
theorem idx_eq {w : World} {cb i : Nat} (h : w.cell? ⟨cb, 3, none⟩ = some (.int .i64 i)) : idxOf w cb = i := by unfold idxOf; rw [h]; simp

/-- Between two rounds of each. -/
structure Ea (FF : Nat → Prop) (J : List Int → World → Prop) (cb sb : Nat) (g : Int) (d : Nd) (L : List Nd) (W wr : World) (i : Nat) (n : Nd) : Prop where
  at' : L[i]? = some n
  cur : Cur wr cb sb
  gen : wr.cell? ⟨cb, 25, none⟩ = some (.int .u64 g)
  dp : wr.cell? ⟨cb, 24, none⟩ = some (.int .i64 2)
  f0 : Fram wr cb 0 d.b i
  f1 : Fram wr cb 1 n.b 0
  j : J (upF (L.map Nd.xs) d.xs i) wr
  only : Only (fun k => FF k ∨ k = cb) W wr

set_option maxHeartbeats 8000000 in
set_option maxRecDepth 100000 in
theorem each_two (l N : Nat) (FF : Nat → Prop) (J : List Int → World → Prop) (hY : Rounds l N FF J) (cb sb hb : Nat) (hJs : ∀ pre W W', J pre W → Only (fun k => k = cb) W W' → J pre W') (g : Int) (d : Nd) (kb : Nat) (L : List Nd) (W : World) (n0 : Nd) (hE0 : Ea FF J cb sb g d L W W 0 n0)
    (hT : Two W d kb L) (hS : Sized L) (s5 : W.cell? ⟨sb, 5, none⟩ = some (.pointer (some ⟨hb, 0, none⟩))) (k1 : W.cell? ⟨hb, 1, none⟩ = some (.int .u64 g))
    (hFo : ∀ k, twoFoot d kb L k → ¬ (FF k ∨ k = cb)) (f2 : ¬ (FF sb ∨ sb = cb)) (f3 : ¬ (FF hb ∨ hb = cb)) (f4 : ¬ FF cb) (hN : (flatF (L.map Nd.xs) d.xs).length ≤ N) (hl : d.xs.length ≤ 125) :
    Calls Yba.prog 72 #[.pointer (some ⟨cb, 0, none⟩), .func (.yield l) #[] #[]] W fun e W' => (∃ v, e = .returned v) ∧ J (flatF (L.map Nd.xs) d.xs) W' ∧ Only (fun k => FF k ∨ k = cb) W W' := by
  have HE0 := hide hE0
  have HT0 := hide hT
  have HSz := hide hS
  have HY := hide hY
  have HJs := hide hJs
  have HFo := hide hFo
  have F2 := hide f2
  have F3 := hide f3
  have F4 := hide f4
  have HLen := hide hT.len
  have HUp := hide (up_flat (L.map Nd.xs) d.xs (by rw [List.length_map]; exact hT.len))
  rw [List.length_map] at HUp
  clear hE0 hT hS hY hJs hFo f2 f3 f4
  have hw1 : IntKind.i64.wrap 1 = 1 := by kernel_rfl
  go_enter Yba.func72, Yba.ntmps72
  go_wp2
  go_loopw [6] (fun _ wr => ∃ i n, Ea FF J cb sb g d L W wr i n) (fun _ wr => d.xs.length + 1 - idxOf wr cb)
  case atStart => exact ⟨0, n0, HE0.out⟩
  case round =>
    obtain ⟨i, n, hEa⟩ := hrel
    have HEa := hide hEa
    clear hEa HE0
    have hil : i < L.length := (List.getElem?_eq_some_iff.1 HEa.out.at').1
    have hid : i ≤ d.xs.length := by have := HLen.out; omega
    have hnm : n ∈ L := List.mem_of_getElem? HEa.out.at'
    have HTr := hide (HT0.out.kept HEa.out.only HFo.out)
    have HFn : Hid ((¬ FF n.b) ∧ (¬ FF n.eb) ∧ n.b ≠ cb ∧ d.b ≠ cb ∧ kb ≠ cb ∧ (¬ FF d.b)) := by
      have a1 := HFo.out n.b (.inr (.inr (.inr ⟨n, hnm, .inl rfl⟩)))
      have a2 := HFo.out n.eb (.inr (.inr (.inr ⟨n, hnm, .inr rfl⟩)))
      have a3 := HFo.out d.b (.inl rfl)
      have a4 := HFo.out kb (.inr (.inr (.inl rfl)))
      exact ⟨fun h => a1 (.inl h), fun h => a2 (.inl h), fun h => a1 (.inr h), fun h => a3 (.inr h), fun h => a4 (.inr h), fun h => a3 (.inl h)⟩
    have FS : Hid ((¬ FF sb) ∧ (¬ FF hb) ∧ (¬ FF cb) ∧ ¬ FF n.b) := ⟨fun h => F2.out (.inl h), fun h => F3.out (.inl h), F4.out, HFn.out.1⟩
    have rs5 := HEa.out.only.cell s5 F2.out
    have rk1 := HEa.out.only.cell k1 F3.out
    obtain ⟨g0, g1⟩ := HEa.out.f0
    obtain ⟨e1, e2⟩ := HEa.out.f1
    simp only [Nat.mul_zero, Nat.add_zero, Nat.mul_one, Nat.reduceAdd] at g0 g1 e1 e2
    have G0 := hide g0
    have G1 := hide g1
    have E1 := hide e1
    have E2 := hide e2
    have h24 := HEa.out.dp
    have H24 := hide h24
    have h25 := HEa.out.gen
    have H25 := hide h25
    have HE := hide (HTr.out.leaf n hnm).1
    have ec := HE.out.cell
    have h0 := (HTr.out.leaf n hnm).2
    have HCh := hide (changed81 cb sb hb g wr HEa.out.cur.s h25 rs5 rk1)
    have hnl : n.xs.length ≤ 1000 := by have := (HSz.out n hnm).2; omega
    clear g0 g1
    go_wp2_with (first
      | (go_at_call 81; refine HCh.out.mono ?_; rintro r w1 ⟨rfl, n1, rfl⟩; have HO1 : Hid (Only (fun _ => False) wr (wr.drewN n1)) := (Only.refl _ _).drewN n1; generalize (wr.drewN n1) = w1 at HO1 ⊢; have a2 := HO1.out.cell e2 (fun h => h); have a24 := HO1.out.cell h24 (fun h => h); clear e1 e2 h24 HCh)
      | fail)
    go_quiet (fail)
    have HO2 : Hid (Only (fun _ => False) wr (w1.drewN nq)) := HO1.out.drewN nq
    generalize (w1.drewN nq) = w2 at HO2 ⊢
    have HC2 := hide (HEa.out.cur.kept HO2.out (fun h => h))
    have HE2 := hide (HE.out.kept HO2.out (fun h => h) (fun h => h))
    clear a2 a24
    have b0 := HC2.out.s
    have bd := HC2.out.d
    have be := HC2.out.e
    have b2 := HO2.out.cell E1.out (fun h => h)
    have b3 := HO2.out.cell E2.out (fun h => h)
    have b25 := HO2.out.cell h25 (fun h => h)
    have bk := HO2.out.cell h0 (fun h => h)
    have bec := HO2.out.cell ec (fun h => h)
    have bs5 := HO2.out.cell rs5 (fun h => h)
    have bk1 := HO2.out.cell rk1 (fun h => h)
    have HUs : Hid (upF (L.map Nd.xs) d.xs (i + 1) = upF (L.map Nd.xs) d.xs i ++ (n.xs ++ (if i < d.xs.length then [d.xs.getD i 0] else []))) := by
      show _ = _
      rw [upF]
      have : (L.map Nd.xs).getD i [] = n.xs := by rw [List.getD_eq_getElem?_getD, List.getElem?_map, HEa.out.at']; rfl
      rw [this]
    have hub : (upF (L.map Nd.xs) d.xs i).length + n.xs.length ≤ N := by
      have h1 := up_mono (L.map Nd.xs) d.xs (k := i + 1) (m := L.length) (by omega)
      rw [HUp.out, HUs.out, List.length_append, List.length_append] at h1
      omega
    have HYU := hide (callsIn_wide.1 (yieldUp_in 1 l N (by omega) FF J HY.out (upF (L.map Nd.xs) d.xs i) n.xs n.eb n.eo n.cap sb hb g w2.drew (HJs.out _ _ _ HEa.out.j ((HO2.out.mono (G := fun k => k = cb) (fun _ _ h => h.elim)).drew)) ((World.rangeAt_drew _ _ _ _).2 HE2.out.row) (by simpa using bs5) (by simpa using bk1) HFn.out.2.1 FS.out.1 FS.out.2.1 hub hnl))
    have hrw := run_whole n.eb n.eo n.xs.length n.cap HE.out.len HE.out.pos
    have hmin : ∀ (ts : Array TypeId) (t : TypeId) (V : World), (Builtin.min_ ts t #[.int .i64 0, .int .i64 (n.xs.length : Int)]).run Yba.prog V = .ok (.int .i64 0) V := by
      intro ts t V
      rw [run_min_int2, if_neg (by omega)]
    clear h25 h0 ec rs5 rk1 HO1 bs5 bk1
    go_wp2_with fail
    refine wp_region_noPanic ?_
    refine wp_region_held_drew (S := fun w' => w'.cell? ⟨n.b, 1, none⟩ = some (.slice (some ⟨n.eb, n.eo, none⟩) n.xs.length n.cap) ∧ w'.cell? ⟨cb, 5, none⟩ = some (.int .i64 0) ∧ w'.cell? ⟨cb, 0, none⟩ = some (.pointer (some ⟨sb, 0, none⟩)) ∧ w'.cell? ⟨cb, 25, none⟩ = some (.int .u64 g)) (by kernel_rfl) ⟨by simpa using bec, by simpa using b3, by simpa using b0, by simpa using b25⟩ (fun hHeld => ?_)
    refine takeYes 0 (some 66) (.pointer (some ⟨n.b, 0, none⟩)) (by kernel_rfl) (by kernel_rfl) (by kernel_rfl) (by kernel_rfl) (fun _ _ _ h => h) (by kernel_rfl) ?_ hHeld ?_
    · intro w' hSw; obtain ⟨y0, y1, y2, y3⟩ := hSw; simp only [List.getElem?_toArray, List.getElem?_cons_zero, List.getElem?_cons_succ, Option.map_some]; go_simp
    simp only [Act.put, List.setIfInBounds_toArray, List.set_cons_zero, List.set_cons_succ]
    refine takeYes 1 (some 67) (.pointer (some ⟨n.b, 0, none⟩)) (by kernel_rfl) (by kernel_rfl) (by kernel_rfl) (by kernel_rfl) (fun _ _ _ h => h) (by kernel_rfl) ?_ hHeld ?_
    · intro w' hSw; obtain ⟨y0, y1, y2, y3⟩ := hSw; simp only [List.getElem?_toArray, List.getElem?_cons_zero, List.getElem?_cons_succ, Option.map_some]; go_simp
    simp only [Act.put, List.setIfInBounds_toArray, List.set_cons_zero, List.set_cons_succ]
    refine takeYes 2 (some 68) (.pointer (some ⟨n.b, 1, none⟩)) (by kernel_rfl) (by kernel_rfl) (by kernel_rfl) (by kernel_rfl) (fun _ _ _ h => h) (by kernel_rfl) ?_ hHeld ?_
    · intro w' hSw; obtain ⟨y0, y1, y2, y3⟩ := hSw; simp only [List.getElem?_toArray, List.getElem?_cons_zero, List.getElem?_cons_succ, Option.map_some]; go_simp
    simp only [Act.put, List.setIfInBounds_toArray, List.set_cons_zero, List.set_cons_succ]
    refine takeYes 3 (some 69) (.slice (some ⟨n.eb, n.eo, none⟩) n.xs.length n.cap) (by kernel_rfl) (by kernel_rfl) (by kernel_rfl) (by kernel_rfl) (fun _ _ _ h => h) (by kernel_rfl) ?_ hHeld ?_
    · intro w' hSw; obtain ⟨y0, y1, y2, y3⟩ := hSw; simp only [List.getElem?_toArray, List.getElem?_cons_zero, List.getElem?_cons_succ, Option.map_some]; go_simp
    simp only [Act.put, List.setIfInBounds_toArray, List.set_cons_zero, List.set_cons_succ]
    refine takeYes 4 (some 70) (.pointer (some ⟨cb, 4, none⟩)) (by kernel_rfl) (by kernel_rfl) (by kernel_rfl) (by kernel_rfl) (fun _ _ _ h => h) (by kernel_rfl) ?_ hHeld ?_
    · intro w' hSw; obtain ⟨y0, y1, y2, y3⟩ := hSw; simp only [List.getElem?_toArray, List.getElem?_cons_zero, List.getElem?_cons_succ, Option.map_some]; go_simp
    simp only [Act.put, List.setIfInBounds_toArray, List.set_cons_zero, List.set_cons_succ]
    refine takeYes 5 (some 71) (.pointer (some ⟨cb, 4, none⟩)) (by kernel_rfl) (by kernel_rfl) (by kernel_rfl) (by kernel_rfl) (fun _ _ _ h => h) (by kernel_rfl) ?_ hHeld ?_
    · intro w' hSw; obtain ⟨y0, y1, y2, y3⟩ := hSw; simp only [List.getElem?_toArray, List.getElem?_cons_zero, List.getElem?_cons_succ, Option.map_some]; go_simp
    simp only [Act.put, List.setIfInBounds_toArray, List.set_cons_zero, List.set_cons_succ]
    refine takeYes 6 (some 72) (.pointer (some ⟨cb, 5, none⟩)) (by kernel_rfl) (by kernel_rfl) (by kernel_rfl) (by kernel_rfl) (fun _ _ _ h => h) (by kernel_rfl) ?_ hHeld ?_
    · intro w' hSw; obtain ⟨y0, y1, y2, y3⟩ := hSw; simp only [List.getElem?_toArray, List.getElem?_cons_zero, List.getElem?_cons_succ, Option.map_some]; go_simp
    simp only [Act.put, List.setIfInBounds_toArray, List.set_cons_zero, List.set_cons_succ]
    refine takeYes 7 (some 73) (.int .i64 0) (by kernel_rfl) (by kernel_rfl) (by kernel_rfl) (by kernel_rfl) (fun _ _ _ h => h) (by kernel_rfl) ?_ hHeld ?_
    · intro w' hSw; obtain ⟨y0, y1, y2, y3⟩ := hSw; simp only [List.getElem?_toArray, List.getElem?_cons_zero, List.getElem?_cons_succ, Option.map_some]; go_simp
    simp only [Act.put, List.setIfInBounds_toArray, List.set_cons_zero, List.set_cons_succ]
    refine takeYes 8 (some 74) (.int .i64 (n.xs.length : Int)) (by kernel_rfl) (by kernel_rfl) (by kernel_rfl) (by kernel_rfl) (fun _ _ _ h => h) (by kernel_rfl) ?_ hHeld ?_
    · intro w' hSw; obtain ⟨y0, y1, y2, y3⟩ := hSw; simp only [List.getElem?_toArray, List.getElem?_cons_zero, List.getElem?_cons_succ, Option.map_some]; go_simp
    simp only [Act.put, List.setIfInBounds_toArray, List.set_cons_zero, List.set_cons_succ]
    refine takeYes 9 (some 75) (.int .i64 0) (by kernel_rfl) (by kernel_rfl) (by kernel_rfl) (by kernel_rfl) (fun _ _ _ h => h) (by kernel_rfl) ?_ hHeld ?_
    · intro w' hSw; obtain ⟨y0, y1, y2, y3⟩ := hSw; simp only [List.getElem?_toArray, List.getElem?_cons_zero, List.getElem?_cons_succ, Option.map_some]; go_simp
    simp only [Act.put, List.setIfInBounds_toArray, List.set_cons_zero, List.set_cons_succ]
    refine takeYes 10 (some 76) (.int .i64 (n.xs.length : Int)) (by kernel_rfl) (by kernel_rfl) (by kernel_rfl) (by kernel_rfl) (fun _ _ _ h => h) (by kernel_rfl) ?_ hHeld ?_
    · intro w' hSw; obtain ⟨y0, y1, y2, y3⟩ := hSw; simp only [List.getElem?_toArray, List.getElem?_cons_zero, List.getElem?_cons_succ, Option.map_some]; go_simp
    simp only [Act.put, List.setIfInBounds_toArray, List.set_cons_zero, List.set_cons_succ]
    refine takeYes 11 (some 77) (.slice (some ⟨n.eb, n.eo, none⟩) n.xs.length n.cap) (by kernel_rfl) (by kernel_rfl) (by kernel_rfl) (by kernel_rfl) (fun _ _ _ h => h) (by kernel_rfl) ?_ hHeld ?_
    · intro w' hSw; obtain ⟨y0, y1, y2, y3⟩ := hSw; simp only [List.getElem?_toArray, List.getElem?_cons_zero, List.getElem?_cons_succ, Option.map_some]; go_simp
    simp only [Act.put, List.setIfInBounds_toArray, List.set_cons_zero, List.set_cons_succ]
    refine takeYes 12 (some 78) (.func (.yield l) #[] #[]) (by kernel_rfl) (by kernel_rfl) (by kernel_rfl) (by kernel_rfl) (fun _ _ _ h => h) (by kernel_rfl) ?_ hHeld ?_
    · intro w' hSw; obtain ⟨y0, y1, y2, y3⟩ := hSw; simp only [List.getElem?_toArray, List.getElem?_cons_zero, List.getElem?_cons_succ, Option.map_some]; go_simp
    simp only [Act.put, List.setIfInBounds_toArray, List.set_cons_zero, List.set_cons_succ]
    refine takeYes 13 (some 79) (.pointer (some ⟨cb, 0, none⟩)) (by kernel_rfl) (by kernel_rfl) (by kernel_rfl) (by kernel_rfl) (fun _ _ _ h => h) (by kernel_rfl) ?_ hHeld ?_
    · intro w' hSw; obtain ⟨y0, y1, y2, y3⟩ := hSw; simp only [List.getElem?_toArray, List.getElem?_cons_zero, List.getElem?_cons_succ, Option.map_some]; go_simp
    simp only [Act.put, List.setIfInBounds_toArray, List.set_cons_zero, List.set_cons_succ]
    refine takeYes 14 (some 80) (.pointer (some ⟨cb, 0, none⟩)) (by kernel_rfl) (by kernel_rfl) (by kernel_rfl) (by kernel_rfl) (fun _ _ _ h => h) (by kernel_rfl) ?_ hHeld ?_
    · intro w' hSw; obtain ⟨y0, y1, y2, y3⟩ := hSw; simp only [List.getElem?_toArray, List.getElem?_cons_zero, List.getElem?_cons_succ, Option.map_some]; go_simp
    simp only [Act.put, List.setIfInBounds_toArray, List.set_cons_zero, List.set_cons_succ]
    refine takeYes 15 (some 81) (.pointer (some ⟨cb, 0, none⟩)) (by kernel_rfl) (by kernel_rfl) (by kernel_rfl) (by kernel_rfl) (fun _ _ _ h => h) (by kernel_rfl) ?_ hHeld ?_
    · intro w' hSw; obtain ⟨y0, y1, y2, y3⟩ := hSw; simp only [List.getElem?_toArray, List.getElem?_cons_zero, List.getElem?_cons_succ, Option.map_some]; go_simp
    simp only [Act.put, List.setIfInBounds_toArray, List.set_cons_zero, List.set_cons_succ]
    refine takeYes 16 (some 82) (.pointer (some ⟨sb, 0, none⟩)) (by kernel_rfl) (by kernel_rfl) (by kernel_rfl) (by kernel_rfl) (fun _ _ _ h => h) (by kernel_rfl) ?_ hHeld ?_
    · intro w' hSw; obtain ⟨y0, y1, y2, y3⟩ := hSw; simp only [List.getElem?_toArray, List.getElem?_cons_zero, List.getElem?_cons_succ, Option.map_some]; go_simp
    simp only [Act.put, List.setIfInBounds_toArray, List.set_cons_zero, List.set_cons_succ]
    refine takeYes 17 (some 83) (.pointer (some ⟨cb, 0, none⟩)) (by kernel_rfl) (by kernel_rfl) (by kernel_rfl) (by kernel_rfl) (fun _ _ _ h => h) (by kernel_rfl) ?_ hHeld ?_
    · intro w' hSw; obtain ⟨y0, y1, y2, y3⟩ := hSw; simp only [List.getElem?_toArray, List.getElem?_cons_zero, List.getElem?_cons_succ, Option.map_some]; go_simp
    simp only [Act.put, List.setIfInBounds_toArray, List.set_cons_zero, List.set_cons_succ]
    refine takeYes 18 (some 84) (.pointer (some ⟨cb, 0, none⟩)) (by kernel_rfl) (by kernel_rfl) (by kernel_rfl) (by kernel_rfl) (fun _ _ _ h => h) (by kernel_rfl) ?_ hHeld ?_
    · intro w' hSw; obtain ⟨y0, y1, y2, y3⟩ := hSw; simp only [List.getElem?_toArray, List.getElem?_cons_zero, List.getElem?_cons_succ, Option.map_some]; go_simp
    simp only [Act.put, List.setIfInBounds_toArray, List.set_cons_zero, List.set_cons_succ]
    refine takeYes 19 (some 85) (.pointer (some ⟨cb, 25, none⟩)) (by kernel_rfl) (by kernel_rfl) (by kernel_rfl) (by kernel_rfl) (fun _ _ _ h => h) (by kernel_rfl) ?_ hHeld ?_
    · intro w' hSw; obtain ⟨y0, y1, y2, y3⟩ := hSw; simp only [List.getElem?_toArray, List.getElem?_cons_zero, List.getElem?_cons_succ, Option.map_some]; go_simp
    simp only [Act.put, List.setIfInBounds_toArray, List.set_cons_zero, List.set_cons_succ]
    refine takeYes 20 (some 86) (.int .u64 g) (by kernel_rfl) (by kernel_rfl) (by kernel_rfl) (by kernel_rfl) (fun _ _ _ h => h) (by kernel_rfl) ?_ hHeld ?_
    · intro w' hSw; obtain ⟨y0, y1, y2, y3⟩ := hSw; simp only [List.getElem?_toArray, List.getElem?_cons_zero, List.getElem?_cons_succ, Option.map_some]; go_simp
    simp only [Act.put, List.setIfInBounds_toArray, List.set_cons_zero, List.set_cons_succ]
    refine wpAnyH_ready (rs := [21]) (by kernel_rfl) (by simp) ?_
    refine AllReadyH.cons rfl (fun K hK => ?_) AllReadyH.nil
    have HK := hide hK
    clear hK
    go_simp
    clear hHeld
    refine HYU.out.mono ?_
    rintro r w3 ⟨rfl, hJ3, hO3⟩
    have HJ3 := hide hJ3
    have HO3 := hide hO3
    clear hJ3 hO3 HYU
    refine HK.out _ _ ⟨HO3.out.cell (by simpa using bec) FS.out.2.2.2, HO3.out.cell (by simpa using b3) FS.out.2.2.1, HO3.out.cell (by simpa using b0) FS.out.2.2.1, HO3.out.cell (by simpa using b25) FS.out.2.2.1⟩ (fun hHeld => ?_)
    clear HK K
    refine takeYes 22 (some 65) (.tuple #[.int .i64 0, .bool false, .bool true]) (by kernel_rfl) (by kernel_rfl) (by kernel_rfl) (by kernel_rfl) (fun _ _ _ h => h) (by kernel_rfl) ?_ hHeld ?_
    · intro w' hSw; obtain ⟨y0, y1, y2, y3⟩ := hSw; simp only [List.getElem?_toArray, List.getElem?_cons_zero, List.getElem?_cons_succ, Option.map_some]; go_simp
    simp only [Act.put, List.setIfInBounds_toArray, List.set_cons_zero, List.set_cons_succ]
    refine takeYes 23 (some 88) (.int .i64 0) (by kernel_rfl) (by kernel_rfl) (by kernel_rfl) (by kernel_rfl) (fun _ _ _ h => h) (by kernel_rfl) ?_ hHeld ?_
    · intro w' hSw; obtain ⟨y0, y1, y2, y3⟩ := hSw; simp only [List.getElem?_toArray, List.getElem?_cons_zero, List.getElem?_cons_succ, Option.map_some]; go_simp
    simp only [Act.put, List.setIfInBounds_toArray, List.set_cons_zero, List.set_cons_succ]
    refine takeYes 24 (some 89) (.bool false) (by kernel_rfl) (by kernel_rfl) (by kernel_rfl) (by kernel_rfl) (fun _ _ _ h => h) (by kernel_rfl) ?_ hHeld ?_
    · intro w' hSw; obtain ⟨y0, y1, y2, y3⟩ := hSw; simp only [List.getElem?_toArray, List.getElem?_cons_zero, List.getElem?_cons_succ, Option.map_some]; go_simp
    simp only [Act.put, List.setIfInBounds_toArray, List.set_cons_zero, List.set_cons_succ]
    refine takeYes 25 (some 90) (.bool true) (by kernel_rfl) (by kernel_rfl) (by kernel_rfl) (by kernel_rfl) (fun _ _ _ h => h) (by kernel_rfl) ?_ hHeld ?_
    · intro w' hSw; obtain ⟨y0, y1, y2, y3⟩ := hSw; simp only [List.getElem?_toArray, List.getElem?_cons_zero, List.getElem?_cons_succ, Option.map_some]; go_simp
    simp only [Act.put, List.setIfInBounds_toArray, List.set_cons_zero, List.set_cons_succ]
    refine takeYes 26 (some 7) (.int .i64 0) (by kernel_rfl) (by kernel_rfl) (by kernel_rfl) (by kernel_rfl) (fun _ _ _ h => h) (by kernel_rfl) ?_ hHeld ?_
    · intro w' hSw; obtain ⟨y0, y1, y2, y3⟩ := hSw; simp only [List.getElem?_toArray, List.getElem?_cons_zero, List.getElem?_cons_succ, Option.map_some]; go_simp
    simp only [Act.put, List.setIfInBounds_toArray, List.set_cons_zero, List.set_cons_succ]
    refine takeYes 27 (some 8) (.bool false) (by kernel_rfl) (by kernel_rfl) (by kernel_rfl) (by kernel_rfl) (fun _ _ _ h => h) (by kernel_rfl) ?_ hHeld ?_
    · intro w' hSw; obtain ⟨y0, y1, y2, y3⟩ := hSw; simp only [List.getElem?_toArray, List.getElem?_cons_zero, List.getElem?_cons_succ, Option.map_some]; go_simp
    simp only [Act.put, List.setIfInBounds_toArray, List.set_cons_zero, List.set_cons_succ]
    refine takeYes 28 (some 9) (.bool true) (by kernel_rfl) (by kernel_rfl) (by kernel_rfl) (by kernel_rfl) (fun _ _ _ h => h) (by kernel_rfl) ?_ hHeld ?_
    · intro w' hSw; obtain ⟨y0, y1, y2, y3⟩ := hSw; simp only [List.getElem?_toArray, List.getElem?_cons_zero, List.getElem?_cons_succ, Option.map_some]; go_simp
    simp only [Act.put, List.setIfInBounds_toArray, List.set_cons_zero, List.set_cons_succ]
    refine wpAnyH_done (by kernel_rfl) ?_ _
    refine NoPanic.normal ?_
    clear hHeld
    have HO23 : Hid (Only FF w2 w3) := ((Only.refl FF w2).drew).trans HO3.out (fun k h => .inl h)
    have HC3 := hide (HC2.out.kept HO23.out FS.out.2.2.1)
    have r3 := HO23.out.cell b3 FS.out.2.2.1
    have rce := HO23.out.cell bec FS.out.2.2.2
    obtain ⟨-, -, rf3⟩ := HC3.out.cell 5 (by omega)
    have hpn : n.b ≠ cb := HFn.out.2.2.1
    have HC4 : Hid (Cur (w3.setCell ⟨cb, 5, none⟩ (.int .i64 (n.xs.length : Int))) cb sb) := HC3.out.set 5 _ (by omega) (by omega) (by omega) (by omega)
    have HO4 : Hid (Only (fun k => k = cb) w3 (w3.setCell ⟨cb, 5, none⟩ (.int .i64 (n.xs.length : Int)))) := (Only.refl (fun k => k = cb) w3).setCell (.inl rfl) _
    have rce4 := HO4.out.cell rce hpn
    have HF0 : Hid (Fram (w3.setCell ⟨cb, 5, none⟩ (.int .i64 (n.xs.length : Int))) cb 0 d.b i) := ⟨(cell_set_other (by omega)).trans (HO23.out.cell (HO2.out.cell G0.out (fun h => h)) FS.out.2.2.1), (cell_set_other (by omega)).trans (HO23.out.cell (HO2.out.cell G1.out (fun h => h)) FS.out.2.2.1)⟩
    have HF1 : Hid (Fram (w3.setCell ⟨cb, 5, none⟩ (.int .i64 (n.xs.length : Int))) cb 1 n.b n.xs.length) := ⟨(cell_set_other (by omega)).trans (HO23.out.cell b2 FS.out.2.2.1), World.cell?_setCell_same _ _ _ r3⟩
    have HD4 : Hid ((w3.setCell ⟨cb, 5, none⟩ (.int .i64 (n.xs.length : Int))).cell? ⟨cb, 24, none⟩ = some (.int .i64 2)) := (cell_set_other (by omega)).trans (HO23.out.cell (HO2.out.cell H24.out (fun h => h)) FS.out.2.2.1)
    have HG4 : Hid ((w3.setCell ⟨cb, 5, none⟩ (.int .i64 (n.xs.length : Int))).cell? ⟨cb, 25, none⟩ = some (.int .u64 g)) := (cell_set_other (by omega)).trans (HO23.out.cell b25 FS.out.2.2.1)
    have HOr4 : Hid (Only (fun k => FF k ∨ k = cb) wr (w3.setCell ⟨cb, 5, none⟩ (.int .i64 (n.xs.length : Int)))) := ((HO2.out.mono (G := fun k => FF k ∨ k = cb) (fun _ _ h => h.elim)).trans HO23.out (fun k h => .inl (.inl h))).trans HO4.out (fun k h => .inl (.inr h))
    have HT4 := hide (HTr.out.kept HOr4.out HFo.out)
    have HJ4 := hide (HJs.out _ _ _ HJ3.out HO4.out)
    clear bec b3 b2 b0 bd be b25 bk hrw hmin
    by_cases hi : i < d.xs.length
    · obtain ⟨q, hq⟩ : ∃ q, L[i + 1]? = some q := ⟨_, List.getElem?_eq_getElem (by have := HLen.out; omega)⟩
      have hqm : q ∈ L := List.mem_of_getElem? hq
      have ck4 : (w3.setCell ⟨cb, 5, none⟩ (.int .i64 (n.xs.length : Int))).cell? ⟨kb, i + 1, none⟩ = some (.pointer (some ⟨q.b, 0, none⟩)) := by
        have := HT4.out.K.row (i + 1) (ptr q.b) (by simp [ptrs, hq])
        rw [Nat.zero_add] at this; exact this
      have hqc : cb ≠ q.b := fun h => (HFo.out q.b (.inr (.inr (.inr ⟨q, hqm, .inl rfl⟩)))) (.inr h.symm)
      have HST := hide (step_mid cb sb d.b i q.b _ HC4.out (ascend_mid cb sb d n i kb q.b _ HC4.out HF0.out HF1.out HD4.out rce4 HT4.out.E.cell hi (by omega) HT4.out.K.cell ck4 (HT4.out.leaf q hqm).2 (fun h => HFn.out.2.2.2.1 h.symm) (fun h => HFn.out.2.2.2.2.1 h.symm) hqc))
      have hx4 := range_ints HT4.out.E.row hi
      have HX4 := hide hx4
      have HDE : Hid (d.eb ≠ cb) := fun h => (HFo.out d.eb (.inr (.inl rfl))) (.inr h)
      have HDB : Hid (d.b ≠ cb) := HFn.out.2.2.2.1
      have HDC := hide HT4.out.E.cell
      have HQ := hide hq
      have z1 : (i : Int) < (d.xs.length : Int) := by omega
      rw [if_pos hi] at HUs
      generalize d.xs.getD i 0 = s at HX4 hx4 HUs
      clear hx4 hq ck4 rce4
      go_upto_region 23 with (first
        | (go_at_call 85; refine HST.out.mono ?_; rintro r w6 ⟨rfl, hM⟩; have HM := hide hM; have c6 := hM.only.cell HDC.out HDB.out; have x6 := hM.only.cell HX4.out HDE.out; obtain ⟨u26, hu26, hf26⟩ := hM.cur.cell 26 (by omega); clear hM HST)
        | fail)
      have HM7 : Hid (Only (fun k => k = cb) w6 (w6.setCell ⟨cb, 26, none⟩ (.int .i64 s))) := (Only.refl (fun k => k = cb) w6).setCell (.inl rfl) _
      have HC7 : Hid (Cur (w6.setCell ⟨cb, 26, none⟩ (.int .i64 s)) cb sb) := HM.out.cur.set 26 _ (by omega) (by omega) (by omega) (by omega)
      have c26 : (w6.setCell ⟨cb, 26, none⟩ (.int .i64 s)).cell? ⟨cb, 26, none⟩ = some (.int .i64 s) := World.cell?_setCell_same _ _ _ hu26
      have HR7 : Hid (Fram (w6.setCell ⟨cb, 26, none⟩ (.int .i64 s)) cb 0 d.b (i + 1) ∧ Fram (w6.setCell ⟨cb, 26, none⟩ (.int .i64 s)) cb 1 q.b 0 ∧ (w6.setCell ⟨cb, 26, none⟩ (.int .i64 s)).cell? ⟨cb, 24, none⟩ = some (.int .i64 2) ∧ (w6.setCell ⟨cb, 26, none⟩ (.int .i64 s)).cell? ⟨cb, 25, none⟩ = some (.int .u64 g)) :=
        ⟨⟨(cell_set_other (by omega)).trans HM.out.f0.1, (cell_set_other (by omega)).trans HM.out.f0.2⟩, ⟨(cell_set_other (by omega)).trans HM.out.f1.1, (cell_set_other (by omega)).trans HM.out.f1.2⟩, (cell_set_other (by omega)).trans HM.out.dp, (cell_set_other (by omega)).trans (HM.out.gen.trans HG4.out)⟩
      have HJ7 := hide (HJs.out _ _ _ (HJs.out _ _ _ HJ4.out HM.out.only) HM7.out)
      have HOr7 : Hid (Only (fun k => FF k ∨ k = cb) wr (w6.setCell ⟨cb, 26, none⟩ (.int .i64 s))) := (HOr4.out.trans HM.out.only (fun k h => .inl (.inr h))).trans HM7.out (fun k h => .inl (.inr h))
      generalize (w6.setCell ⟨cb, 26, none⟩ (.int .i64 s)) = w7 at HM7 HC7 c26 HR7 HJ7 HOr7 ⊢
      clear hu26 hf26 c6 x6
      obtain ⟨fn, tmps, assign, body, hyy, hRd⟩ := HY.out (upF (L.map Nd.xs) d.xs i ++ n.xs) s w7 HJ7.out (by
        have h1 := up_mono (L.map Nd.xs) d.xs (k := i + 1) (m := L.length) (by omega)
        rw [HUp.out, HUs.out] at h1
        simp only [List.length_append, List.length_singleton] at h1 ⊢
        omega) 0
      refine (wpIn_wide (n := 1)).1 ?_
      gi_wp2
      refine hRd.mono ?_
      rintro e w8 ⟨rfl, hJ8, hO8⟩
      have HJ8 := hide hJ8
      have HO8 := hide hO8
      clear hJ8 hO8 hyy hRd c26
      gi_wp2
      go_wp2
      have HC8 := hide (HC7.out.kept HO8.out F4.out)
      have q3 := HO8.out.cell HR7.out.1.2 F4.out
      refine ⟨⟨i + 1, q, ⟨HQ.out, HC8.out, HO8.out.cell HR7.out.2.2.2 F4.out, HO8.out.cell HR7.out.2.2.1 F4.out, ⟨HO8.out.cell HR7.out.1.1 F4.out, q3⟩, ⟨HO8.out.cell HR7.out.2.1.1 F4.out, HO8.out.cell HR7.out.2.1.2 F4.out⟩, ?_, (HEa.out.only.trans HOr7.out (fun k h => .inl h)).trans HO8.out (fun k h => .inl (.inl h))⟩⟩, ?_⟩
      · rw [HUs.out, ← List.append_assoc]; exact HJ8.out
      · rw [idx_eq (i := i + 1) q3, idx_eq G1.out]; omega
    · have hie : i = d.xs.length := by omega
      subst hie
      have HST := hide (step_end cb sb _ HC4.out (ascend_end2 cb sb d n _ HC4.out HF0.out HF1.out HD4.out rce4 HT4.out.E.cell (fun h => HFn.out.2.2.2.1 h.symm)))
      rw [if_neg (by omega), List.append_nil] at HUs
      go_wp2_with (first
        | (go_at_call 85; refine HST.out.mono ?_; rintro r w6 ⟨rfl, hO6⟩; have HO6 := hide hO6; clear hO6 HST)
        | fail)
      (try simp only [Exit.inBlock, Exit.then])
      refine bodyPost_ret (results_none rfl _ _ _) rfl ?_
      refine ⟨⟨_, rfl⟩, ?_, (HEa.out.only.trans HOr4.out (fun k h => .inl h)).trans HO6.out (fun k h => .inl (.inr h))⟩
      have hu := HUp.out
      rw [HLen.out, HUs.out] at hu
      rw [← hu]
      exact HJs.out _ _ _ HJ4.out HO6.out
end Go.Proofs.Ybulkcgwo.T
