import Derived.Test.YbulkcgwoTAdd
namespace Go.Proofs.Ybulkcgwo.T
open Go.RowKit
set_option linter.unusedVariables false
set_option linter.unusedSimpArgs false

theorem cmpI_sign (x y : Int) : (cmpI x y < 0 ↔ x < y) ∧ (cmpI x y = 0 ↔ x = y) := by
  unfold cmpI
  split
  · exact ⟨by omega, by omega⟩
  · split <;> exact ⟨by omega, by omega⟩

/-- The order of SortedOf. -/
def ordA : Ords := ⟨fun a b => a < b, 16, #[], 31, #[], fun _ => True, fun _ => False, fun _ => False⟩
theorem ordA_good : ordA.Good where
  W := whole_lt
  enterS := fun args w => by kernel_rfl
  enterC := fun args w => by kernel_rfl
  search := fun eb eo cap xs x w hs hr hl _ _ => (searchOrdered_any eb eo cap xs x w hs hr hl).mono (by
    rintro e w' ⟨h, rfl⟩; exact ⟨h, trivial, Only.refl _ _⟩)
  cmp := fun x y w _ => (compare_any x y w).mono (by
    rintro e w' ⟨rfl, rfl⟩; exact ⟨⟨_, rfl, (cmpI_sign x y).1, (cmpI_sign x y).2⟩, trivial, Only.refl _ _⟩)
  kept := fun _ _ _ _ _ _ => trivial
  sub := fun _ h => h
  lt := fun _ _ _ h => False.elim h

/-- The order of NewSorted by cmp.Compare. -/
def ordB (cb : Nat) : Ords := ⟨fun a b => a < b, 16, #[], 50, #[.pointer (some ⟨cb, 0, none⟩)], fun w => w.cell? ⟨cb, 0, none⟩ = some (.func (.func 16) #[] #[]), fun _ => False, fun k => k = cb⟩
theorem ordB_good (cb : Nat) : (ordB cb).Good where
  W := whole_lt
  enterS := fun args w => by kernel_rfl
  enterC := fun args w => by kernel_rfl
  search := fun eb eo cap xs x w hs hr hl hi _ => (searchBy_cmp cb eb eo cap xs x w hs hr hl hi).mono (by
    rintro e w' ⟨h, n, rfl⟩; exact ⟨h, hi, (Only.refl _ _).drewN n⟩)
  cmp := fun x y w hi => (compare_any x y w).mono (by
    rintro e w' ⟨rfl, rfl⟩; exact ⟨⟨_, rfl, (cmpI_sign x y).1, (cmpI_sign x y).2⟩, hi, Only.refl _ _⟩)
  kept := fun F w w' hi hO hr => hO.cell (p := ⟨cb, 0, none⟩) hi (hr cb rfl)
  sub := fun _ h => False.elim h
  lt := fun w k hi h => by subst h; exact World.block_lt_of_cell? w _ hi

/-- The order of a comparison that counts. -/
def ordC (cb kb : Nat) : Ords := ⟨fun a b => b < a, 26, #[.pointer (some ⟨kb, 0, none⟩)], 50, #[.pointer (some ⟨cb, 0, none⟩)], fun w => w.cell? ⟨cb, 0, none⟩ = some (.func (.func 26) #[] #[.pointer (some ⟨kb, 0, none⟩)]) ∧ Cnt kb w ∧ cb ≠ kb, fun k => k = kb, fun k => k = cb ∨ k = kb⟩
theorem ordC_good (cb kb : Nat) : (ordC cb kb).Good where
  W := whole_gt
  enterS := fun args w => by kernel_rfl
  enterC := fun args w => by kernel_rfl
  search := fun eb eo cap xs x w hs hr hl hi hn => (searchBy_nocmp cb kb eb eo cap xs x w hs hr hl hi.1 hi.2.1 hi.2.2 (fun h => hn (.inr h))).mono (by
    rintro e w' ⟨h, hc, hO⟩; exact ⟨h, ⟨hO.cell hi.1 hi.2.2, hc, hi.2.2⟩, hO⟩)
  cmp := fun x y w hi => by
    obtain ⟨h1, ⟨c, h2, h3⟩, h4⟩ := hi
    refine (nocmp_any kb c x y w h2 h3).mono ?_
    rintro e w' ⟨rfl, rfl⟩
    have hO : Only (fun k => k = kb) w (w.setCell ⟨kb, 0, none⟩ (.int .i64 (wrap64 (c + 1)))) := (Only.refl (fun k => k = kb) w).setCell (p := ⟨kb, 0, none⟩) (.inl rfl) _
    refine ⟨⟨_, rfl, (cmpI_sign y x).1, (cmpI_sign y x).2.trans ⟨fun h => h.symm, fun h => h.symm⟩⟩, ⟨hO.cell h1 h4, ⟨_, Cnt.next h2 h3⟩, h4⟩, hO⟩
  kept := fun F w w' hi hO hr => by
    obtain ⟨h1, ⟨c, h2, h3⟩, h4⟩ := hi
    exact ⟨hO.cell h1 (hr cb (.inl rfl)), ⟨c, hO.cell h2 (hr kb (.inr rfl)), (hO.frozen (p := ⟨kb, 0, none⟩) (World.block_lt_of_cell? w _ h2) (hr kb (.inr rfl))).trans h3⟩, h4⟩
  sub := fun _ h => .inr h
  lt := fun w k hi h => by
    rcases h with h | h
    · subst h; exact World.block_lt_of_cell? w _ hi.1
    · subst h; obtain ⟨_, ⟨c, h2, h3⟩, _⟩ := hi; exact World.block_lt_of_cell? w _ h2

theorem searchBy_mk (n : Nat) (c : Array Value) (w : World) :
    Calls Yba.prog 34 #[.func (.func n) #[] c] w fun r w' => r = .returned (.func (.func 50) #[] #[.pointer (some ⟨w.heap.size, 0, none⟩)]) ∧ w' = w.alloc (.cells #[.func (.func n) #[] c] 30) := by
  go_enter Yba.func34, Yba.ntmps34
  go_wp2
  go_ret
  exact ⟨rfl, rfl⟩

theorem eql30' (f : Fn) (a c : Array Value) (w : World) : (binOp .eql 30 (.func f a c) .nilFunc).run Yba.prog w = .ok (.bool false) w := by kernel_rfl

theorem newSorted_mk (n : Nat) (c : Array Value) (w : World) :
    Calls Yba.prog 15 #[.func (.func n) #[] c] w fun r w' => r = .returned (.pointer (some ⟨w.heap.size + 1, 0, none⟩)) ∧ w' = ((w.alloc (.cells #[.func (.func n) #[] c] 30)).alloc (.cells #[.func (.func n) #[] c, .func (.func 50) #[] #[.pointer (some ⟨w.heap.size, 0, none⟩)], .pointer none, .int .i64 0, .int .u64 0, .pointer none] 38)) := by
  have hq := eql30'
  go_enter Yba.func15, Yba.ntmps15
  go_wp2_with (first | (go_at_call 34; refine (searchBy_mk _ _ _).mono ?_; rintro e w' ⟨rfl, rfl⟩) | fail)
  go_ret
  exact ⟨rfl, rfl⟩

/-- A set as it is made. -/
theorem made_st (o : Ords) (G : o.Good) (w w2 : World) (hO : Only (fun _ => False) w w2) (hi : o.inv w2) (hs : w2.heap.size = w.heap.size + 1) :
    St o (w2.alloc (.cells #[o.cmpV, o.searchV, .pointer none, .int .i64 0, .int .u64 0, .pointer none] 38)) (w.heap.size + 1) none none := by
  have hO2 : Only (fun _ => False) w2 (w2.alloc (.cells #[o.cmpV, o.searchV, .pointer none, .int .i64 0, .int .u64 0, .pointer none] 38)) := (Only.refl _ _).alloc _
  have hc : ∀ j, (w2.alloc (.cells #[o.cmpV, o.searchV, .pointer none, .int .i64 0, .int .u64 0, .pointer none] 38)).cell? ⟨w.heap.size + 1, j, none⟩ = (#[o.cmpV, o.searchV, .pointer none, .int .i64 0, .int .u64 0, .pointer none] : Array Value)[j]? := by
    intro j
    rw [← hs, cell_of_row _ _ _ _ _ _ (heap_alloc_new w2 _)]
  have hf : ∀ j, (w2.alloc (.cells #[o.cmpV, o.searchV, .pointer none, .int .i64 0, .int .u64 0, .pointer none] 38)).frozen? ⟨w.heap.size + 1, j, none⟩ = false := by
    intro j
    rw [← hs]; unfold World.frozen?; rw [heap_alloc_new]; simp
  refine ⟨⟨0, ⟨hc 0, hc 1, hc 2, hc 3, hc 4, hc 5, hf 2, hf 3, hf 4, hf 5⟩, fun h hh => (by cases hh)⟩, fun _ => rfl, trivial, List.Pairwise.nil, G.kept _ _ _ hi hO2 (fun _ _ h => h), fun k hk => False.elim hk, fun hr => ?_, fun h hh => (by cases hh)⟩
  have := G.lt w2 _ hi hr
  omega

theorem newB (w : World) :
    Calls Yba.prog 15 #[.func (.func 16) #[] #[]] w fun r w' => r = .returned (.pointer (some ⟨w.heap.size + 1, 0, none⟩)) ∧ St (ordB w.heap.size) w' (w.heap.size + 1) none none ∧ Only (fun _ => False) w w' := by
  refine (newSorted_mk 16 #[] w).mono ?_
  rintro r w' ⟨rfl, rfl⟩
  have hO : Only (fun _ => False) w (w.alloc (.cells #[.func (.func 16) #[] #[]] 30)) := (Only.refl _ _).alloc _
  refine ⟨rfl, made_st (ordB w.heap.size) (ordB_good _) w _ hO ?_ (by simp), hO.alloc _⟩
  show (w.alloc (.cells #[.func (.func 16) #[] #[]] 30)).cell? ⟨w.heap.size, 0, none⟩ = _
  rw [cell_of_row _ _ _ _ _ _ (heap_alloc_new w _)]; rfl

theorem newC (kb : Nat) (w : World) (hk : Cnt kb w) :
    Calls Yba.prog 15 #[.func (.func 26) #[] #[.pointer (some ⟨kb, 0, none⟩)]] w fun r w' => r = .returned (.pointer (some ⟨w.heap.size + 1, 0, none⟩)) ∧ St (ordC w.heap.size kb) w' (w.heap.size + 1) none none ∧ Only (fun _ => False) w w' := by
  refine (newSorted_mk 26 #[.pointer (some ⟨kb, 0, none⟩)] w).mono ?_
  rintro r w' ⟨rfl, rfl⟩
  have hO : Only (fun _ => False) w (w.alloc (.cells #[.func (.func 26) #[] #[.pointer (some ⟨kb, 0, none⟩)]] 30)) := (Only.refl _ _).alloc _
  obtain ⟨c, h2, h3⟩ := hk
  have hl := World.block_lt_of_cell? w _ h2
  simp only at hl
  refine ⟨rfl, made_st (ordC w.heap.size kb) (ordC_good _ _) w _ hO ⟨?_, ⟨c, hO.cell h2 (fun h => h), (hO.frozen (p := ⟨kb, 0, none⟩) hl (fun h => h)).trans h3⟩, by omega⟩ (by simp), hO.alloc _⟩
  rw [cell_of_row _ _ _ _ _ _ (heap_alloc_new w _)]; rfl
end Go.Proofs.Ybulkcgwo.T
