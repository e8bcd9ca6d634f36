import Derived.Test.YbulkcgwoTLast
namespace Go.Proofs.Ybulkcgwo.T
open Go.RowKit
set_option linter.unusedVariables false
set_option linter.unusedSimpArgs false

/-- What remove leaves. -/
structure RemW (t : Tree) (x : Int) (pb : Nat) (w w' : World) (t' : Tree) : Prop where
  cut : ∃ A B, flatT t = A ++ x :: B ∧ flatT t' = A ++ B
  ok : TOK w' t'
  foot : ∀ k, footT t' k → footT t k ∨ w.heap.size ≤ k
  only : Only (fun k => footT t k ∨ k = pb) w w'

theorem cut_at (xs : List Int) {i : Nat} (h : i < xs.length) : ∃ A B, xs = A ++ xs.getD i 0 :: B ∧ del i xs = A ++ B := ⟨_, _, list_at xs h, rfl⟩

set_option maxHeartbeats 2000000 in
set_option maxRecDepth 100000 in
theorem remove_one (pb : Nat) (d : Nd) (i : Nat) (w : World) (hQ : Path1 w pb d.b i) (h22 : w.cell? ⟨pb, 22, none⟩ = some (.int .i64 1)) (hT : TOK w (some (.inl d))) (hi : i < d.xs.length) (hp1 : pb ≠ d.b) (hp2 : pb ≠ d.eb) :
    Calls Yba.prog 40 #[.pointer (some ⟨pb, 0, none⟩)] w fun r w' => ∃ t', r = .returned (.pointer (rootT t')) ∧ RemW (some (.inl d)) (d.xs.getD i 0) pb w w' t' := by
  obtain ⟨hE, h0, hl, hne⟩ := hT
  obtain ⟨qn, qi⟩ := hQ
  have HE := hide hE
  have HL := hide hl
  have hdl := hE.lt
  clear hE
  have hpl : pb < w.heap.size := World.block_lt_of_cell? w ⟨pb, 22, none⟩ h22
  have hw0 : IntKind.i64.wrap 0 = 0 := by kernel_rfl
  go_enter Yba.func40, Yba.ntmps40
  go_wp2
  go_region
  have hO1 : Hid (Only (fun _ => False) w (w.alloc (.cells #[.pointer (some ⟨d.b, 0, none⟩), .int .i64 i] 77)).drew) := ((Only.refl _ _).alloc _).drew
  have g0 : (w.alloc (.cells #[.pointer (some ⟨d.b, 0, none⟩), .int .i64 i] 77)).drew.cell? ⟨w.heap.size, 0, none⟩ = some (.pointer (some ⟨d.b, 0, none⟩)) := by simp
  have g1 : (w.alloc (.cells #[.pointer (some ⟨d.b, 0, none⟩), .int .i64 i] 77)).drew.cell? ⟨w.heap.size, 1, none⟩ = some (.int .i64 i) := by simp
  generalize (w.alloc (.cells #[.pointer (some ⟨d.b, 0, none⟩), .int .i64 i] 77)).drew = w1 at hO1 g0 g1 ⊢
  generalize w.heap.size = fb at g0 g1 ⊢
  go_wp2
  go_region
  have hO2 : Hid (Only (fun _ => False) w w1.drew) := hO1.out.drew
  generalize w1.drew = w2 at hO2 ⊢
  have qn2 := hO2.out.cell qn (fun h => h)
  have q22 := hO2.out.cell h22 (fun h => h)
  have h02 := hO2.out.cell h0 (fun h => h)
  have HRM := hide (removeAt_leaf d i w2 (HE.out.kept hO2.out (fun h => h) (fun h => h)) h02 hi (by omega))
  clear qn qi h22 g0 g1 h0
  have HK : Hid (¬ (pb = d.b ∨ pb = d.eb)) := fun h => h.elim hp1 hp2
  go_wp2_with (first
    | (go_at_call 57; refine HRM.out.mono ?_; rintro e w3 ⟨rfl, hE3, hO3, h03⟩; have qn3 := hO3.cell qn2 HK.out; have q23 := hO3.cell q22 HK.out; have e3 := hE3.cell; rw [del_length hi] at e3; have HE3 := hide hE3; have HO3 := hide hO3; have H03 := hide h03; clear hE3 hO3)
    | fail)
  clear HRM qn2 q22 h02
  have HO : Hid (Only (fun k => (k = d.b ∨ k = d.eb) ∨ k = pb) w w3) := (hO2.out.mono (G := fun k => (k = d.b ∨ k = d.eb) ∨ k = pb) (fun _ _ h => h.elim)).trans HO3.out (fun k h => .inl (.inl h))
  refine wp_loop_rounds 1 ?_
  rw [rounds_succ]
  have hdl1 : (del i d.xs).length = d.xs.length - 1 := del_length hi
  by_cases h1 : d.xs.length = 1
  · have z0 : d.xs.length - 1 = 0 := by omega
    rw [z0] at e3 hdl1
    have hnil := List.eq_nil_of_length_eq_zero hdl1
    go_wp2
    go_ret
    refine ⟨none, rfl, ⟨?_, trivial, fun k h => False.elim h, HO.out⟩⟩
    obtain ⟨A, B, c1, c2⟩ := cut_at d.xs hi
    exact ⟨A, B, c1, by rw [← c2, hnil]; rfl⟩
  · have z0 : ¬ ((d.xs.length - 1 : Nat) : Int) = 0 := by omega
    go_wp2
    go_ret
    refine ⟨some (.inl ⟨d.b, d.eb, d.eo, d.cap, del i d.xs⟩), rfl, ⟨cut_at d.xs hi, ⟨HE3.out, H03.out, ?_, ?_⟩, fun k h => .inl h, HO.out⟩⟩
    · have := HL.out; simp only; omega
    · intro h; simp only at h; rw [h] at hdl1; simp at hdl1; omega
end Go.Proofs.Ybulkcgwo.T
