import Derived.Test.YbulkcgwoTRange
import Derived.Test.YbulkcgwoTAdd
namespace Go.Proofs.Ybulkcgwo.T
open Go.RowKit Go.Shelf
set_option linter.unusedVariables false
set_option linter.unusedSimpArgs false
attribute [local go_sem] Oper.semAt_some

/-- Between two rounds: the box holds a slice that owns what has come. -/
structure Ap (w0 : World) (Bs base : Nat) (pre : List Int) (W : World) : Prop where
  box : ∃ v, Boxed W Bs 23 v ∧ W.ownsRow base 3 1 v pre.length (ints pre)
  only : Only (fun _ => False) w0 W

theorem row_keep {F : Nat → Prop} {V V' : World} {base : Nat} {v : Value} {k : Nat} {xs : List Value} (h : V.ownsRow base 3 1 v k xs) (hO : Only F V V') (hF : ∀ j, base ≤ j → ¬ F j) : V'.ownsRow base 3 1 v k xs := by
  refine ⟨h.1, ?_⟩
  rcases h.2 with h2 | ⟨g, cap, cur, hv, hb, hg, h3⟩
  · exact .inl h2
  · exact .inr ⟨g, cap, cur, hv, hb, only_at hO hg (hF g hb), h3⟩

theorem ap_keep {w0 V V' : World} {Bs base : Nat} {pre : List Int} {F : Nat → Prop} (h : Ap w0 Bs base pre V) (hO : Only F V V') (h1 : ¬ F Bs) (h2 : ∀ j, base ≤ j → ¬ F j) (h3 : ∀ k, F k → w0.heap.size ≤ k) : Ap w0 Bs base pre V' := by
  obtain ⟨v, hv, hr⟩ := h.box
  exact ⟨⟨v, only_at hO hv h1, row_keep hr hO h2⟩, h.only.trans hO (fun k hk => .inr (h3 k hk))⟩

theorem ap_step {w0 W w1 : World} {Bs base : Nat} {pre : List Int} {x : Int} {v v' : Value} (hv : Boxed W Bs 23 v) (hrow : W.ownsRow base 3 1 v pre.length (ints pre)) (hO : Only (fun _ => False) w0 W) (hBs : w0.heap.size ≤ Bs) (hb : w0.heap.size ≤ base)
    (hown' : w1.ownsRow base 3 1 v' (pre.length + 1) (ints pre ++ [.int .i64 x])) (hgrow : (W.alloc (.cells #[.int .i64 x] 3)).grownBy w1 v.ownBlock) :
    Boxed w1 Bs 23 v ∧ Ap w0 Bs base (pre ++ [x]) (w1.setCell ⟨Bs, 0, none⟩ v') ∧ Only (fun k => k = Bs ∨ base ≤ k) W (w1.setCell ⟨Bs, 0, none⟩ v') := by
  have hv1 : Boxed w1 Bs 23 v := (hv.alloc _).kept hgrow (hv.not_row (by decide) hrow)
  have hO1 : Only (fun k => k = Bs ∨ base ≤ k) W w1 := ((Only.refl (fun k => k = Bs ∨ base ≤ k) W).alloc _).grown hgrow (fun k hk => by
    rcases hrow.2 with ⟨rfl, _⟩ | ⟨g, cap, cur, rfl, hbg, _⟩
    · simp [Value.ownBlock] at hk
    · obtain rfl : g = k := by simpa [Value.ownBlock] using hk
      exact .inl (.inr hbg))
  have hO2 : Only (fun k => k = Bs ∨ base ≤ k) W (w1.setCell ⟨Bs, 0, none⟩ v') := hO1.setCell (.inl (.inl rfl)) _
  refine ⟨hv1, ⟨⟨v', hv1.set v', ?_⟩, hO.trans hO2 (fun k hk => .inr (by rcases hk with e | e; omega; omega))⟩, hO2⟩
  have := hown'.kept (grownBy_setCell' w1 Bs v') (.inr (hv1.not_row (by decide) hown').symm)
  rw [List.length_append, show ints (pre ++ [x]) = ints pre ++ [.int .i64 x] by simp [ints]]
  exact this

theorem row_base {W : World} {base base' : Nat} {v : Value} {k : Nat} {xs : List Value} (h : W.ownsRow base 3 1 v k xs) (hb : base' ≤ base) : W.ownsRow base' 3 1 v k xs := by
  refine ⟨h.1, ?_⟩
  rcases h.2 with hn | ⟨g, cap, cur, hv, hbg, rest⟩
  · exact .inl hn
  · exact .inr ⟨g, cap, cur, hv, Nat.le_trans hb hbg, rest⟩

set_option maxHeartbeats 2000000 in
set_option maxRecDepth 100000 in
theorem appendSeq_any (p2 p3 sb hb : Nat) (cv sv : Value) (n g : Int) (t : Tree) (w : World) (hR : Reads w sb hb cv sv n g t) (c2 : w.cell? ⟨p2, 0, none⟩ = some (.pointer (some ⟨sb, 0, none⟩))) (c3 : w.cell? ⟨p3, 0, none⟩ = some (.int .i64 0)) :
    Calls Yba.prog 44 #[.slice none 0 0, .func (.func 69) #[] #[.pointer (some ⟨p2, 0, none⟩), .pointer (some ⟨p3, 0, none⟩)]] w fun e w' => ∃ v, e = .returned v ∧ w'.ownsRow w.heap.size 3 1 v (flatT t).length (ints (flatT t)) ∧ Only (fun _ => False) w w' := by
  obtain ⟨i0, hi, hz0, hz1, hz2⟩ := info_parts info3
  have HR := hide hR
  clear hR
  refine callsIn_wide (n := 3) |>.1 ?_
  refine callsIn_of_wp_marks Yba.func44 rfl trivial ?_ rfl
  simp only [Yba.ntmps44, List.size_toArray, List.length_cons, List.length_nil, Nat.reduceAdd, Nat.reduceSub, Array.replicate_succ, Array.replicate_zero, List.push_toArray, List.append_toArray, List.nil_append, List.cons_append]
  gi_wp2
  have hN : (flatT t).length ≤ 5000 := HR.out.small
  have hsl : sb < w.heap.size := World.block_lt_of_cell? w ⟨sb, 0, none⟩ HR.out.own.c0
  have hhl : hb < w.heap.size := World.block_lt_of_cell? w ⟨hb, 0, none⟩ HR.out.hol.c0
  have HFL : Hid (∀ k, footT t k → k < w.heap.size) := fun k hk => foot_lt HR.out.ok hk
  have hO0 : Only (fun _ => False) w (w.alloc (.cells #[Value.slice none 0 0] 23)) := (Only.refl _ _).alloc _
  have hz : (w.alloc (.cells #[Value.slice none 0 0] 23)).heap.size = w.heap.size + 1 := by simp
  have HBX : Hid (Boxed (w.alloc (.cells #[Value.slice none 0 0] 23)) w.heap.size 23 (.slice none 0 0)) := Boxed.new w 23 _
  have HR1 := hide (HR.out.kept hO0 (fun h => h) (fun h => h) (fun _ _ h => h))
  have d2 := hO0.cell c2 (fun h => h)
  have d3 := hO0.cell c3 (fun h => h)
  have HO0 := hide hO0
  have HD : Hid ((w.alloc (.cells #[Value.slice none 0 0] 23)).cell? ⟨p2, 0, none⟩ = some (.pointer (some ⟨sb, 0, none⟩)) ∧ (w.alloc (.cells #[Value.slice none 0 0] 23)).cell? ⟨p3, 0, none⟩ = some (.int .i64 0)) := ⟨d2, d3⟩
  have HZ := hide hz
  clear c2 c3 d2 d3 hO0 hz
  generalize (w.alloc (.cells #[Value.slice none 0 0] 23)) = w1 at HBX HR1 HO0 HD HZ ⊢
  obtain ⟨Bs, hBs⟩ : ∃ Bs, Bs = w.heap.size := ⟨_, rfl⟩
  rw [← hBs] at HBX ⊢
  have HBs := hide hBs
  clear hBs
  refine range_law 69 #[.pointer (some ⟨p2, 0, none⟩), .pointer (some ⟨p3, 0, none⟩)] rfl (enters_of Yba.func69 (by kernel_rfl) rfl) (flatT t).length (flatT t) Bs (by have := HBs.out; have := HZ.out; omega) rfl (Ap w Bs (w1.heap.size + 3)) ?hI ?h0 ?hseq
    (fun x => { tmps := #[.slice none 0 0, .func (.func 69) #[] #[.pointer (some ⟨p2, 0, none⟩), .pointer (some ⟨p3, 0, none⟩)], .pointer (some ⟨Bs, 0, none⟩), undef, .slice none 0 0, .int .i64 x, .func (.func 69) #[] #[.pointer (some ⟨p2, 0, none⟩), .pointer (some ⟨p3, 0, none⟩)], .int .i64 x, undef, undef, undef, undef, undef], defers := [] }) ?hassign ?hbody ?hdone
  case hI =>
    intro s V V' h hO
    have h1 := HBs.out
    have h2 := HZ.out
    exact ap_keep h hO (by omega) (fun j hj => by omega) (fun k hk => by omega)
  case h0 => exact ⟨⟨_, HBX.out, ⟨rfl, .inl ⟨rfl, rfl⟩⟩⟩, HO0.out⟩
  case hseq =>
    intro J W1 hs hO hY hJs hJ
    have h1 := HBs.out
    have h2 := HZ.out
    refine (walk1_any (w1.heap.size + 1) (flatT t).length _ J hY p2 p3 sb hb cv sv n g t W1 (by rw [hs]; exact hJs) hJ (HR1.out.kept hO (fun h => h) (fun h => h) (fun _ _ h => h)) (hO.cell HD.out.1 (fun h => h)) (hO.cell HD.out.2 (fun h => h)) (fun k hk h => by have := HFL.out k hk; omega) (by omega) (by omega) (by rw [hs]; omega) (Nat.le_refl _)).mono ?_
    rintro e W' ⟨hv, hJ', _⟩
    exact ⟨hv, hJ'⟩
  case hassign =>
    intro m l x W K hK
    gi_wp2
    exact hK
  case hbody =>
    rintro m l pre x W ⟨⟨v, hv, hrow⟩, hO⟩ hlen hsz
    have hc := hv.cell
    have hf := hv.frozen
    gi_wp2_with (first
      | (gi_at_builtin; refine wpListIn_append_own _ rfl _ _ 23 rfl (w1.heap.size + 3) 3 i0 (.int .i64 0) 1 8 Yba.underlying23 hi hz0 hz1 hz2 rfl (by decide) _ _ _ rfl (hrow.alloc _) ⟨W.heap.size, 0, none⟩ 1 1 [.int .i64 x] rfl rfl (new_one _ _ _) (one_one _) (by unfold maxLen; omega) (by omega) (by simp; omega) ?_; intro v' w3 hown' hgrow _; obtain ⟨g', cap', rfl⟩ := ownsRow_succ hown'; obtain ⟨hv1, hap, hon⟩ := ap_step hv hrow hO (by have := HBs.out; omega) (by have := HZ.out; omega) hown' hgrow; have hc1 := hv1.cell; have hf1 := hv1.frozen)
      | gi_in)
    exact hon.mono (fun k _ h => h.elim .inl (fun h => .inr (by omega)))
  case hdone =>
    rintro W ⟨⟨v, hv, hrow⟩, hO⟩ hK
    have hc := hv.cell
    gi_wp2
    refine ⟨by simp, .inl ⟨_, _, rfl, run_takeDeferred hK, ?_⟩⟩
    have h1 := HBs.out
    have h2 := HZ.out
    exact ⟨_, results_tmp rfl _ _ _, v, rfl, row_base (row_keep hrow (only_put (F := fun k => k = w1.heap.size) _ _ _ rfl) (fun j hj => by omega)) (by omega), hO.trans (only_put (F := fun k => k = w1.heap.size) _ _ _ rfl) (fun k hk => .inr (by omega))⟩
end Go.Proofs.Ybulkcgwo.T
