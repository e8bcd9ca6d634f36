import Derived.Test.YbulkcgwoCBase
namespace Go.Proofs.Ybulkcgwo
open Go.RowKit Go.Maps Go.WideShapes

theorem size_nil : Maps.size (SetD []) = 0 := rfl
theorem entries_SetD (xs : List Int) : ∃ es, SetD xs = .map es ∧ (es.map (·.1)).Nodup ∧ ∀ p ∈ es, ∃ x, p.1 = .int .i64 x ∧ x ∈ xs := by
  obtain ⟨es, he, hp⟩ := tidy_setOf (H := Unit) (.agg []) (keys xs) (keys_ok xs)
  refine ⟨es, he, ?_, ?_⟩
  · rw [List.nodup_iff_pairwise_ne, List.pairwise_map]; exact hp
  · intro p hpe
    have h1 : Maps.has (SetD xs) p.1 = (keys xs).any (fun x => x.sameKey p.1) := has_setOf _ _ _ (keys_ok xs)
    have he' : SetD xs = .map es := he
    rw [he'] at h1
    -- the key p.1 is a key literal
    have hk : ∀ (acc : List Lit) (m : DataW Unit), (∀ a ∈ acc, ∃ x, a = Lit.int .i64 x ∧ x ∈ xs) → (∃ es, m = .map es ∧ ∀ q ∈ es, ∃ x, q.1 = Lit.int .i64 x ∧ x ∈ xs) → ∃ es, acc.foldl (fun m x => m.put x (.agg [])) m = .map es ∧ ∀ q ∈ es, ∃ x, q.1 = Lit.int .i64 x ∧ x ∈ xs := by
      intro acc
      induction acc with
      | nil => intro m _ hm; exact hm
      | cons a r ih =>
        intro m ha hm
        rw [List.foldl_cons]
        refine ih _ (fun b hb => ha b (by simp [hb])) ?_
        obtain ⟨es, rfl, hes⟩ := hm
        refine ⟨_, rfl, ?_⟩
        intro q hq
        have hq' : q ∈ DataW.insert (a, DataW.agg []) (es.filter fun p => !p.1.sameKey a) := hq
        rcases List.mem_cons.1 ((insert_perm _ _).mem_iff.1 hq') with rfl | hq2
        · exact ha _ (by simp)
        · exact hes _ (List.mem_filter.1 hq2).1
    obtain ⟨es2, he2, hq⟩ := hk (keys xs) (.map []) (fun a ha => by obtain ⟨x, hx, rfl⟩ := List.mem_map.1 ha; exact ⟨x, rfl, hx⟩) ⟨[], rfl, by simp⟩
    have e3 : SetD xs = .map es2 := he2
    rw [he'] at e3
    cases e3
    exact hq p hpe

theorem size_le {xs ys : List Int} (h : allB xs ys = true) : Maps.size (SetD xs) ≤ Maps.size (SetD ys) := by
  obtain ⟨es, he, hn, hm⟩ := entries_SetD xs
  obtain ⟨fs, hf, _, _⟩ := entries_SetD ys
  rw [he, hf]
  show es.length ≤ fs.length
  have := hn.length_le_of_subset (l₂ := fs.map (·.1)) (by
    intro k hk
    obtain ⟨p, hp, rfl⟩ := List.mem_map.1 hk
    obtain ⟨x, hx, hxs⟩ := hm p hp
    have h1 := has_SetD ys x
    rw [(inB_iff ys x).2 ((allB_iff xs ys).1 h x hxs), hf] at h1
    obtain ⟨q, hq, hs⟩ := List.any_eq_true.1 h1
    exact List.mem_map.2 ⟨q, hq, by rw [WideAt.sameKey_eq hs, hx]⟩)
  simpa using this

/-- What has been met so far is in the other. -/
def Met (xs ys : List Int) (left : Lit → Bool) : Prop := ∀ x ∈ xs, left (.int .i64 x) = false → x ∈ ys
theorem Met.start (xs ys : List Int) : Met xs ys (Maps.has (SetD xs)) := by
  intro x hx hf
  rw [has_SetD, (inB_iff xs x).2 hx] at hf; cases hf
theorem Met.step {xs ys : List Int} {left : Lit → Bool} (h : Met xs ys left) {x : Int} (hx : inB ys x = true) : Met xs ys (fun z => left z && !z.sameKey (.int .i64 x)) := by
  intro y hy hf
  by_cases e : y = x
  · subst e; exact (inB_iff _ _).1 hx
  · refine h y hy ?_
    simpa [sameKey_int, e] using hf
theorem Met.done {xs ys : List Int} {left : Lit → Bool} (h : Met xs ys left) (hl : ∀ kl, left kl = false) : allB xs ys = true :=
  (allB_iff _ _).2 fun x hx => h x hx (hl _)
theorem allB_false {xs ys : List Int} {x : Int} (hx : x ∈ xs) (hy : inB ys x = false) : allB xs ys = false := by
  cases hh : allB xs ys
  · rfl
  · rw [(inB_iff ys x).2 ((allB_iff _ _).1 hh x hx)] at hy; cases hy

theorem len_any (m : Value) (ys : List Int) (w : World) (hm : IsSet w m ys) (ty : TypeId) : (Builtin.len_ #[65] ty #[m]).run Yba.prog w = .ok (.int .i64 (Maps.size (SetD ys))) w := by
  rcases hm with ⟨rfl, rfl⟩ | ⟨b, n, rfl, hown⟩
  · exact Maps.len_nil Yba.underlying65 ty
  · exact hown.len Yba.underlying65 ty

set_option maxHeartbeats 1000000 in
set_option maxRecDepth 100000 in
theorem subset_nil (t : Value) (ys : List Int) (w : World) (ht : IsSet w t ys) :
    Calls Yba.prog 29 #[.map none, t] w fun e w' => e = .returned (.bool (allB [] ys)) ∧ Below w.heap.size w w' := by
  have hl1 := fun ty => Maps.len_nil (w := w) (P := Yba.prog) (t := 65) Yba.underlying65 ty
  have hl2 := fun ty => len_any t ys w ht ty
  have hrg := run_range_nilMap (P := Yba.prog) w 65 3 68 Yba.underlying65
  have hnx : ∀ ty, (Instr.next (.pointer (some ⟨w.heap.size, 0, none⟩)) false ty).run Yba.prog (w.alloc (.mapIter none 0 #[] 0)) = _ := fun ty => run_next_nilMap _ ty 0 0 #[]
  generalize Maps.size (SetD ys) = q at hl2
  have hq : ¬ ((q : Int) < 0) := by omega
  go_enter Yba.func29, Yba.ntmps29
  go_wp2
  refine wp_loop_rounds 1 ?_
  rw [rounds_succ]
  go_wp2
  go_ret
  exact ⟨rfl, (Below.refl _ _).alloc (Nat.le_refl _) _⟩

set_option maxHeartbeats 1000000 in
set_option maxRecDepth 100000 in
theorem subset_long (s t : Value) (xs ys : List Int) (w : World) (hs : IsSet w s xs) (ht : IsSet w t ys) (hlen : Maps.size (SetD ys) < Maps.size (SetD xs)) :
    Calls Yba.prog 29 #[s, t] w fun e w' => e = .returned (.bool (allB xs ys)) ∧ Below w.heap.size w w' := by
  have hl1 := fun ty => len_any s xs w hs ty
  have hl2 := fun ty => len_any t ys w ht ty
  have H : Hid (allB xs ys = false) := by
    show allB xs ys = false
    cases hh : allB xs ys
    · rfl
    · have := size_le hh; omega
  generalize Maps.size (SetD ys) = q at hl2 hlen
  generalize Maps.size (SetD xs) = r at hl1 hlen
  have hq : (q : Int) < r := by omega
  go_enter Yba.func29, Yba.ntmps29
  go_wp2
  go_ret
  exact ⟨ret_bool H.out.symm, Below.refl _ _⟩

set_option maxHeartbeats 1000000 in
set_option maxRecDepth 100000 in
theorem subset_some (b n : Nat) (t : Value) (xs ys : List Int) (w : World) (hown : w.ownsMap Yba.prog 3 (unitElem (H := Unit)) b n (SetD xs)) (ht : IsSet w t ys) (hlen : ¬ Maps.size (SetD ys) < Maps.size (SetD xs)) :
    Calls Yba.prog 29 #[.map (some b), t] w fun e w' => e = .returned (.bool (allB xs ys)) ∧ Below w.heap.size w w' := by
  have hl1 := fun ty => len_any (.map (some b)) xs w (.inr ⟨b, n, rfl, hown⟩) ty
  have hl2 := fun ty => len_any t ys w ht ty
  have hq : ¬ ((Maps.size (SetD ys) : Int) < Maps.size (SetD xs)) := by omega
  go_enter Yba.func29, Yba.ntmps29
  go_wp2_with (first
    | (at_range; refine wpList_range_own _ rfl _ 65 rfl 3 68 law3 Yba.underlying65 _ b n _ rfl hown ?_; intro w0 hrg0 hg0 hs0)
    | go_in)
  clear hl1 hl2 hq hlen
  go_loopw [13] (fun _ wr => ∃ (left : Lit → Bool) (cnt : Nat), wr.ranges Yba.prog 3 (unitElem (H := Unit)) b w.heap.size n (SetD xs) left cnt ∧ Met xs ys left ∧ Below w.heap.size w wr)
    (fun _ wr => wr.rangeLeft b w.heap.size)
  case atStart => exact ⟨_, _, hrg0, Met.start xs ys, (Below.refl _ _).grown hg0 (Nat.le_refl _) (by simp)⟩
  case round =>
    obtain ⟨left, cnt, hrg, hmet, hnx⟩ := hrel
    have HM := hide (hmet)
    clear hmet
    go_wp2_with (first
      | (at_next; refine wpList_next_ranges (α := Int) (β := Unit) _ rfl _ rfl 3 law3 _ (Value.int .i64) (fun _ => .agg #[]) (fun key kl hkey => by obtain ⟨x, rfl, _⟩ := Maps.keyOf_int_inv Yba.underlying3 hkey; exact ⟨x, rfl⟩) (fun v y hv => ⟨(), (unitElem_inv hv).1⟩) b w.heap.size n _ _ _ rfl hrg ?_ ?_)
      | go_in)
    · intro hc0 hl0
      go_wp2
      go_ret
      exact ⟨ret_bool (HM.out.done hl0).symm, hnx⟩
    · intro x c kl y w1 cnt1 hkey hlx hwc hat hrg1 hlt hg1 hs1 hen
      obtain ⟨_, ex, rfl, hwx⟩ := Maps.keyOf_int_inv Yba.underlying3 hkey
      cases ex
      have hbx : Below w.heap.size w w1 := hnx.grown hg1 hnx.size (fun j hj => by cases hj; exact Nat.le_refl _)
      have hin : x ∈ xs := by
        have := has_true_of_atKey hat
        rw [has_SetD, inB_iff] at this
        exact this
      have HI := hide (hin)
      have HC := hide (contains_any t ys x w1 (ht.below hbx) hwx)
      have HL : Hid (cnt1 < cnt) := hlt
      clear hin hat hkey hlx hwc hlt hs1
      go_wp2_with (go_at_call 46; refine HC.out.mono ?_; rintro e w2 ⟨rfl, hg2⟩)
      · have heq : inB ys x = false := by simpa using (by assumption : (!inB ys x) = true)
        go_ret
        exact ⟨ret_bool (allB_false HI.out heq).symm, hbx.grown hg2 hbx.size (by simp)⟩
      · have heq : inB ys x = true := by simpa using (by assumption : (!inB ys x) = false)
        have hrg2 := hrg1.kept hg2 (by simp) (by simp)
        go_roundw
        case rel => exact ⟨_, _, hrg2, HM.out.step heq, hbx.grown hg2 hbx.size (by simp)⟩
        case measure => rw [hrg2.left_eq, hrg.left_eq]; exact HL.out

/-- SubsetOf, whatever the two sets. -/
theorem subset_any (s t : Value) (xs ys : List Int) (w : World) (hs : IsSet w s xs) (ht : IsSet w t ys) :
    Calls Yba.prog 29 #[s, t] w fun e w' => e = .returned (.bool (allB xs ys)) ∧ Below w.heap.size w w' := by
  by_cases hlen : Maps.size (SetD ys) < Maps.size (SetD xs)
  · exact subset_long s t xs ys w hs ht hlen
  · rcases hs with ⟨rfl, rfl⟩ | ⟨b, n, rfl, hown⟩
    · exact subset_nil t ys w ht
    · exact subset_some b n t xs ys w hown ht hlen
end Go.Proofs.Ybulkcgwo
