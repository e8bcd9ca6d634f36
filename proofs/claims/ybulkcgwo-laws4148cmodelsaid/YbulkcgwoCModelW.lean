import Derived.Test.YbulkcgwoCSub
namespace Go.Proofs.Ybulkcgwo
open Go.RowKit Go.Maps

theorem sl_at {w : World} {a : Option Addr} {cap : Nat} {xs : List Int} (h : Sl w (.slice a xs.length cap) xs) {k : Nat} (hk : k < xs.length) :
    ∃ b off y, w.cell? ⟨b, off + k, none⟩ = some (.int .i64 y) ∧ y ∈ xs ∧ (Lit.int .i64 y).wf = true ∧ a = some ⟨b, off, none⟩ := by
  obtain ⟨a', cap', e, hw, h⟩ := h
  cases e
  rcases h with rfl | ⟨b, off, rfl, _, hc⟩
  · simp at hk
  · have hm : xs.getD k 0 ∈ xs := by rw [List.getD_eq_getElem?_getD, List.getElem?_eq_getElem hk]; exact List.getElem_mem hk
    exact ⟨b, off, _, hc k hk, hm, hw _ hm, rfl⟩
theorem set_some {w : World} {b : Nat} {xs : List Int} (h : IsSet w (.map (some b)) xs) : ∃ n, w.ownsMap Yba.prog 3 (unitElem (H := Unit)) b n (SetD xs) := by
  rcases h with ⟨h, _⟩ | ⟨b', n, e, ho⟩
  · cases h
  · cases e; exact ⟨n, ho⟩

set_option maxHeartbeats 2000000 in
set_option maxRecDepth 100000 in
theorem cm_ff (a0 a1 : Option Addr) (cap0 cap1 : Nat) (xs ys : List Int) (w : World) (hsx : Sl w (.slice a0 xs.length cap0) xs) (hsy : Sl w (.slice a1 ys.length cap1) ys) (hx : xs.length ≤ 1024) (hy : ys.length ≤ 1024) :
    Calls Yba.prog 7 #[.slice a0 xs.length cap0, .slice a1 ys.length cap1, .bool false, .bool false] w fun e w' => e = .returned (.bool true) ∧ Below w.heap.size w w' := by
  have HX := hide hsx
  have HY := hide hsy
  clear hsx hsy
  go_enter Yba.func7, Yba.ntmps7
  go_wp2_with fail
  refine (cmk_any _ xs _ HX.out (by omega)).mono ?_
  rintro e w1 ⟨rfl, how1, hb1⟩
  have HS1 : Hid (IsSet w1 (.map (some w.heap.size)) xs) := .inr ⟨_, _, rfl, how1⟩
  clear how1
  have HY1 := hide (HY.out.below hb1)
  go_wp2_with fail
  refine (cmk_any _ ys _ HY1.out (by omega)).mono ?_
  rintro e w2 ⟨rfl, how2, hb2⟩
  have HT2 : Hid (IsSet w2 (.map (some w1.heap.size)) ys) := .inr ⟨_, _, rfl, how2⟩
  clear how2
  have HS2 := hide (HS1.out.below hb2)
  have hl1 := fun ty => len_any (.map (some w.heap.size)) xs w2 HS2.out ty
  have hl2 := fun ty => len_any (.map (some w1.heap.size)) ys w2 HT2.out ty
  go_wp2_with fail
  refine (subset_any _ _ xs ys _ HS2.out HT2.out).mono ?_
  rintro e w3 ⟨rfl, hb3⟩
  clear hl1 hl2
  have hb03 : Below w.heap.size w w3 := (hb1.trans (hb2.mono hb1.size)).trans (hb3.mono (Nat.le_trans hb1.size hb2.size))
  have HS3 := hide (HS2.out.below hb3)
  have HT3 := hide (HT2.out.below hb3)
  have hl1 := fun ty => len_any (.map (some w.heap.size)) xs w3 HS3.out ty
  have hl2 := fun ty => len_any (.map (some w1.heap.size)) ys w3 HT3.out ty
  have HX3 := hide (HX.out.below hb03)
  have HY3 := hide (HY.out.below hb03)
  clear HS1 HS2 HT2 HY1 hb1 hb2 hb3
  go_wp2
  clear hl1 hl2
  go_loopw [61] (fun i wr => ∃ k : Nat, k ≤ xs.length ∧ i = .int .i64 k ∧ Below w3.heap.size w3 wr) (fun i _ => xs.length - (intOf i).toNat)
  case atStart => exact ⟨0, Nat.zero_le _, rfl, Below.refl _ _⟩
  case round =>
    obtain ⟨k, hk, rfl, hnx⟩ := hrel
    by_cases hkl : k < xs.length
    · obtain ⟨b, off, y, hcell, hin, hwf, ha0⟩ := sl_at (HX3.out.below hnx) hkl
      subst ha0
      have hkey : keyOf Yba.prog 3 (.int .i64 y) = some (.int .i64 y) := keyOf_int_mk Yba.underlying3 hwf
      have hhas : Maps.has (SetD xs) (.int .i64 y) = true := by rw [has_SetD]; exact (inB_iff _ _).2 hin
      obtain ⟨n, hown⟩ := set_some (HS3.out.below hnx)
      clear hin hwf
      go_wp2_with (first
        | (at_lookup; refine wpList_lookup_own_unit _ rfl _ _ 65 rfl 3 68 law3 Yba.underlying65 (zero68 _) _ n _ rfl hown _ _ rfl hkey ?_)
        | go_in)
      go_roundw
      case rel => exact ⟨k + 1, by omega, by go_num, hnx.alloc hnx.size _⟩
      case measure => simp [intOf]; omega
    · have hbr : Below w.heap.size w wr := hb03.trans (hnx.mono hb03.size)
      have HTr := hide (HT3.out.below hnx)
      have HXr := hide (HX3.out.below hnx)
      have HYr := hide (HY3.out.below hnx)
      go_wp2
      go_loopw [76] (fun i wq => ∃ k : Nat, k ≤ ys.length ∧ i = .int .i64 k ∧ Below wr.heap.size wr wq) (fun i _ => ys.length - (intOf i).toNat)
      case atStart => exact ⟨0, Nat.zero_le _, rfl, Below.refl _ _⟩
      case round =>
        obtain ⟨k2, hk2, rfl, hnx2⟩ := hrel
        by_cases hkl2 : k2 < ys.length
        · obtain ⟨b, off, y, hcell, hin, hwf, ha1⟩ := sl_at (HYr.out.below hnx2) hkl2
          subst ha1
          have hkey : keyOf Yba.prog 3 (.int .i64 y) = some (.int .i64 y) := keyOf_int_mk Yba.underlying3 hwf
          have hhas : Maps.has (SetD ys) (.int .i64 y) = true := by rw [has_SetD]; exact (inB_iff _ _).2 hin
          obtain ⟨n, hown⟩ := set_some (HTr.out.below hnx2)
          clear hin hwf
          go_wp2_with (first
            | (at_lookup; refine wpList_lookup_own_unit _ rfl _ _ 65 rfl 3 68 law3 Yba.underlying65 (zero68 _) _ n _ rfl hown _ _ rfl hkey ?_)
            | go_in)
          go_roundw
          case rel => exact ⟨k2 + 1, by omega, by go_num, hnx2.alloc hnx2.size _⟩
          case measure => simp [intOf]; omega
        · have hbq := hbr.trans (hnx2.mono hbr.size)
          have HXq := hide (HXr.out.below hnx2)
          have HYq := hide (HYr.out.below hnx2)
          go_wp2_with fail
          refine (call_any _ _ xs ys _ HXq.out HYq.out (by omega) (by omega)).mono ?_
          rintro e w9 ⟨rfl, rfl⟩
          go_wp2
          go_ret
          exact ⟨rfl, hbq⟩
set_option maxHeartbeats 2000000 in
set_option maxRecDepth 100000 in
theorem cm_ft (a0 a1 : Option Addr) (cap0 cap1 : Nat) (xs ys : List Int) (w : World) (hsx : Sl w (.slice a0 xs.length cap0) xs) (hsy : Sl w (.slice a1 ys.length cap1) ys) (hx : xs.length ≤ 1024) (hy : ys.length ≤ 1024) :
    Calls Yba.prog 7 #[.slice a0 xs.length cap0, .slice a1 ys.length cap1, .bool false, .bool true] w fun e w' => e = .returned (.bool true) ∧ Below w.heap.size w w' := by
  have HX := hide hsx
  have HY := hide hsy
  clear hsx hsy
  go_enter Yba.func7, Yba.ntmps7
  go_wp2_with fail
  refine (cmk_any _ xs _ HX.out (by omega)).mono ?_
  rintro e w1 ⟨rfl, how1, hb1⟩
  have HS1 : Hid (IsSet w1 (.map (some w.heap.size)) xs) := .inr ⟨_, _, rfl, how1⟩
  clear how1
  have HY1 := hide (HY.out.below hb1)
  go_wp2_with fail
  refine (cmk_nil _ _).mono ?_
  rintro e w2 ⟨rfl, hw2⟩
  have hb2 : Below w1.heap.size w1 w2 := by rw [hw2]; exact Below.refl _ _
  have HT2 : Hid (IsSet w2 (.map none) []) := .inl ⟨rfl, rfl⟩
  clear hw2
  have HS2 := hide (HS1.out.below hb2)
  have hl1 := fun ty => len_any (.map (some w.heap.size)) xs w2 HS2.out ty
  have hl2 := fun ty => len_any (.map none) [] w2 HT2.out ty
  go_wp2_with fail
  refine (subset_any _ _ xs [] _ HS2.out HT2.out).mono ?_
  rintro e w3 ⟨rfl, hb3⟩
  clear hl1 hl2
  have hb03 : Below w.heap.size w w3 := (hb1.trans (hb2.mono hb1.size)).trans (hb3.mono (Nat.le_trans hb1.size hb2.size))
  have HS3 := hide (HS2.out.below hb3)
  have HT3 := hide (HT2.out.below hb3)
  have hl1 := fun ty => len_any (.map (some w.heap.size)) xs w3 HS3.out ty
  have hl2 := fun ty => len_any (.map none) [] w3 HT3.out ty
  have HX3 := hide (HX.out.below hb03)
  have HY3 := hide (HY.out.below hb03)
  clear HS1 HS2 HT2 HY1 hb1 hb2 hb3
  go_wp2
  clear hl1 hl2
  go_loopw [61] (fun i wr => ∃ k : Nat, k ≤ xs.length ∧ i = .int .i64 k ∧ Below w3.heap.size w3 wr) (fun i _ => xs.length - (intOf i).toNat)
  case atStart => exact ⟨0, Nat.zero_le _, rfl, Below.refl _ _⟩
  case round =>
    obtain ⟨k, hk, rfl, hnx⟩ := hrel
    by_cases hkl : k < xs.length
    · obtain ⟨b, off, y, hcell, hin, hwf, ha0⟩ := sl_at (HX3.out.below hnx) hkl
      subst ha0
      have hkey : keyOf Yba.prog 3 (.int .i64 y) = some (.int .i64 y) := keyOf_int_mk Yba.underlying3 hwf
      have hhas : Maps.has (SetD xs) (.int .i64 y) = true := by rw [has_SetD]; exact (inB_iff _ _).2 hin
      obtain ⟨n, hown⟩ := set_some (HS3.out.below hnx)
      clear hin hwf
      go_wp2_with (first
        | (at_lookup; refine wpList_lookup_own_unit _ rfl _ _ 65 rfl 3 68 law3 Yba.underlying65 (zero68 _) _ n _ rfl hown _ _ rfl hkey ?_)
        | go_in)
      go_roundw
      case rel => exact ⟨k + 1, by omega, by go_num, hnx.alloc hnx.size _⟩
      case measure => simp [intOf]; omega
    · have hbr : Below w.heap.size w wr := hb03.trans (hnx.mono hb03.size)
      have HTr := hide (HT3.out.below hnx)
      have HXr := hide (HX3.out.below hnx)
      have HYr := hide (HY3.out.below hnx)
      go_wp2
      refine wp_loop_rounds 1 ?_
      rw [rounds_succ]
      go_wp2_with fail
      refine (call_any _ _ xs [] _ HXr.out (Sl.nil _) (by omega) (by simp)).mono ?_
      rintro e w9 ⟨rfl, rfl⟩
      go_wp2
      go_ret
      exact ⟨rfl, hbr⟩
set_option maxHeartbeats 2000000 in
set_option maxRecDepth 100000 in
theorem cm_tf (a0 a1 : Option Addr) (cap0 cap1 : Nat) (xs ys : List Int) (w : World) (hsx : Sl w (.slice a0 xs.length cap0) xs) (hsy : Sl w (.slice a1 ys.length cap1) ys) (hx : xs.length ≤ 1024) (hy : ys.length ≤ 1024) :
    Calls Yba.prog 7 #[.slice a0 xs.length cap0, .slice a1 ys.length cap1, .bool true, .bool false] w fun e w' => e = .returned (.bool true) ∧ Below w.heap.size w w' := by
  have HX := hide hsx
  have HY := hide hsy
  clear hsx hsy
  go_enter Yba.func7, Yba.ntmps7
  go_wp2_with fail
  refine (cmk_nil _ _).mono ?_
  rintro e w1 ⟨rfl, hw1⟩
  have hb1 : Below w.heap.size w w1 := by rw [hw1]; exact Below.refl _ _
  have HS1 : Hid (IsSet w1 (.map none) []) := .inl ⟨rfl, rfl⟩
  clear hw1
  have HY1 := hide (HY.out.below hb1)
  go_wp2_with fail
  refine (cmk_any _ ys _ HY1.out (by omega)).mono ?_
  rintro e w2 ⟨rfl, how2, hb2⟩
  have HT2 : Hid (IsSet w2 (.map (some w1.heap.size)) ys) := .inr ⟨_, _, rfl, how2⟩
  clear how2
  have HS2 := hide (HS1.out.below hb2)
  have hl1 := fun ty => len_any (.map none) [] w2 HS2.out ty
  have hl2 := fun ty => len_any (.map (some w1.heap.size)) ys w2 HT2.out ty
  go_wp2_with fail
  refine (subset_any _ _ [] ys _ HS2.out HT2.out).mono ?_
  rintro e w3 ⟨rfl, hb3⟩
  clear hl1 hl2
  have hb03 : Below w.heap.size w w3 := (hb1.trans (hb2.mono hb1.size)).trans (hb3.mono (Nat.le_trans hb1.size hb2.size))
  have HS3 := hide (HS2.out.below hb3)
  have HT3 := hide (HT2.out.below hb3)
  have hl1 := fun ty => len_any (.map none) [] w3 HS3.out ty
  have hl2 := fun ty => len_any (.map (some w1.heap.size)) ys w3 HT3.out ty
  have HX3 := hide (HX.out.below hb03)
  have HY3 := hide (HY.out.below hb03)
  clear HS1 HS2 HT2 HY1 hb1 hb2 hb3
  go_wp2
  clear hl1 hl2
  refine wp_loop_rounds 1 ?_
  rw [rounds_succ]
  go_wp2

  go_loopw [76] (fun i wq => ∃ k : Nat, k ≤ ys.length ∧ i = .int .i64 k ∧ Below w3.heap.size w3 wq) (fun i _ => ys.length - (intOf i).toNat)
  case atStart => exact ⟨0, Nat.zero_le _, rfl, Below.refl _ _⟩
  case round =>
    obtain ⟨k2, hk2, rfl, hnx2⟩ := hrel
    by_cases hkl2 : k2 < ys.length
    · obtain ⟨b, off, y, hcell, hin, hwf, ha1⟩ := sl_at (HY3.out.below hnx2) hkl2
      subst ha1
      have hkey : keyOf Yba.prog 3 (.int .i64 y) = some (.int .i64 y) := keyOf_int_mk Yba.underlying3 hwf
      have hhas : Maps.has (SetD ys) (.int .i64 y) = true := by rw [has_SetD]; exact (inB_iff _ _).2 hin
      obtain ⟨n, hown⟩ := set_some (HT3.out.below hnx2)
      clear hin hwf
      go_wp2_with (first
        | (at_lookup; refine wpList_lookup_own_unit _ rfl _ _ 65 rfl 3 68 law3 Yba.underlying65 (zero68 _) _ n _ rfl hown _ _ rfl hkey ?_)
        | go_in)
      go_roundw
      case rel => exact ⟨k2 + 1, by omega, by go_num, hnx2.alloc hnx2.size _⟩
      case measure => simp [intOf]; omega
    · have hbq := hb03.trans (hnx2.mono hb03.size)
      have HXq := hide (HX3.out.below hnx2)
      have HYq := hide (HY3.out.below hnx2)
      go_wp2_with fail
      refine (call_any _ _ [] ys _ (Sl.nil _) HYq.out (by simp) (by omega)).mono ?_
      rintro e w9 ⟨rfl, rfl⟩
      go_wp2
      go_ret
      exact ⟨rfl, hbq⟩
set_option maxHeartbeats 2000000 in
set_option maxRecDepth 100000 in
theorem cm_tt (a0 a1 : Option Addr) (cap0 cap1 : Nat) (xs ys : List Int) (w : World) (hsx : Sl w (.slice a0 xs.length cap0) xs) (hsy : Sl w (.slice a1 ys.length cap1) ys) (hx : xs.length ≤ 1024) (hy : ys.length ≤ 1024) :
    Calls Yba.prog 7 #[.slice a0 xs.length cap0, .slice a1 ys.length cap1, .bool true, .bool true] w fun e w' => e = .returned (.bool true) ∧ Below w.heap.size w w' := by
  have HX := hide hsx
  have HY := hide hsy
  clear hsx hsy
  go_enter Yba.func7, Yba.ntmps7
  go_wp2_with fail
  refine (cmk_nil _ _).mono ?_
  rintro e w1 ⟨rfl, hw1⟩
  have hb1 : Below w.heap.size w w1 := by rw [hw1]; exact Below.refl _ _
  have HS1 : Hid (IsSet w1 (.map none) []) := .inl ⟨rfl, rfl⟩
  clear hw1
  have HY1 := hide (HY.out.below hb1)
  go_wp2_with fail
  refine (cmk_nil _ _).mono ?_
  rintro e w2 ⟨rfl, hw2⟩
  have hb2 : Below w1.heap.size w1 w2 := by rw [hw2]; exact Below.refl _ _
  have HT2 : Hid (IsSet w2 (.map none) []) := .inl ⟨rfl, rfl⟩
  clear hw2
  have HS2 := hide (HS1.out.below hb2)
  have hl1 := fun ty => len_any (.map none) [] w2 HS2.out ty
  have hl2 := fun ty => len_any (.map none) [] w2 HT2.out ty
  go_wp2_with fail
  refine (subset_any _ _ [] [] _ HS2.out HT2.out).mono ?_
  rintro e w3 ⟨rfl, hb3⟩
  clear hl1 hl2
  have hb03 : Below w.heap.size w w3 := (hb1.trans (hb2.mono hb1.size)).trans (hb3.mono (Nat.le_trans hb1.size hb2.size))
  have HS3 := hide (HS2.out.below hb3)
  have HT3 := hide (HT2.out.below hb3)
  have hl1 := fun ty => len_any (.map none) [] w3 HS3.out ty
  have hl2 := fun ty => len_any (.map none) [] w3 HT3.out ty
  have HX3 := hide (HX.out.below hb03)
  have HY3 := hide (HY.out.below hb03)
  clear HS1 HS2 HT2 HY1 hb1 hb2 hb3
  go_wp2
  clear hl1 hl2
  refine wp_loop_rounds 1 ?_
  rw [rounds_succ]
  go_wp2

  refine wp_loop_rounds 1 ?_
  rw [rounds_succ]
  go_wp2_with fail
  refine (call_any _ _ [] [] _ (Sl.nil _) (Sl.nil _) (by simp) (by simp)).mono ?_
  rintro e w9 ⟨rfl, rfl⟩
  go_wp2
  go_ret
  exact ⟨rfl, hb03⟩
end Go.Proofs.Ybulkcgwo
