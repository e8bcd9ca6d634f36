import Derived.Test.YbulkcgwoRows
import Derived.WalkKit
import Derived.ProofKit
import Derived.OpenShut
import Derived.Below
import Derived.Maps.RangeWalk
namespace Go.Proofs.Ybulkcgwo
open Go.RowKit Go.Maps

theorem hide {p : Prop} (h : p) : Hid p := h
theorem law3 : Keyed Yba.prog 3 := int_keyed Yba.underlying3
theorem zero68 (w : World) : (zeroValue 68).run Yba.prog w = .ok (.agg #[]) w := by kernel_rfl

/-- A slice of ints: its elements are 'zs'. -/
def Sl (w : World) (v : Value) (zs : List Int) : Prop :=
  ∃ a cap, v = .slice a zs.length cap ∧ (∀ n ∈ zs, (Lit.int .i64 n).wf = true) ∧
    (zs = [] ∨ ∃ b off, a = some ⟨b, off, none⟩ ∧ b < w.heap.size ∧ ∀ j, j < zs.length → w.cell? ⟨b, off + j, none⟩ = some (.int .i64 (zs.getD j 0)))

theorem Sl.below {w w' : World} {v : Value} {zs : List Int} (h : Sl w v zs) (hb : Below w.heap.size w w') : Sl w' v zs := by
  obtain ⟨a, cap, rfl, hw, h⟩ := h
  refine ⟨a, cap, rfl, hw, ?_⟩
  rcases h with h | ⟨b, off, rfl, hlt, hc⟩
  · exact .inl h
  · exact .inr ⟨b, off, rfl, Nat.lt_of_lt_of_le hlt hb.size, fun j hj => (hb.cell (p := ⟨b, off + j, none⟩) hlt).trans (hc j hj)⟩

theorem Sl.nil (w : World) : Sl w (.slice none 0 0) [] := ⟨none, 0, rfl, by simp, .inl rfl⟩

theorem ret_bool {a b : Bool} (h : a = b) : Ending.returned (.bool a) = .returned (.bool b) := by rw [h]

/-- 'x is listed'. -/
def inB (zs : List Int) (x : Int) : Bool := zs.contains x
theorem inB_iff (zs : List Int) (x : Int) : inB zs x = true ↔ x ∈ zs := by simp [inB]
theorem inB_nil (x : Int) : inB [] x = false := rfl
theorem inB_succ (x : Int) (zs : List Int) (k : Nat) (h : k < zs.length) : inB (zs.take (k + 1)) x = (inB (zs.take k) x || (zs.getD k 0 == x)) := by
  rw [Bool.eq_iff_iff, Bool.or_eq_true, inB_iff, inB_iff, List.take_succ_eq_append_getElem h, List.mem_append, List.mem_singleton, beq_iff_eq]
  rw [List.getD_eq_getElem?_getD, List.getElem?_eq_getElem h, Option.getD_some]
  exact or_congr Iff.rfl eq_comm
theorem inB_take {x : Int} {zs : List Int} {k : Nat} (h : inB (zs.take k) x = true) : inB zs x = true := by
  rw [inB_iff] at h ⊢; exact List.mem_of_mem_take h

set_option maxHeartbeats 400000 in
theorem cin_any (x : Int) (v : Value) (zs : List Int) (w : World) (hs : Sl w v zs) (hl : zs.length ≤ 1000000) :
    Calls Yba.prog 47 #[.int .i64 x, v] w fun e w' => e = .returned (.bool (inB zs x)) ∧ w' = w := by
  obtain ⟨a, cap, rfl, hw, h⟩ := hs
  rcases h with h | ⟨b, off, rfl, hlt, hc0⟩
  · subst h
    go_enter Yba.func47, Yba.ntmps47
    go_wp2
    refine wp_loop_rounds 1 ?_
    rw [rounds_succ]
    go_wp2
    go_ret
    exact ⟨rfl, rfl⟩
  · have hc := hide (hc0)
    clear hc0
    go_enter Yba.func47, Yba.ntmps47
    go_wp2
    go_loop [9] (fun i => ∃ k : Nat, k ≤ zs.length ∧ i = .int .i64 k ∧ inB (zs.take k) x = false) (fun i => zs.length - (intOf i).toNat)
    case atStart => exact ⟨0, Nat.zero_le _, rfl, rfl⟩
    case round =>
      obtain ⟨k, hk, rfl, hno⟩ := hrel
      have HN : Hid (inB (zs.take k) x = false) := hno
      clear hno
      by_cases hkl : k < zs.length
      · have hcell := hc.out k hkl
        have HS := hide (inB_succ x zs k hkl)
        generalize zs.getD k 0 = y at hcell HS
        go_wp2
        · have heq : (y == x) = true := by assumption
          go_ret
          exact ⟨ret_bool (inB_take (k := k + 1) (by rw [HS.out, heq]; simp)).symm, rfl⟩
        · have heq : (y == x) = false := by assumption
          go_round
          case rel => exact ⟨k + 1, by omega, by go_num, by rw [HS.out, heq, HN.out]; rfl⟩
          case measure => simp [intOf]; omega
      · go_wp2
        go_ret
        have h1 := HN.out
        rw [List.take_of_length_le (by omega)] at h1
        exact ⟨ret_bool h1.symm, rfl⟩

/-- 'all listed'. -/
def allB (xs ys : List Int) : Bool := xs.all (inB ys)
theorem allB_iff (xs ys : List Int) : allB xs ys = true ↔ ∀ x ∈ xs, x ∈ ys := by simp [allB, inB_iff]
theorem allB_succ (xs ys : List Int) (k : Nat) (h : k < xs.length) : allB (xs.take (k + 1)) ys = (allB (xs.take k) ys && inB ys (xs.getD k 0)) := by
  unfold allB
  rw [List.take_succ_eq_append_getElem h, List.all_append]
  simp [h]
theorem allB_take {xs ys : List Int} {k : Nat} (h : allB (xs.take k) ys = false) : allB xs ys = false := by
  cases hh : allB xs ys
  · rfl
  · rw [allB_iff] at hh
    have : allB (xs.take k) ys = true := (allB_iff _ _).2 fun x hx => hh x (List.mem_of_mem_take hx)
    rw [this] at h; cases h

set_option maxHeartbeats 400000 in
theorem call_any (u v : Value) (xs ys : List Int) (w : World) (hsx : Sl w u xs) (hsy : Sl w v ys) (hl : xs.length ≤ 1000000) (hly : ys.length ≤ 1000000) :
    Calls Yba.prog 30 #[u, v] w fun e w' => e = .returned (.bool (allB xs ys)) ∧ w' = w := by
  obtain ⟨a, cap, rfl, hw, h⟩ := hsx
  have HC := hide fun x => cin_any x v ys w hsy hly
  rcases h with h | ⟨b, off, rfl, hlt, hc0⟩
  · subst h
    go_enter Yba.func30, Yba.ntmps30
    go_wp2
    refine wp_loop_rounds 1 ?_
    rw [rounds_succ]
    go_wp2
    go_ret
    exact ⟨rfl, rfl⟩
  · have hc := hide (hc0)
    clear hc0
    go_enter Yba.func30, Yba.ntmps30
    go_wp2
    go_loop [9] (fun i => ∃ k : Nat, k ≤ xs.length ∧ i = .int .i64 k ∧ allB (xs.take k) ys = true) (fun i => xs.length - (intOf i).toNat)
    case atStart => exact ⟨0, Nat.zero_le _, rfl, rfl⟩
    case round =>
      obtain ⟨k, hk, rfl, hno⟩ := hrel
      have HN : Hid (allB (xs.take k) ys = true) := hno
      clear hno
      by_cases hkl : k < xs.length
      · have hcell := hc.out k hkl
        have HS := hide (allB_succ xs ys k hkl)
        generalize xs.getD k 0 = y at hcell HS
        go_wp2_with (go_at_call 47; refine (HC.out _).mono ?_; rintro e w' ⟨rfl, rfl⟩)
        · have heq : inB ys y = false := by simpa using (by assumption : (!inB ys y) = true)
          go_ret
          exact ⟨ret_bool (allB_take (k := k + 1) (by rw [HS.out, heq]; simp)).symm, rfl⟩
        · have heq : inB ys y = true := by simpa using (by assumption : (!inB ys y) = false)
          go_round
          case rel => exact ⟨k + 1, by omega, by go_num, by rw [HS.out, heq, HN.out]; rfl⟩
          case measure => simp [intOf]; omega
      · go_wp2
        go_ret
        have h1 := HN.out
        rw [List.take_of_length_le (by omega)] at h1
        exact ⟨ret_bool h1.symm, rfl⟩

/-- The set's datum. -/
def keys (xs : List Int) : List Lit := xs.map (Lit.int .i64)
def SetD (xs : List Int) : DataW Unit := setOf (.agg []) (keys xs)
theorem keys_ok (xs : List Int) : ∀ x ∈ keys xs, WideAt.IsKeyLit x := by
  intro x hx
  obtain ⟨y, _, rfl⟩ := List.mem_map.1 hx
  trivial
theorem SetD_succ (xs : List Int) (k : Nat) (h : k < xs.length) : SetD (xs.take (k + 1)) = (SetD (xs.take k)).put (.int .i64 (xs.getD k 0)) (.agg []) := by
  unfold SetD keys
  rw [List.take_succ_eq_append_getElem h, List.map_append, List.map_singleton, setOf_snoc]
  simp [h]
theorem sameKey_int (a b : Int) : (Lit.int .i64 a).sameKey (.int .i64 b) = (a == b) := by
  by_cases h : a = b
  · subst h
    rw [WideAt.sameKey_self (a := Lit.int .i64 a) trivial]; simp
  · rw [sameKey_ne (by simpa using h)]; simp [h]
theorem has_SetD (xs : List Int) (x : Int) : Maps.has (SetD xs) (.int .i64 x) = inB xs x := by
  unfold SetD
  rw [has_setOf _ _ _ (keys_ok xs), Bool.eq_iff_iff, inB_iff]
  unfold keys
  simp only [List.any_map, List.any_eq_true, Function.comp, sameKey_int, beq_iff_eq, exists_eq_right]

/-- A set that the call has made, or a nil one. -/
def IsSet (w : World) (m : Value) (xs : List Int) : Prop :=
  (m = .map none ∧ xs = []) ∨ ∃ b n, m = .map (some b) ∧ w.ownsMap Yba.prog 3 (unitElem (H := Unit)) b n (SetD xs)
theorem IsSet.below {w w' : World} {m : Value} {xs : List Int} (h : IsSet w m xs) (hb : Below w.heap.size w w') : IsSet w' m xs := by
  rcases h with h | ⟨b, n, rfl, ho⟩
  · exact .inl h
  · refine .inr ⟨b, n, rfl, ?_⟩
    have hlt := ho.lt
    obtain ⟨es, clock, hh, r⟩ := ho
    exact ⟨es, clock, (hb.block b hlt).trans hh, r⟩

theorem run_makeMap_hint (n : Int) (w : World) : (Instr.makeMap 65 (some (.int .i64 n))).run Yba.prog w = .ok (.map (some w.heap.size)) (w.alloc (.map #[] 0)) := by
  simp [Instr.makeMap, run_underlying Yba.underlying65, asInt, asIntOf, Result.andThen]

theorem cmk_nil (u : Value) (w : World) :
    Calls Yba.prog 28 #[u, .bool true] w fun e w' => e = .returned (.map none) ∧ w' = w := by
  go_enter Yba.func28, Yba.ntmps28
  go_wp2
  go_ret
  exact ⟨rfl, rfl⟩

set_option maxHeartbeats 400000 in
theorem cmk_any (u : Value) (xs : List Int) (w : World) (hs : Sl w u xs) (hl : xs.length ≤ 1000000) :
    Calls Yba.prog 28 #[u, .bool false] w fun e w' => e = .returned (.map (some w.heap.size)) ∧ w'.ownsMap Yba.prog 3 (unitElem (H := Unit)) w.heap.size xs.length (SetD xs) ∧ Below w.heap.size w w' := by
  have hmm := run_makeMap_hint
  obtain ⟨a, cap, rfl, hw, h⟩ := hs
  rcases h with h | ⟨b, off, rfl, hlt, hc0⟩
  · subst h
    go_enter Yba.func28, Yba.ntmps28
    go_wp2
    refine wp_loop_rounds 1 ?_
    rw [rounds_succ]
    go_wp2
    go_ret
    exact ⟨rfl, World.ownsMap_made _ _ _ _, (Below.refl _ _).alloc (Nat.le_refl _) _⟩
  · have hc := hide (hc0)
    clear hc0
    go_enter Yba.func28, Yba.ntmps28
    go_wp2
    go_loopw [14] (fun i wr => ∃ k : Nat, k ≤ xs.length ∧ i = .int .i64 k ∧ wr.ownsMap Yba.prog 3 (unitElem (H := Unit)) w.heap.size k (SetD (xs.take k)) ∧ Below w.heap.size w wr) (fun i _ => xs.length - (intOf i).toNat)
    case atStart => exact ⟨0, Nat.zero_le _, rfl, World.ownsMap_made _ _ _ _, (Below.refl _ _).alloc (Nat.le_refl _) _⟩
    case round =>
      obtain ⟨k, hk, rfl, hown, hnx⟩ := hrel
      by_cases hkl : k < xs.length
      · have hcell : wr.cell? ⟨b, off + k, none⟩ = some (.int .i64 (xs.getD k 0)) := (hnx.cell (by exact hlt)).trans (hc.out k hkl)
        have HS := hide (SetD_succ xs k hkl)
        have hkey : keyOf Yba.prog 3 (.int .i64 (xs.getD k 0)) = some (.int .i64 (xs.getD k 0)) := keyOf_int_mk Yba.underlying3 (hw _ (by rw [List.getD_eq_getElem?_getD, List.getElem?_eq_getElem hkl]; exact List.getElem_mem hkl))
        generalize xs.getD k 0 = y at hcell HS hkey
        go_wp2_with (first
          | (at_mapUpdate; refine wpList_mapUpdate_own _ rfl _ _ _ 65 rfl 3 68 law3 Yba.underlying65 _ w.heap.size k _ rfl hown (by unfold maxLen; omega) _ _ _ rfl rfl hkey _ [] unitElem_mk ?_; intro w1 hown1 hgrow1)
          | go_in)
        go_roundw
        case rel => exact ⟨k + 1, by omega, by go_num, HS.out.symm ▸ hown1, hnx.grown hgrow1 hnx.size (fun j hj => by cases hj; exact Nat.le_refl _)⟩
        case measure => simp [intOf]; omega
      · go_wp2
        go_ret
        have : k = xs.length := by omega
        subst this
        rw [List.take_length] at hown
        exact ⟨rfl, hown, hnx⟩

/-- Contains. -/
theorem contains_any (m : Value) (ys : List Int) (x : Int) (w : World) (hm : IsSet w m ys) (hx : (Lit.int .i64 x).wf = true) :
    Calls Yba.prog 46 #[m, .int .i64 x] w fun e w' => e = .returned (.bool (inB ys x)) ∧ w.grownBy w' none := by
  have hkey : keyOf Yba.prog 3 (.int .i64 x) = some (.int .i64 x) := keyOf_int_mk Yba.underlying3 hx
  rcases hm with ⟨rfl, rfl⟩ | ⟨b, n, rfl, hown⟩
  · have hlk := fun w => Maps.look_nil (w := w) true law3 Yba.underlying65 (zero68 w) hkey
    go_enter Yba.func46, Yba.ntmps46
    go_wp2
    go_ret
    exact ⟨rfl, World.grownBy_alloc w _ none⟩
  · have HH := hide (has_SetD ys x)
    go_enter Yba.func46, Yba.ntmps46
    go_wp2_with (first
      | (at_lookup; refine wpList_lookup_own_unit _ rfl _ _ 65 rfl 3 68 law3 Yba.underlying65 (zero68 _) b n _ rfl hown _ _ rfl hkey ?_)
      | go_in)
    go_ret
    exact ⟨ret_bool HH.out, World.grownBy_alloc w _ none⟩
end Go.Proofs.Ybulkcgwo
