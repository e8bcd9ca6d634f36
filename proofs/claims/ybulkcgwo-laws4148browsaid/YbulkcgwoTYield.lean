import Derived.Test.YbulkcgwoTStep2
import Derived.RangeFuncNested
import Derived.RangeFuncBound
import Derived.RangeFuncCalls
import Derived.RangeFuncLeaves
import Derived.RangeFuncBox
import Derived.RangeFuncRecord
import Derived.Shelf.Abstract
import Derived.Shelf.RegionOpen
import Derived.OwnWalkIn
import Derived.TacticsInMore
import Derived.LoopNIn
import Derived.LoopIn
import Derived.Stop.RegionWithIn
namespace Go.Proofs.Ybulkcgwo.T
open Go.RowKit Go.Shelf
set_option linter.unusedVariables false
set_option linter.unusedSimpArgs false

theorem yield_any {m m' : Nat} {P : Program} {l : Nat} {args : Array Value} {W : World} {R : Ending → World → Prop} (h : YieldAt Fence.wide m P l args W R) : YieldAt Fence.wide m' P l args W R := by
  obtain ⟨fn, tmps, assign, body, hy, hR⟩ := h
  exact ⟨fn, tmps, assign, body, hy, hR.1, fun c cs _ => hR.2 c cs (room_wide _)⟩

/-- What the rounds do: they take the element, and keep all but the blocks of FF. -/
def Rounds (l N : Nat) (FF : Nat → Prop) (J : List Int → World → Prop) : Prop :=
  ∀ pre x W, J pre W → pre.length < N → ∀ m, YieldAt Fence.wide m Yba.prog l #[.int .i64 x] W fun e W' => e = .returned (.bool true) ∧ J (pre ++ [x]) W' ∧ Only FF W W'

set_option maxHeartbeats 2000000 in
set_option maxRecDepth 100000 in
theorem yieldUp_in (n l N : Nat) (hn : 1 ≤ n) (FF : Nat → Prop) (J : List Int → World → Prop) (hY : Rounds l N FF J) (pre xs : List Int) (eb eo c sb hb : Nat) (g : Int) (W : World) (hJ : J pre W) (hr : W.rangeAt eb eo (ints xs)) (s5 : W.cell? ⟨sb, 5, none⟩ = some (.pointer (some ⟨hb, 0, none⟩))) (k1 : W.cell? ⟨hb, 1, none⟩ = some (.int .u64 g))
    (f1 : ¬ FF eb) (f2 : ¬ FF sb) (f3 : ¬ FF hb) (hN : pre.length + xs.length ≤ N) (hx : xs.length ≤ 1000) :
    CallsIn Fence.wide n Yba.prog 83 #[.slice (some ⟨eb, eo, none⟩) xs.length c, .func (.yield l) #[] #[], .pointer (some ⟨sb, 0, none⟩), .int .u64 g] W fun e W' => e = .returned (.tuple #[.int .i64 0, .bool false, .bool true]) ∧ J (pre ++ xs) W' ∧ Only FF W W' := by
  have HY := hide hY
  have HR := hide hr
  have HJ := hide hJ
  have HF : Hid ((¬ FF eb) ∧ (¬ FF sb) ∧ ¬ FF hb) := ⟨f1, f2, f3⟩
  clear hY hr hJ f1 f2 f3
  refine callsIn_of_wp Yba.func83 rfl trivial ?_ rfl
  simp only [Yba.ntmps83, List.size_toArray, List.length_cons, List.length_nil, Nat.reduceAdd, Nat.reduceSub, Array.replicate_succ, Array.replicate_zero, List.push_toArray, List.append_toArray, List.nil_append, List.cons_append]
  gi_wp2
  gi_loopw [15, 8] (fun i v wr => ∃ k : Nat, k ≤ xs.length ∧ i = .int .i64 k ∧ v = .int .i64 0 ∧ J (pre ++ xs.take k) wr ∧ Only FF W wr) (fun i _ _ => xs.length - (intOf i).toNat)
  case atStart => exact ⟨0, Nat.zero_le _, rfl, rfl, by rw [List.take_zero, List.append_nil]; exact HJ.out, Only.refl _ _⟩
  case round =>
    obtain ⟨k, hk, rfl, rfl, hJk, hO⟩ := hrel
    have HO := hide hO
    have HJk := hide hJk
    clear hO hJk
    by_cases hkl : k < xs.length
    · have hy := range_at (HO.out.range HR.out HF.out.1) (k := k) hkl
      have htk : xs.take (k + 1) = xs.take k ++ [xs.getD k 0] := by
        rw [List.take_add_one, List.getD_eq_getElem?_getD, List.getElem?_eq_getElem hkl]; rfl
      have HTK := hide htk
      clear htk
      generalize xs.getD k 0 = y at hy HTK
      have i1 : (k : Int) < (xs.length : Int) := by omega
      obtain ⟨fn, tmps, assign, body, hyy, hRd⟩ := HY.out (pre ++ xs.take k) y wr HJk.out (by rw [List.length_append, List.length_take]; omega) (n - 1)
      have s5' := HO.out.cell s5 HF.out.2.1
      have k1' := HO.out.cell k1 HF.out.2.2
      gi_wp2
      refine hRd.mono ?_
      rintro e W3 ⟨rfl, hJ3, hk3⟩
      have s53 := hk3.cell s5' HF.out.2.1
      have k13 := hk3.cell k1' HF.out.2.2
      have HJ3 := hide hJ3
      have HK3 := hide hk3
      clear hJ3 hk3 hyy hRd
      gi_wp2
      refine ⟨⟨k + 1, by omega, by simp, rfl, ?_, HO.out.trans HK3.out (fun k h => .inl h)⟩, by simp [intOf]; omega⟩
      rw [HTK.out, ← List.append_assoc]; exact HJ3.out
    · obtain rfl : k = xs.length := by omega
      have i1 : ¬ (xs.length : Int) < (xs.length : Int) := by omega
      gi_wp2
      go_ret3
      rw [List.take_length] at HJk
      exact ⟨rfl, HJk.out, HO.out⟩
end Go.Proofs.Ybulkcgwo.T
