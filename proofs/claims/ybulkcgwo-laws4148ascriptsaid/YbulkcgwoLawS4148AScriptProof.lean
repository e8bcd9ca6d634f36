import Derived.Test.YbulkcgwoRows
import Derived.Test.YbulkcgwoTScript
import Derived.Deep.SlicePairs
import Derived.WalkKit
import Derived.ProofKit
import Derived.OpenShut
import Derived.ShutString
import Derived.ChangeOld
import Derived.Below
namespace Go.Proofs.Ybulkcgwo.lawS4148AScript
open Go.ChangeShapes Go.WideShapes Go.ChangeAt Go.RowKit
open Go.ChangeMaps (open_string shut_string)
set_option linter.unusedVariables false

theorem own : ownKnob Yba.prog.godebug = none := by kernel_rfl
theorem laidOut : laidOutB Yba.prog = true := by kernel_rfl

/-- What the walk is told of the slice of operations. -/
def IsOps (w : World) (a : Option Addr) (len : Nat) (es : List (Int × Int)) : Prop :=
  es.length = len ∧ len ≤ 9223372036854775807 ∧ T.S2 w a es ∧ ∀ n ∈ es, (0 ≤ n.1 ∧ n.1 ≤ 255) ∧ -128 ≤ n.2 ∧ n.2 ≤ 127

theorem i8min : IntKind.i8.min = -128 := by kernel_rfl
theorem i8max : IntKind.i8.max = 127 := by kernel_rfl
theorem u8min : IntKind.u8.min = 0 := by kernel_rfl
theorem u8max : IntKind.u8.max = 255 := by kernel_rfl
theorem cells48 : Yba.prog.cellsOf 48 = 2 := by kernel_rfl
def num : Value → Int
  | .int _ n => n
  | _ => 0
theorem ops_of {w : World} {a : Addr} {len : Nat} (hm : len ≤ maxLen) (V0 V1 : Nat → Value) (h : ∀ i, i < len → w.cell? (a.add (i * 2)) = some (V0 i) ∧ w.cell? (a.add (i * 2 + 1)) = some (V1 i) ∧ (∃ n, V0 i = .int .u8 n ∧ (Lit.int .u8 n).wf = true) ∧ ∃ n, V1 i = .int .i8 n ∧ (Lit.int .i8 n).wf = true) :
    IsOps w (some a) len ((List.range len).map fun i => (num (V0 i), num (V1 i))) := by
  have hget : ∀ i, i < len → ((List.range len).map fun i => (num (V0 i), num (V1 i))).getD i (0, 0) = (num (V0 i), num (V1 i)) := by
    intro i hi
    simp [List.getD_eq_getElem?_getD, hi]
  refine ⟨by simp, by unfold maxLen at hm; omega, ?_, ?_⟩
  · by_cases h0 : len = 0
    · subst h0; exact ⟨0, 0, fun h => by simp at h, fun j hj => by simp at hj⟩
    · obtain ⟨b, off, spot⟩ := a
      have hspot : spot = none := by simpa [Addr.add] using World.cell?_spot (h 0 (by omega)).1
      subst hspot
      refine ⟨b, off, fun _ => rfl, fun j hj => ?_⟩
      have hj : j < len := by simpa using hj
      obtain ⟨c1, c2, ⟨n, e1, _⟩, m, e2, _⟩ := h j hj
      rw [hget j hj]
      rw [Go.WideShapes.add_plain] at c1 c2
      refine ⟨by rw [c1, e1]; rfl, ?_⟩
      rw [Nat.add_assoc, c2, e2]; rfl
  · intro p hp
    obtain ⟨i, hi, rfl⟩ := List.mem_map.1 hp
    obtain ⟨_, _, ⟨n, e1, w1⟩, m, e2, w2⟩ := h i (List.mem_range.1 hi)
    rw [e1, e2]
    simp only [num]
    constructor
    · simpa [Lit.wf, u8min, u8max] using w1
    · simpa [Lit.wf, i8min, i8max] using w2

theorem big (a0 : Option Addr) (len0 cap0 : Nat) (w : World) (h : 1024 < len0) (hm : len0 ≤ 9223372036854775807) :
    Calls Yba.prog 4 #[.slice a0 len0 cap0] w fun e w' => e = .returned (.bool true) ∧ w' = w := by
  have h' : (1024 : Int) < len0 := by omega
  go_enter Yba.func4, Yba.ntmps4
  go_wp2
  go_ret
  exact ⟨rfl, rfl⟩

theorem walk (a0 : Option Addr) (len0 cap0 : Nat) (z0 : List (Int × Int)) (w : World) (w0 : IsOps w a0 len0 z0) :
    Calls Yba.prog 4 #[.slice a0 len0 cap0] w fun e w' => e = .returned (.bool true) ∧ Below w.heap.size w w' := by
  obtain ⟨e2, m0, s2, r2⟩ := w0
  by_cases h0 : 1024 < len0
  · exact (big a0 len0 cap0 w h0 m0).mono fun e w' ⟨he, hw⟩ => ⟨he, by rw [hw]; exact Below.refl _ _⟩
  · rw [← e2]
    exact (T.script_walk a0 cap0 _ w (by omega) s2 r2).mono fun e w' ⟨he, hO⟩ => ⟨he, hO.below (Nat.le_refl _) (fun _ h => False.elim h)⟩

/-! ### THE ROW's STEP: WRITTEN OUT: LEAVE IT -/
set_option maxRecDepth 100000 in
theorem lifted (os : Os) (started : os.Started) (H : Type) (enc : TypeId × Value → H) :
    ReturnsInHanded {} Yba.checked os 4 .any (Rows.lawS4148AScriptSpec.pre6 enc Yba.prog Yba.f4 Rows.lawS4148AScriptRow.domain false) (Rows.lawS4148AScriptSpec.post enc Yba.prog Yba.f4 false true false false) := by
  refine returnsInHanded_of_change (C := Yba.checked) own started (by kernel_rfl) Yba.func4
    (ChangeSpec.witness6 (enc := enc) (C := Yba.checked) false ⟨#[], #[.slice none 0 0], []⟩ 8 (by kernel_rfl) (by kernel_rfl) (by kernel_rfl) (by kernel_rfl)) ?_
  intro W base args ds gs before hval0 hW hcnd _
  have hval : ∀ (j : Nat) t v, Yba.f4.params[j]? = some t → args[j]? = some v → Value.okWide Yba.prog W .any base t v := hval0
  have hW' := hW
  obtain ⟨p, q, hA0, hV, rfl, hfz, hnd⟩ := hW
  have hA : DataW.TrodAll enc Yba.prog W 0 (fun _ => true) true Yba.f4.params.toList args.toList ds p := hA0
  rw [Yba.params4] at hA hval
  obtain ⟨v0, vs0, d0, ds0, p0, q0, hargs, rfl, rfl, h0, r0⟩ := trodAll_cons hA
  obtain ⟨rfl, rfl, rfl⟩ := trodAll_nil r0
  obtain rfl : args = #[v0] := by cases args; simp_all
  obtain ⟨rfl, rfl⟩ := trodVars_none hV
  obtain ⟨a0, len0, cap0, rfl⟩ := okWide_slice Yba.underlying45 (hval 0 45 v0 rfl rfl)
  have k0 := h0
  have lt0 : ∀ x ∈ p0, x.block < W.heap.size := by obtain ⟨m, hm⟩ := k0; exact DataW.trod_lt m _ _ _ hm
  obtain ⟨z0, w0⟩ : ∃ es, IsOps W a0 len0 es := by
    obtain ⟨fuel, hf⟩ := h0
    rcases Go.Deep.open_slice_pairs Yba.underlying45 Yba.underlying48 cells48 rfl rfl (by kernel_rfl) (by kernel_rfl) hf with ⟨hcs, _⟩ | ⟨a, l, c, m, n, V0, V1, D0, D1, P0, P1, hcs, _, hl, hm, hmm, _, hall⟩
    · simp [Value.cells] at hcs
      obtain ⟨rfl, rfl, rfl⟩ := hcs
      exact ⟨[], rfl, by omega, ⟨0, 0, fun h => by simp at h, fun j hj => by simp at hj⟩, by simp⟩
    · simp [Value.cells] at hcs
      obtain ⟨rfl, rfl, rfl⟩ := hcs
      simp only [if_true] at hmm
      refine ⟨_, ops_of (by omega) V0 V1 (fun i hi => ?_)⟩
      obtain ⟨c1, c2, t1, t2⟩ := hall i (by omega)
      obtain ⟨x1, y1, _, z1⟩ := DataW.trod_int Yba.underlying5 t1
      obtain ⟨x2, y2, _, z2⟩ := DataW.trod_int Yba.underlying25 t2
      simp only [List.cons.injEq, and_true] at y1 y2
      exact ⟨c1, c2, ⟨x1, y1, z1⟩, x2, y2, z2⟩
  clear hA0 hval0
  refine (walk a0 len0 cap0 z0 W w0).mono fun e W' ⟨he, bel⟩ => ?_
  subst he
  exact ⟨_, rfl, _, _, _, [], _, [], hW', trodAll_mk1 (shut_bool Yba.underlying4 _), (trodAll_cons_mk (Below.trod laidOut (by kernel_rfl) (of_decide_eq_true (by kernel_rfl)) k0 bel lt0) trodAll_mk0), rfl, bel.frame _, fun h => by cases h⟩

theorem over : Rows.lawS4148AScriptRow.holds Yba.pinned (OpenSpec.ofChange Rows.lawS4148AScriptSpec) :=
  OpenClaim.holds_of_wide 4 Yba.f4 rfl rfl rfl rfl rfl rfl rfl ⟨rfl, rfl, rfl, rfl, rfl⟩ rfl rfl rfl rfl rfl (by kernel_rfl) Yba.func4 (by kernel_rfl)
    (of_decide_eq_true (by kernel_rfl)) (by unfold Func.isWrapper; first | (rw [if_pos (by decide +kernel)]; kernel_rfl) | (rw [if_neg (by decide +kernel)]; exact ⟨rfl, rfl⟩))
    (fun os started H enc _ => lifted os started H enc)

/-- ████ THE STATEMENT ████ -/
theorem proved : Rows.LawS4148AScriptSaid := over
#print axioms proved
end Go.Proofs.Ybulkcgwo.lawS4148AScript
