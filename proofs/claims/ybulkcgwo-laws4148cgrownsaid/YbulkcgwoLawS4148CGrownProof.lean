import Derived.Test.YbulkcgwoRows
import Derived.Test.YbulkcgwoCGrownW
import Derived.WalkKit
import Derived.ProofKit
import Derived.OpenShut
import Derived.ShutString
import Derived.ChangeOld
import Derived.Below
namespace Go.Proofs.Ybulkcgwo.lawS4148CGrown
open Go.ChangeShapes Go.WideShapes Go.ChangeAt Go.RowKit
open Go.ChangeMaps (open_string shut_string)
set_option linter.unusedVariables false

theorem own : ownKnob Yba.prog.godebug = none := by kernel_rfl
theorem laidOut : laidOutB Yba.prog = true := by kernel_rfl

/-- WHAT THE WALK IS TOLD OF A SLICE OF INTEGERS THAT CAME IN: it is nil; or it leads to a row of 'cap' cells, the numbers 'zs' (the first 'len' are its elements, the rest its spare room), each fitting its kind. -/
def IsRow (k : IntKind) (w : World) (a : Option Addr) (len cap : Nat) (zs : List Int) : Prop :=
  (a = none ∧ len = 0 ∧ cap = 0 ∧ zs = []) ∨
  ∃ x, a = some x ∧ len ≤ cap ∧ cap ≤ maxLen ∧ zs.length = cap ∧ (∀ i, i < zs.length → w.cell? (x.add i) = some (.int k (zs.getD i 0))) ∧ ∀ n ∈ zs, (Lit.int k n).wf = true

theorem sl_of {w : World} {a : Option Addr} {len cap : Nat} {zs : List Int} (h : IsRow .i64 w a len cap zs) : (zs.take len).length = len ∧ Sl w (.slice a (zs.take len).length cap) (zs.take len) := by
  rcases h with ⟨rfl, rfl, rfl, rfl⟩ | ⟨x, rfl, hl, hm, hz, hc, hw⟩
  · exact ⟨rfl, Sl.nil w⟩
  · have hlen : (zs.take len).length = len := by rw [List.length_take]; omega
    refine ⟨hlen, _, _, rfl, fun n hn => hw n (List.mem_of_mem_take hn), ?_⟩
    by_cases h0 : len = 0
    · subst h0; exact .inl (by simp)
    · obtain ⟨b, off, rfl, hcc⟩ := ints_at hc (by omega)
      refine .inr ⟨b, off, rfl, ?_, fun j hj => ?_⟩
      · have h1 := hcc 0 (by omega)
        exact World.block_lt_of_cell? _ _ h1
      · rw [hcc j (by omega)]
        rw [hlen] at hj
        simp [List.getD_eq_getElem?_getD, hj]

theorem big0 (a0 a1 : Option Addr) (len0 cap0 len1 cap1 : Nat) (w : World) (h : 1024 < len0) (hm : len0 ≤ 9223372036854775807) :
    Calls Yba.prog 8 #[.slice a0 len0 cap0, .slice a1 len1 cap1] w fun e w' => e = .returned (.bool true) ∧ w' = w := by
  have h' : (1024 : Int) < len0 := by omega
  go_enter Yba.func8, Yba.ntmps8
  go_wp2
  go_ret
  exact ⟨rfl, rfl⟩

theorem big1 (a0 a1 : Option Addr) (len0 cap0 len1 cap1 : Nat) (w : World) (h : ¬ 1024 < len0) (h1 : 1024 < len1) (hm : len1 ≤ 9223372036854775807) :
    Calls Yba.prog 8 #[.slice a0 len0 cap0, .slice a1 len1 cap1] w fun e w' => e = .returned (.bool true) ∧ w' = w := by
  have h' : ¬ (1024 : Int) < len0 := by omega
  have h1' : (1024 : Int) < len1 := by omega
  go_enter Yba.func8, Yba.ntmps8
  go_wp2
  go_ret
  exact ⟨rfl, rfl⟩

theorem row_max {k : IntKind} {w : World} {a : Option Addr} {len cap : Nat} {zs : List Int} (h : IsRow k w a len cap zs) : len ≤ 9223372036854775807 := by
  rcases h with ⟨_, rfl, _⟩ | ⟨x, _, hl, hm, _⟩
  · omega
  · unfold maxLen at hm; omega

theorem row_nil {k : IntKind} {w : World} {a : Option Addr} {len cap : Nat} {zs : List Int} (h : IsRow k w a len cap zs) : a = none → len = 0 ∧ cap = 0 := by
  rcases h with ⟨_, rfl, rfl, _⟩ | ⟨x, rfl, _⟩
  · exact fun _ => ⟨rfl, rfl⟩
  · exact fun h => by cases h

theorem walk (a0 : Option Addr) (len0 cap0 : Nat) (z0 : List Int) (a1 : Option Addr) (len1 cap1 : Nat) (z1 : List Int) (w : World) (w0 : IsRow .i64 w a0 len0 cap0 z0) (w1 : IsRow .i64 w a1 len1 cap1 z1) :
    Calls Yba.prog 8 #[.slice a0 len0 cap0, .slice a1 len1 cap1] w fun e w' => e = .returned (.bool true) ∧ Below w.heap.size w w' := by
  have m0 := row_max w0
  have m1 := row_max w1
  by_cases h0 : 1024 < len0
  · exact (big0 a0 a1 len0 cap0 len1 cap1 w h0 m0).mono fun e w' ⟨he, hw⟩ => ⟨he, by rw [hw]; exact Below.refl _ _⟩
  · by_cases h1 : 1024 < len1
    · exact (big1 a0 a1 len0 cap0 len1 cap1 w h0 h1 m1).mono fun e w' ⟨he, hw⟩ => ⟨he, by rw [hw]; exact Below.refl _ _⟩
    · have n0 := row_nil w0
      have n1 := row_nil w1
      obtain ⟨e0, s0⟩ := sl_of w0
      obtain ⟨e1, s1⟩ := sl_of w1
      rw [← e0] at n0
      rw [← e1] at n1
      rw [← e0, ← e1]
      exact grown_any a0 a1 cap0 cap1 _ _ w s0 s1 (by omega) (by omega) n0 n1

/-! ### THE ROW's STEP: WRITTEN OUT: LEAVE IT -/
set_option maxRecDepth 100000 in
theorem lifted (os : Os) (started : os.Started) (H : Type) (enc : TypeId × Value → H) :
    ReturnsInHanded {} Yba.checked os 8 .any (Rows.lawS4148CGrownSpec.pre6 enc Yba.prog Yba.f8 Rows.lawS4148CGrownRow.domain false) (Rows.lawS4148CGrownSpec.post enc Yba.prog Yba.f8 false true false false) := by
  refine returnsInHanded_of_change (C := Yba.checked) own started (by kernel_rfl) Yba.func8
    (ChangeSpec.witness6 (enc := enc) (C := Yba.checked) false ⟨#[], #[.slice none 0 0, .slice none 0 0], []⟩ 8 (by kernel_rfl) (by kernel_rfl) (by kernel_rfl) (by kernel_rfl)) ?_
  intro W base args ds gs before hval0 hW hcnd _
  have hval : ∀ (j : Nat) t v, Yba.f8.params[j]? = some t → args[j]? = some v → Value.okWide Yba.prog W .any base t v := hval0
  have hW' := hW
  obtain ⟨p, q, hA0, hV, rfl, hfz, hnd⟩ := hW
  have hA : DataW.TrodAll enc Yba.prog W 0 (fun _ => true) true Yba.f8.params.toList args.toList ds p := hA0
  rw [Yba.params8] at hA hval
  obtain ⟨v0, vs0, d0, ds0, p0, q0, hargs, rfl, rfl, h0, r0⟩ := trodAll_cons hA
  obtain ⟨v1, vs1, d1, ds1, p1, q1, rfl, rfl, rfl, h1, r1⟩ := trodAll_cons r0
  obtain ⟨rfl, rfl, rfl⟩ := trodAll_nil r1
  obtain rfl : args = #[v0, v1] := by cases args; simp_all
  obtain ⟨rfl, rfl⟩ := trodVars_none hV
  obtain ⟨a0, len0, cap0, rfl⟩ := okWide_slice Yba.underlying23 (hval 0 23 v0 rfl rfl)
  have k0 := h0
  have lt0 : ∀ x ∈ p0, x.block < W.heap.size := by obtain ⟨m, hm⟩ := k0; exact DataW.trod_lt m _ _ _ hm
  obtain ⟨z0, w0⟩ : ∃ zs, IsRow .i64 W a0 len0 cap0 zs := by
    obtain ⟨fuel, hf⟩ := h0
    rcases open_ints Yba.underlying23 Yba.underlying3 (by kernel_rfl) hf with ⟨hcs, _⟩ | ⟨x, l, c, zs, hcs, _, hl, hm, hz, _, hcell, hwz⟩
    · simp [Value.cells] at hcs
      obtain ⟨rfl, rfl, rfl⟩ := hcs
      exact ⟨[], .inl ⟨rfl, rfl, rfl, rfl⟩⟩
    · simp [Value.cells] at hcs
      obtain ⟨rfl, rfl, rfl⟩ := hcs
      exact ⟨zs, .inr ⟨_, rfl, hl, hm, by simpa using hz, hcell, hwz⟩⟩
  obtain ⟨a1, len1, cap1, rfl⟩ := okWide_slice Yba.underlying23 (hval 1 23 v1 rfl rfl)
  have k1 := h1
  have lt1 : ∀ x ∈ p1, x.block < W.heap.size := by obtain ⟨m, hm⟩ := k1; exact DataW.trod_lt m _ _ _ hm
  obtain ⟨z1, w1⟩ : ∃ zs, IsRow .i64 W a1 len1 cap1 zs := by
    obtain ⟨fuel, hf⟩ := h1
    rcases open_ints Yba.underlying23 Yba.underlying3 (by kernel_rfl) hf with ⟨hcs, _⟩ | ⟨x, l, c, zs, hcs, _, hl, hm, hz, _, hcell, hwz⟩
    · simp [Value.cells] at hcs
      obtain ⟨rfl, rfl, rfl⟩ := hcs
      exact ⟨[], .inl ⟨rfl, rfl, rfl, rfl⟩⟩
    · simp [Value.cells] at hcs
      obtain ⟨rfl, rfl, rfl⟩ := hcs
      exact ⟨zs, .inr ⟨_, rfl, hl, hm, by simpa using hz, hcell, hwz⟩⟩
  clear hA0 hval0
  refine (walk a0 len0 cap0 z0 a1 len1 cap1 z1 W w0 w1).mono fun e W' ⟨he, bel⟩ => ?_
  subst he
  exact ⟨_, rfl, _, _, _, [], _, [], hW', trodAll_mk1 (shut_bool Yba.underlying4 _), (trodAll_cons_mk (Below.trod laidOut (by kernel_rfl) (of_decide_eq_true (by kernel_rfl)) k0 bel lt0) (trodAll_cons_mk (Below.trod laidOut (by kernel_rfl) (of_decide_eq_true (by kernel_rfl)) k1 bel lt1) trodAll_mk0)), rfl, bel.frame _, fun h => by cases h⟩

theorem over : Rows.lawS4148CGrownRow.holds Yba.pinned (OpenSpec.ofChange Rows.lawS4148CGrownSpec) :=
  OpenClaim.holds_of_wide 8 Yba.f8 rfl rfl rfl rfl rfl rfl rfl ⟨rfl, rfl, rfl, rfl, rfl⟩ rfl rfl rfl rfl rfl (by kernel_rfl) Yba.func8 (by kernel_rfl)
    (of_decide_eq_true (by kernel_rfl)) (by unfold Func.isWrapper; first | (rw [if_pos (by decide +kernel)]; kernel_rfl) | (rw [if_neg (by decide +kernel)]; exact ⟨rfl, rfl⟩))
    (fun os started H enc _ => lifted os started H enc)

/-- ████ THE STATEMENT ████ -/
theorem proved : Rows.LawS4148CGrownSaid := over
#print axioms proved
end Go.Proofs.Ybulkcgwo.lawS4148CGrown
