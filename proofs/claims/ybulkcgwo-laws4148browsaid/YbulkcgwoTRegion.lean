import Derived.Test.YbulkcgwoTFrame
namespace Go.Proofs.Ybulkcgwo.T
open Go.RowKit
set_option linter.unusedVariables false

section
variable {P : Program} {ops : Array Oper} {Q : Exit → Act → World → Prop} {md : Region.Mode} {S : World → Prop} {fuel : Nat} {listed : Array Bool} {a : Act} {w : World}
/-- An operation whose guard says no is passed over. -/
theorem takeNo (i : Nat) (dst : Option Tmp) (hd : (ops[i]?).map Oper.dst = some dst) (hs : Region.noSelect ops = true) (hf : Region.free md ops listed i = true) (hr : (Region.ready md ops listed).contains i = true)
    (hQ : ∀ c a w, Q (.panic c) (a.put dst undef) w → Q (.panic c) a w) (hw : ((ops[i]?).map fun o => Region.wanted o (yielded ops a.tmps)) = some false) (hS : S w)
    (h : wpAnyH P md ops Q S fuel (listed.setIfInBounds i true) (a.put dst undef) w) : wpAnyH P md ops Q S (fuel + 1) listed a w := by
  obtain ⟨oi, hi, rfl⟩ := Option.map_eq_some_iff.1 hd
  rw [hi] at hw
  exact wpAnyH_take hi hs hf hr hQ (.inr ⟨by simpa using hw, rfl⟩) hS h
/-- An operation that yields. -/
theorem takeYes (i : Nat) (dst : Option Tmp) (v : Value) (hd : (ops[i]?).map Oper.dst = some dst) (hs : Region.noSelect ops = true) (hf : Region.free md ops listed i = true) (hr : (Region.ready md ops listed).contains i = true)
    (hQ : ∀ c a w, Q (.panic c) (a.put dst v) w → Q (.panic c) a w) (hw : ((ops[i]?).map fun o => Region.wanted o (yielded ops a.tmps)) = some true) (hy : ∀ w, S w → ((ops[i]?).map fun o => (execOp a.eval o).run P w) = some (.ok (.value v) w)) (hS : S w)
    (h : wpAnyH P md ops Q S fuel (listed.setIfInBounds i true) (a.put dst v) w) : wpAnyH P md ops Q S (fuel + 1) listed a w := by
  obtain ⟨oi, hi, rfl⟩ := Option.map_eq_some_iff.1 hd
  rw [hi] at hw
  refine wpAnyH_take hi hs hf hr hQ (.inl ⟨by simpa using hw, fun w hSw => ?_⟩) hS h
  have := hy w hSw
  rw [hi] at this
  simpa using this
/-- The one operation that may come up is carried out. -/
theorem takeRun (i : Nat) (hr : Region.ready md ops listed = [i]) (h : wpOp P ops Q i (fun a' w' => S w' ∧ wpAnyH P md ops Q S fuel (listed.setIfInBounds i true) a' w') a w) : wpAnyH P md ops Q S (fuel + 1) listed a w :=
  wpAnyH_all hr (by simp) (fun j hj => by have : j = i := by simpa using hj
                                          subst this; exact h)
end
end Go.Proofs.Ybulkcgwo.T
