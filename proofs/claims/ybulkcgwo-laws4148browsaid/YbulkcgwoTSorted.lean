import Derived.Test.YbulkcgwoTFill
namespace Go.Proofs.Ybulkcgwo.T
open Go.RowKit
set_option linter.unusedVariables false
set_option linter.unusedSimpArgs false

set_option maxHeartbeats 1000000 in
theorem sortedOf_any {w : World} {eb eo cap : Nat} {xs : List Int} (hr : w.rangeAt eb eo (ints xs)) (hlt : eb < w.heap.size) (hle : xs.length ≤ cap) (hcm : cap ≤ maxLen) (hb5 : xs.length ≤ 4000) :
    Calls Yba.prog 9 #[.slice (some ⟨eb, eo, none⟩) xs.length cap] w fun r w' => ∃ sb h' t', r = .returned (.pointer (some ⟨sb, 0, none⟩)) ∧ InvS ordA w w' sb xs (some h') t' := by
  have HR := hide hr
  clear hr
  go_enter Yba.func9, Yba.ntmps9
  go_wp2_with fail
  have HI : Hid (InvS ordA w (w.alloc (.cells #[.func (.func 16) #[] #[], .func (.func 31) #[] #[], .pointer none, .int .i64 0, .int .u64 0, .pointer none] 38)) w.heap.size [] none none) := by
    have hO2 : Only (fun _ => False) w (w.alloc (.cells #[.func (.func 16) #[] #[], .func (.func 31) #[] #[], .pointer none, .int .i64 0, .int .u64 0, .pointer none] 38)) := (Only.refl _ _).alloc _
    have hc : ∀ j, (w.alloc (.cells #[.func (.func 16) #[] #[], .func (.func 31) #[] #[], .pointer none, .int .i64 0, .int .u64 0, .pointer none] 38)).cell? ⟨w.heap.size, j, none⟩ = (#[.func (.func 16) #[] #[], .func (.func 31) #[] #[], .pointer none, .int .i64 0, .int .u64 0, .pointer none] : Array Value)[j]? := fun j => cell_of_row _ _ _ _ _ _ (heap_alloc_new w _)
    have hf : ∀ j, (w.alloc (.cells #[.func (.func 16) #[] #[], .func (.func 31) #[] #[], .pointer none, .int .i64 0, .int .u64 0, .pointer none] 38)).frozen? ⟨w.heap.size, j, none⟩ = false := fun j => by
      unfold World.frozen?; rw [heap_alloc_new]; simp
    exact ⟨⟨⟨0, ⟨hc 0, hc 1, hc 2, hc 3, hc 4, hc 5, hf 2, hf 3, hf 4, hf 5⟩, fun h hh => (by cases hh)⟩, fun _ => rfl, trivial, List.Pairwise.nil, trivial, fun k hk => False.elim hk, fun h => h, fun h hh => (by cases hh)⟩, fun y => by simp [flatT], by simp [flatT], hO2, Nat.le_refl _, fun h hh => (by cases hh), fun k hk => False.elim hk, fun k hk => False.elim hk⟩
  have HFill := hide (fill_any HI.out HR.out hlt hle hcm hb5)
  go_wp2_with (first
    | (go_at_call 32; refine HFill.out.mono ?_; rintro r w3 ⟨rfl, h3, t3, hI3⟩; have HI3 := hide hI3; clear hI3)
    | fail)
  go_ret
  exact ⟨_, h3, t3, rfl, HI3.out⟩
end Go.Proofs.Ybulkcgwo.T
