import Derived.Test.YbulkchawRows
import Derived.WalkKit
import Derived.ProofKit
import Derived.OpenShut
import Derived.Below
namespace Go.Proofs.Ybulkchaw
open Go.RowKit

theorem and_top (x : Int) (h : (Lit.int .u8 x).wf = true) : bits .and .u8 x 128 = if 128 ≤ x then 128 else 0 := by
  have hb := bounds_u8 h
  obtain ⟨n, rfl⟩ : ∃ n : Nat, x = n := ⟨x.toNat, by omega⟩
  have h2 : ∀ m : Fin 256, bits .and .u8 ((m.val : Nat) : Int) 128 = if (128 : Int) ≤ (m.val : Nat) then 128 else 0 := by decide +kernel
  exact h2 ⟨n, by omega⟩

theorem exact_any (a0 a1 a2 : Int) (a3 : Option Addr) (len3 cap3 : Nat) (w : World) (w1 : (Lit.int .u8 a1).wf = true) (h : len3 ≤ 4096) :
    Calls Yba.prog 3 #[.int .u32 a0, .int .u8 a1, .int .u32 a2, .slice a3 len3 cap3] w fun e w' => e = .returned (.bool true) ∧ Below w.heap.size w w' := by
  have ha := and_top a1 w1
  have h' : ¬ (4096 : Int) < len3 := by omega
  by_cases h128 : 128 ≤ a1
  · rw [if_pos h128] at ha
    go_enter Yba.func3, Yba.ntmps3
    go_wp2
    go_ret
    exact ⟨rfl, (Below.refl _ _).alloc (Nat.le_refl _) _⟩
  · rw [if_neg h128] at ha
    go_enter Yba.func3, Yba.ntmps3
    go_wp2
    go_ret
    exact ⟨rfl, (Below.refl _ _).alloc (Nat.le_refl _) _⟩

theorem exact_big (a0 a1 a2 : Int) (a3 : Option Addr) (len3 cap3 : Nat) (w : World) (h : 4096 < len3) (hm : len3 ≤ 9223372036854775807) :
    Calls Yba.prog 3 #[.int .u32 a0, .int .u8 a1, .int .u32 a2, .slice a3 len3 cap3] w fun e w' => e = .returned (.bool true) ∧ Below w.heap.size w w' := by
  have h' : (4096 : Int) < len3 := by omega
  go_enter Yba.func3, Yba.ntmps3
  go_wp2
  go_ret
  exact ⟨rfl, Below.refl _ _⟩
end Go.Proofs.Ybulkchaw
