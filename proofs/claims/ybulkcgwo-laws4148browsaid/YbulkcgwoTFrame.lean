import Derived.Test.YbulkcgwoRows
import Derived.WalkKit
import Derived.ProofKit
import Derived.OpenShut
import Derived.Below
import Derived.Deep.RegionHeld3
import Derived.Deep.MidRow
import Derived.Deep.Upon
import Derived.BigQuiet
import Derived.Deep.QuietTactic
namespace Go.Proofs.Ybulkcgwo.T
open Go.RowKit

theorem hide {p : Prop} (h : p) : Hid p := h

/-- w' is w with new blocks, and with writes to blocks of F alone. -/
structure Only (F : Nat → Prop) (w w' : World) : Prop where
  os : w'.os = w.os
  tape : w'.tape = w.tape
  output : w'.output = w.output
  size : w.heap.size ≤ w'.heap.size
  block : ∀ k, k < w.heap.size → ¬ F k → w'.heap[k]? = w.heap[k]?

theorem Only.refl (F : Nat → Prop) (w : World) : Only F w w := ⟨rfl, rfl, rfl, Nat.le_refl _, fun _ _ _ => rfl⟩
theorem Only.trans {F G : Nat → Prop} {a b c : World} (h : Only F a b) (k : Only G b c) (hG : ∀ i, G i → F i ∨ a.heap.size ≤ i) : Only F a c :=
  ⟨k.os.trans h.os, k.tape.trans h.tape, k.output.trans h.output, Nat.le_trans h.size k.size, fun i hi hF =>
    (k.block i (Nat.lt_of_lt_of_le hi h.size) (fun hg => (hG i hg).elim hF (fun h => by omega))).trans (h.block i hi hF)⟩
theorem Only.mono {F G : Nat → Prop} {a b : World} (h : Only F a b) (hFG : ∀ i, i < a.heap.size → F i → G i) : Only G a b :=
  ⟨h.os, h.tape, h.output, h.size, fun i hi hG => h.block i hi (fun hf => hG (hFG i hi hf))⟩
theorem Only.drew {F : Nat → Prop} {a w : World} (h : Only F a w) : Only F a w.drew := ⟨h.os, h.tape, h.output, h.size, h.block⟩
theorem Only.drewN {F : Nat → Prop} {a w : World} (h : Only F a w) (n : Nat) : Only F a (w.drewN n) := ⟨h.os, h.tape, h.output, h.size, h.block⟩
theorem Only.alloc {F : Nat → Prop} {a w : World} (h : Only F a w) (o : Obj) : Only F a (w.alloc o) :=
  ⟨h.os, h.tape, h.output, Nat.le_trans h.size (by simp), fun k hk hF => (Below.heap_alloc w o k (Nat.lt_of_lt_of_le hk h.size)).trans (h.block k hk hF)⟩
theorem Only.setCell {F : Nat → Prop} {a w : World} (h : Only F a w) {p : Addr} (hp : F p.block ∨ a.heap.size ≤ p.block) (u : Value) : Only F a (w.setCell p u) :=
  ⟨h.os, h.tape, h.output, Nat.le_trans h.size (by simp [World.setCell]), fun k hk hF =>
    (Below.heap_setCell w p u k (fun e => hp.elim (fun hp => hF (e ▸ hp)) (fun hp => by omega))).trans (h.block k hk hF)⟩
theorem Only.setCells {F : Nat → Prop} {a : World} {b : Nat} (hp : F b ∨ a.heap.size ≤ b) : ∀ (vs : List Value) (o : Nat) {w : World}, Only F a w → Only F a (w.setCells b o vs)
  | [], _, _, h => h
  | v :: r, o, _, h => Only.setCells hp r (o + 1) (h.setCell (p := ⟨b, o, none⟩) hp v)
theorem Only.grown {F : Nat → Prop} {a w w' : World} {row : Option Nat} (h : Only F a w) (hg : w.grownBy w' row) (hr : ∀ k, row = some k → F k ∨ a.heap.size ≤ k) : Only F a w' :=
  ⟨hg.os.trans h.os, hg.tape.trans h.tape, hg.output.trans h.output, Nat.le_trans h.size hg.size, fun i hi hF =>
    (hg.block i (Nat.lt_of_lt_of_le hi h.size) (fun e => (hr i e.symm).elim hF (fun h => by omega))).trans (h.block i hi hF)⟩
theorem Only.of_below {B : Nat} {a w : World} (h : Below B a w) : Only (fun k => B ≤ k) a w := ⟨h.os, h.tape, h.output, h.size, fun k _ hF => h.block k (by omega)⟩
theorem Only.below {F : Nat → Prop} {B : Nat} {a w : World} (h : Only F a w) (hB : B ≤ a.heap.size) (hF : ∀ k, F k → B ≤ k) : Below B a w :=
  ⟨h.os, h.tape, h.output, h.size, fun k hk => h.block k (by omega) (fun hf => by have := hF k hf; omega)⟩
theorem Only.cell {F : Nat → Prop} {w w' : World} (h : Only F w w') {p : Addr} {v : Value} (hc : w.cell? p = some v) (hp : ¬ F p.block) : w'.cell? p = some v :=
  (World.cell?_of_block (h.block p.block (World.block_lt_of_cell? w p hc) hp)).trans hc
theorem Only.frozen {F : Nat → Prop} {w w' : World} (h : Only F w w') {p : Addr} (hl : p.block < w.heap.size) (hp : ¬ F p.block) : w'.frozen? p = w.frozen? p :=
  World.frozen?_of_block (h.block p.block hl hp)

end Go.Proofs.Ybulkcgwo.T
