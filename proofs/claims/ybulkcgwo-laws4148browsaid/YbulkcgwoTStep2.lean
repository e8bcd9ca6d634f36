import Derived.Test.YbulkcgwoTStep
namespace Go.Proofs.Ybulkcgwo.T
open Go.RowKit
set_option linter.unusedVariables false
set_option linter.unusedSimpArgs false

set_option maxRecDepth 100000 in
theorem step_end (cb sb : Nat) (w : World) (hC : Cur w cb sb) (hA : Calls Yba.prog 91 #[.pointer (some ⟨cb, 2, none⟩)] w fun r w' => r = .returned (.tuple #[.pointer none, .int .i64 0]) ∧ AscEnd w w' cb sb) :
    Calls Yba.prog 85 #[.pointer (some ⟨cb, 0, none⟩)] w fun r w' => r = .returned (.tuple #[.pointer none, .int .i64 0]) ∧ Only (fun k => k = cb) w w' := by
  have c1 := hC.d
  have HA := hide hA
  clear hA hC
  go_enter Yba.func85, Yba.ntmps85
  go_wp2_with (first
    | (go_at_call 91; refine HA.out.mono ?_; rintro e w1 ⟨rfl, hE⟩; have c29 := hE.cur.e; have c30 := hE.cur.ea; have c24 := hE.dp; have hf24 := (hE.cur.cell 24 (by omega)); obtain ⟨-, -, hf24⟩ := hf24; have HE := hide hE; clear hE)
    | fail)
  go_ret2
  exact ⟨rfl, HE.out.only.setCell (.inl rfl) _⟩

set_option maxRecDepth 100000 in
theorem step_mid (cb sb b i q : Nat) (w : World) (hC : Cur w cb sb) (hA : Calls Yba.prog 91 #[.pointer (some ⟨cb, 2, none⟩)] w fun r w' => r = .returned (.tuple #[.pointer (some ⟨b, 0, none⟩), .int .i64 i]) ∧ AscMid w w' cb sb b i q) :
    Calls Yba.prog 85 #[.pointer (some ⟨cb, 0, none⟩)] w fun r w' => r = .returned (.tuple #[.pointer (some ⟨b, 0, none⟩), .int .i64 i]) ∧ AscMid w w' cb sb b i q := by
  have c1 := hC.d
  have HA := hide hA
  clear hA hC
  go_enter Yba.func85, Yba.ntmps85
  go_wp2_with (first
    | (go_at_call 91; refine HA.out.mono ?_; rintro e w1 ⟨rfl, hE⟩; have c29 := hE.cur.e; have HE := hide hE; clear hE)
    | fail)
  go_ret2
  exact ⟨rfl, HE.out⟩

/-- The cursor stands before the first element. -/
def Begun (w : World) (cb sb : Nat) (g : Int) (t : Tree) : Prop := Cur w cb sb ∧ w.cell? ⟨cb, 25, none⟩ = some (.int .u64 g) ∧
  match t with
  | none => w.cell? ⟨cb, 24, none⟩ = some (.int .i64 0)
  | some (.inl d) => w.cell? ⟨cb, 24, none⟩ = some (.int .i64 1) ∧ Fram w cb 0 d.b 0
  | some (.inr (d, kb, L)) => w.cell? ⟨cb, 24, none⟩ = some (.int .i64 2) ∧ Fram w cb 0 d.b 0 ∧ ∃ n, L.head? = some n ∧ Fram w cb 1 n.b 0

theorem firstT (cb sb : Nat) (g : Int) (t : Tree) (w : World) (hne : t ≠ none) (hC : Cur w cb sb) (h24 : w.cell? ⟨cb, 24, none⟩ = some (.int .i64 0)) (h25 : w.cell? ⟨cb, 25, none⟩ = some (.int .u64 g)) (hT : TOK w t) (hp : ¬ footT t cb) :
    Calls Yba.prog 80 #[.pointer (some ⟨cb, 2, none⟩), .pointer (rootT t)] w fun e w' => e = .returned (.tuple #[]) ∧ Begun w' cb sb g t ∧ Only (fun k => k = cb) w w' := by
  match t, hne, hT, hp with
  | some (.inl d), _, hT, hp =>
    refine (first_leaf0 cb sb d.b w hC h24 hT.2.1 (fun h => hp (.inl h))).mono ?_
    rintro e w' ⟨rfl, hL⟩
    exact ⟨rfl, ⟨hL.cur, (hL.same 25 (by omega) (by omega) (by omega)).trans h25, hL.dp, hL.fr⟩, hL.only⟩
  | some (.inr (d, kb, L)), _, hT, hp =>
    have hl := hT.1.len
    match L, hT, hp, hl with
    | n :: L', hT, hp, _ =>
      have hnm : n ∈ n :: L' := by simp
      have hk := hT.1.K.row 0 (ptr n.b) (by simp [ptrs])
      refine (first_two cb sb d.b kb n.b w hC h24 hT.1.K.cell hk (hT.1.leaf n hnm).2 (fun h => hp (.inl h)) (fun h => hp (.inr (.inr (.inl h)))) (fun h => hp (.inr (.inr (.inr ⟨n, hnm, .inl h⟩))))).mono ?_
      rintro e w' ⟨rfl, h1, h2, h3, h4, h5, h6⟩
      exact ⟨rfl, ⟨h1, h5.trans h25, h4, h2, n, rfl, h3⟩, h6⟩

set_option maxHeartbeats 1000000 in
set_option maxRecDepth 100000 in
theorem first71 (cb sb hb : Nat) (cv sv : Value) (g n : Int) (t : Tree) (w : World) (hne : t ≠ none) (hC : Cur w cb sb) (hO : Own w sb cv sv (rootT t) n g (some ⟨hb, 0, none⟩)) (hH : Hol w sb hb g) (hT : TOK w t) (hp : ¬ footT t cb) (hp1 : cb ≠ sb) (hp2 : cb ≠ hb) :
    Calls Yba.prog 71 #[.pointer (some ⟨cb, 0, none⟩)] w fun e w' => e = .returned (.tuple #[]) ∧ Begun w' cb sb g t ∧ Only (fun k => k = cb) w w' := by
  have c0 := hC.s
  have c1 := hC.d
  obtain ⟨u24, hu24, hf24⟩ := hC.cell 24 (by omega)
  obtain ⟨u25, hu25, hf25⟩ := hC.cell 25 (by omega)
  have s4 := hO.c4
  have HC1 : Hid (Cur ((w.setCell ⟨cb, 25, none⟩ (.int .u64 g)).setCell ⟨cb, 24, none⟩ (.int .i64 0)) cb sb) := (hC.set 25 _ (by omega) (by omega) (by omega) (by omega)).set 24 _ (by omega) (by omega) (by omega) (by omega)
  have HO1 : Hid (Only (fun k => k = cb) w ((w.setCell ⟨cb, 25, none⟩ (.int .u64 g)).setCell ⟨cb, 24, none⟩ (.int .i64 0))) := ((Only.refl (fun k => k = cb) w).setCell (.inl rfl) _).setCell (.inl rfl) _
  have h24 : ((w.setCell ⟨cb, 25, none⟩ (.int .u64 g)).setCell ⟨cb, 24, none⟩ (.int .i64 0)).cell? ⟨cb, 24, none⟩ = some (.int .i64 0) := World.cell?_setCell_same _ _ _ ((cell_set_other (by omega)).trans hu24)
  have h25 : ((w.setCell ⟨cb, 25, none⟩ (.int .u64 g)).setCell ⟨cb, 24, none⟩ (.int .i64 0)).cell? ⟨cb, 25, none⟩ = some (.int .u64 g) := (cell_set_other (by omega)).trans (World.cell?_setCell_same _ _ _ hu25)
  have HOw := hide hO
  have HHo := hide hH
  have HT := hide hT
  clear hC hO hH hT
  go_enter Yba.func71, Yba.ntmps71
  go_wp2
  generalize ((w.setCell ⟨cb, 25, none⟩ (.int .u64 g)).setCell ⟨cb, 24, none⟩ (.int .i64 0)) = w1 at HC1 HO1 h24 h25 ⊢
  have d0 := HC1.out.s
  have HOw1 := hide (HOw.out.kept HO1.out (fun h => hp1 h.symm))
  have HHo1 := hide (HHo.out.kept HO1.out (fun h => hp2 h.symm))
  have HT1 := hide (HT.out.kept HO1.out (fun k hk h => hp (h ▸ hk)))
  clear c0 c1 hu24 hf24 hu25 hf25 s4
  go_region_with (first
    | (go_at_call 10; refine (nodes_held sb hb (rootT t) g _ (by simpa using HOw1.out.c2) (by simpa using HOw1.out.c4) (by simpa using HOw1.out.c5) (by simpa using HHo1.out.c1)).mono ?_; rintro r w2 ⟨rfl, n2, rfl⟩)
    | (go_at_call 80; refine (firstT cb sb g t _ hne (HC1.out.kept ((Only.refl (fun _ => False) w1).drewN _) (fun h => h)) (by simpa using h24) (by simpa using h25) (HT1.out.kept ((Only.refl (fun _ => False) w1).drewN _) (fun _ _ h => h)) hp).mono ?_; rintro r w3 ⟨rfl, hB, hO3⟩; have HB := hide hB; have HO3 := hide hO3; clear hB hO3)
    | fail)
  all_goals
    go_wp2
    go_end0
    exact ⟨rfl, HB.out, (HO1.out.drewN _).trans HO3.out (fun k h => .inl h)⟩
end Go.Proofs.Ybulkcgwo.T
