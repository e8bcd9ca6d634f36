import Derived.Test.YbulkcgwoTSorted
import Derived.Laws.EntriesVeiled
namespace Go.Proofs.Ybulkcgwo.T
open Go.RowKit
set_option linter.unusedVariables false
set_option linter.unusedSimpArgs false

theorem run_mkN {t e : TypeId} {z : Value} (T : OneT t e z) (c : Nat) (hc : c ≤ 1000000) (w : World) :
    (Instr.makeSlice t (.int .i64 (c : Int)) (.int .i64 (c : Int))).run Yba.prog w = .ok (.slice (some ⟨w.heap.size, 0, none⟩) c c) (w.alloc (madeObj z c e)) := by
  obtain ⟨i, hi, hz0, hz1, hz2⟩ := info_parts T.info
  have := run_make (P := Yba.prog) w t e i z T.und hi hz0 .i64 .i64 c c (by omega) (Int.le_refl _) (by rw [hz2]; omega) (by omega)
  rw [this, hz1]
  simp [madeObj]

/-- What is known of a slice of int8 that came in. -/
def S8 (w : World) (av : Option Addr) (es : List Int) : Prop := ∃ b off, (0 < es.length → av = some ⟨b, off, none⟩) ∧ ∀ j, j < es.length → w.cell? ⟨b, off + j, none⟩ = some (.int .i8 (es.getD j 0))

def marks (es : List Int) (j : Nat) : Bool := decide (((j : Int) - 128) ∈ es)
/-- The two variables as they are filled. -/
structure Fil (w wr : World) (eb pb : Nat) (es : List Int) (k : Nat) : Prop where
  row : wr.rangeAt eb 0 (ints (es.take k))
  room : wr.there eb 0 es.length
  pres : ∀ j, j < 256 → wr.cell? ⟨pb, j, none⟩ = some (.bool (marks (es.take k) j))
  free : ∀ j, j < 256 → wr.frozen? ⟨pb, j, none⟩ = false
  only : Only (fun _ => False) w wr
  e1 : w.heap.size ≤ eb
  e2 : w.heap.size ≤ pb
  ne : eb ≠ pb
  lt : eb < wr.heap.size

theorem fil_step {w wr : World} {eb pb k : Nat} {es : List Int} (h : Fil w wr eb pb es k) (hk : k < es.length) (hr : -128 ≤ es.getD k 0 ∧ es.getD k 0 ≤ 127) (p : Nat) (hp : (p : Int) = es.getD k 0 + 128) :
    Fil w ((wr.setCell ⟨eb, k, none⟩ (.int .i64 (es.getD k 0))).setCell ⟨pb, p, none⟩ (.bool true)) eb pb es (k + 1) := by
  have htk : es.take (k + 1) = es.take k ++ [es.getD k 0] := by
    rw [List.take_add_one, List.getD_eq_getElem?_getD, List.getElem?_eq_getElem hk]; rfl
  have hpe : pb ≠ eb := fun e => h.ne e.symm
  have hlk : (ints (es.take k)).length = k := by rw [ints_length, List.length_take]; omega
  obtain ⟨u, hu⟩ := Option.isSome_iff_exists.1 (h.room k hk).1
  rw [Nat.zero_add] at hu
  refine ⟨?_, World.there_setCells (World.there_setCells h.room eb k [_]) pb p [_], ?_, ?_, (h.only.setCell (p := ⟨eb, k, none⟩) (.inr h.e1) _).setCell (p := ⟨pb, p, none⟩) (.inr h.e2) _, h.e1, h.e2, h.ne, by simpa using h.lt⟩
  · refine World.rangeAt_setCells_apart (w := wr.setCell ⟨eb, k, none⟩ (.int .i64 (es.getD k 0))) ?_ pb p [_] (.inl h.ne)
    rw [htk, ints_append]
    refine range_append (World.rangeAt_setCells_apart h.row eb k [_] (.inr (.inl (by omega)))) ?_
    rw [hlk, Nat.zero_add]
    exact range_one (World.cell?_setCell_same _ _ _ hu)
  · intro j hj
    have hc := h.pres j hj
    have hc2 : (wr.setCell ⟨eb, k, none⟩ (.int .i64 (es.getD k 0))).cell? ⟨pb, j, none⟩ = some (.bool (marks (es.take k) j)) := by
      rw [World.cell?_setCell_other _ _ _ _ (fun e => h.ne (by injection e))]; exact hc
    by_cases e : j = p
    · subst e
      rw [World.cell?_setCell_same _ _ _ hc2]
      have : marks (es.take (k + 1)) j = true := by unfold marks; rw [htk]; simp only [List.mem_append, List.mem_singleton, decide_eq_true_eq]; exact .inr (by omega)
      rw [this]
    · rw [World.cell?_setCell_other _ _ _ _ (fun e2 => e (by injection e2 with _ h2 _; exact h2.symm)), hc2]
      have : marks (es.take (k + 1)) j = marks (es.take k) j := by
        unfold marks; rw [htk]
        simp only [List.mem_append, List.mem_singleton, decide_eq_decide]
        exact ⟨fun h => h.elim id (fun h => by omega), .inl⟩
      rw [this]
  · intro j hj
    rw [World.frozen?_setCell, World.frozen?_setCell]; exact h.free j hj

theorem neq28 (t : Tree) (w : World) : (binOp .neq 28 (.pointer (rootT t)) (.pointer (rootT t))).run Yba.prog w = .ok (.bool false) w := by
  obtain ⟨j, hj⟩ : ∃ j, Yba.prog.info? 74 = some j := Option.isSome_iff_exists.1 (by kernel_rfl)
  match t with
  | none => show (binOp .neq 28 (.pointer none) (.pointer none)).run Yba.prog w = .ok (.bool false) w; kernel_rfl
  | some (.inl d) => exact Lib.run_neq_ptr_same w ⟨d.b, 0, none⟩ Yba.underlying28 hj
  | some (.inr (d, kb, L)) => exact Lib.run_neq_ptr_same w ⟨d.b, 0, none⟩ Yba.underlying28 hj

theorem exp_flat {t : Tree} {es : List Int} (hs : Sor (fun a b => a < b) (flatT t)) (hm : ∀ y, y ∈ flatT t ↔ y ∈ es) (hw : ∀ n ∈ es, -128 ≤ n ∧ n ≤ 127) : flatT t = expF (marks es) 256 := by
  refine sor_ext whole_lt _ _ hs (exp_sor _ _) (fun y => ?_)
  rw [hm, exp_mem]
  constructor
  · intro h
    have := hw y h
    refine ⟨(y + 128).toNat, by omega, ?_, by omega⟩
    unfold marks
    rw [decide_eq_true_eq, show ((y + 128).toNat : Int) - 128 = y by omega]
    exact h
  · rintro ⟨j, h1, h2, rfl⟩
    unfold marks at h2
    exact of_decide_eq_true h2

/-- The buffer beside a newer one. -/
theorem buf_range {A B : Nat} {w w' w'' : World} {b o c : Nat} {xs : List Int} (hr : w.rangeAt b o (ints xs)) (ht : w.there b o c) (hl : xs.length ≤ c) (hO : Only (fun _ => False) w w') (hO2 : Only (fun k => w.heap.size ≤ k) w' w'') : w''.rangeAt b o (ints xs) := by
  by_cases h : xs.length = 0
  · obtain rfl := List.eq_nil_of_length_eq_zero h
    exact fun j v hv => by simp [ints] at hv
  · have := there_lt ht (by omega)
    exact hO2.range (hO.range hr (fun h => h)) (by omega)

def falses (n : Nat) : List Value := List.replicate n (Value.bool false)
theorem falses_get (n j : Nat) (h : j < n) : (falses n)[j]? = some (.bool false) := by
  unfold falses; rw [List.getElem?_replicate, if_pos h]
theorem zero24 : Yba.zeroCells24 = (falses 256).toArray := by kernel_rfl
theorem fil_start (w : World) (es : List Int) : Fil w ((w.alloc (madeObj (.int .i64 0) es.length 3)).alloc (.cells Yba.zeroCells24 24)) w.heap.size (w.heap.size + 1) es 0 := by
  rw [zero24]
  generalize hA : falses 256 = F
  have z1 : (w.alloc (madeObj (.int .i64 0) es.length 3)).heap.size = w.heap.size + 1 := by simp
  have O2 : Only (fun _ => False) (w.alloc (madeObj (.int .i64 0) es.length 3)) ((w.alloc (madeObj (.int .i64 0) es.length 3)).alloc (.cells F.toArray 24)) := (Only.refl _ _).alloc _
  refine ⟨fun j v hv => by simp [ints] at hv, O2.there (made_there one23 es.length w) (fun h => h), fun j hj => ?_, fun j hj => ?_, ((Only.refl _ _).alloc _).alloc _, Nat.le_refl _, by omega, by omega, by simp; omega⟩
  · rw [← z1, cell_of_row _ _ _ _ _ _ (heap_alloc_new _ _), List.getElem?_toArray, ← hA, falses_get 256 j hj]
    simp [marks]
  · rw [← z1]; unfold World.frozen?; rw [heap_alloc_new]; simp

set_option maxHeartbeats 4000000 in
set_option maxRecDepth 100000 in
theorem copy_walk (av : Option Addr) (cap : Nat) (es : List Int) (w : World) (hes : es.length ≤ 1024) (hE : S8 w av es) (hwf : ∀ n ∈ es, -128 ≤ n ∧ n ≤ 127) :
    Calls Yba.prog 3 #[.slice av es.length cap] w fun r w' => r = .returned (.bool true) ∧ Only (fun _ => False) w w' := by
  have HE := hide hE
  have HW := hide hwf
  clear hE hwf
  have s1 := run_mkN one23 es.length (by omega)
  have e1 : ¬ (1024 : Int) < es.length := by omega
  go_enter Yba.func3, Yba.ntmps3
  go_wp2_with fail
  have HF0 := hide (fil_start w es)
  generalize ((w.alloc (madeObj (.int .i64 0) es.length 3)).alloc (.cells Yba.zeroCells24 24)) = w1 at HF0 ⊢
  obtain ⟨eb, heb⟩ : ∃ eb, eb = w.heap.size := ⟨_, rfl⟩
  obtain ⟨pb, hpb⟩ : ∃ pb, pb = w.heap.size + 1 := ⟨_, rfl⟩
  rw [← hpb, ← heb] at HF0
  rw [← hpb, ← heb]
  clear heb hpb s1
  go_loopw [5] (fun i wr => ∃ k : Nat, k ≤ es.length ∧ i = .int .i64 k ∧ Fil w wr eb pb es k) (fun i _ => es.length - (intOf i).toNat)
  case atStart => exact ⟨0, Nat.zero_le _, rfl, HF0.out⟩
  case round =>
    obtain ⟨k, hk, rfl, hF⟩ := hrel
    have HF := hide hF
    clear hF HF0
    by_cases hkl : k < es.length
    · obtain ⟨b, off, hav, hcs⟩ := HE.out
      have hav := hav (by omega)
      subst hav
      have hce := HF.out.only.cell (hcs k hkl) (fun h => h)
      have hin := HW.out (es.getD k 0) (by simp [List.getD_eq_getElem?_getD, hkl])
      obtain ⟨p, hp⟩ : ∃ p : Nat, (p : Int) = es.getD k 0 + 128 := ⟨(es.getD k 0 + 128).toNat, by omega⟩
      have HN := hide (fil_step HF.out hkl hin p hp)
      obtain ⟨u, hu⟩ := Option.isSome_iff_exists.1 (HF.out.room k hkl).1
      rw [Nat.zero_add] at hu
      have huf := (HF.out.room k hkl).2
      rw [Nat.zero_add] at huf
      have hpc := HF.out.pres p (by omega)
      have hpf := HF.out.free p (by omega)
      generalize marks (es.take k) p = m at hpc
      generalize es.getD k 0 = y at hce hin hp HN
      have i1 : (k : Int) < (es.length : Int) := by omega
      have p3 : IntKind.i64.wrap y = y := by simp only [IntKind.wrap_i64]; omega
      obtain rfl : p = (y + 128).toNat := by omega
      clear hp
      have i2 : y + 128 < 256 := by omega
      have i3 : 0 ≤ y + 128 := by omega
      have hne := HF.out.ne
      have hne' : pb ≠ eb := fun e => hne e.symm
      have hbl : b < w.heap.size := World.block_lt_of_cell? w ⟨b, off + k, none⟩ (hcs k hkl)
      have hbe : b ≠ eb := by have := HF.out.e1; omega
      have hbe' : eb ≠ b := fun e => hbe e.symm
      clear hcs
      go_wp2_with fail
      refine ⟨⟨k + 1, by omega, by simp, HN.out⟩, by simp [intOf]; omega⟩
    · obtain rfl : k = es.length := by omega
      have i1 : ¬ (es.length : Int) < (es.length : Int) := by omega
      clear hk hkl
      have HSo := hide (sortedOf_any (xs := es) (by have := HF.out.row; rwa [List.take_length] at this) HF.out.lt (Nat.le_refl _) (by unfold maxLen; omega) (by omega))
      have HPr : Hid (∀ j, j < 256 → wr.cell? ⟨pb, j, none⟩ = some (.bool (marks es j))) := by
        have := HF.out.pres; rwa [List.take_length] at this
      have HO := hide HF.out.only
      clear HF
      go_wp2_with (first
        | (go_at_call 9; refine HSo.out.mono ?_; rintro r w2 ⟨sb, h', t, rfl, hI⟩; have HI := hide hI; clear hI HSo)
        | fail)
      obtain ⟨g, hg, hh⟩ := HI.out.st.own
      obtain ⟨c0, c1, c2, c3, c4, c5, f2, f3, f4, f5⟩ := hg
      have k1 := (hh h' rfl).c1
      have hlsb : sb < w2.heap.size := World.block_lt_of_cell? w2 ⟨sb, 0, none⟩ c0
      have hlh : h' < w2.heap.size := World.block_lt_of_cell? w2 ⟨h', 1, none⟩ k1
      clear hh
      have q28 := neq28 t
      have HFE : Hid (flatT t = expF (marks es) 256) := exp_flat HI.out.st.sor HI.out.mem HW.out
      have hF5 : (flatT t).length ≤ 5000 := by have := HI.out.len; omega
      generalize hrt : rootT t = rt at c2 q28
      have HRT := hide hrt
      clear hrt
      have HPr2 : Hid (∀ j, j < 256 → w2.cell? ⟨pb, j, none⟩ = some (.bool (marks es j))) := fun j hj => HI.out.only.cell (HPr.out j hj) (fun h => h)
      clear HPr
      go_wp2_with (first
        | (go_at_call 10; refine (nodes_held sb h' rt g _ c2 c4 c5 k1).mono ?_; rintro r w3 ⟨rfl, n3, rfl⟩)
        | (go_at_call 11; refine (aexpect_any pb (marks es) _ (by intro j hj; simpa using HPr2.out j hj)).mono ?_; rintro r w4 ⟨v4, rfl, hB4, hO4⟩; have HB4 := hide hB4; have HO4 := hide hO4; clear hB4 hO4)
        | fail)
      obtain ⟨g4, o4, c4', rfl, hr4, ht4, hl4, hm4, hg4⟩ := HB4.out
      have HR4 := hide hr4
      have HT4 := hide ht4
      clear hr4 ht4 HB4 hm4
      have HOb : Hid (Only (fun _ => False) w2 (w4.alloc (Obj.cells #[] 3))) := (((Only.refl (fun _ => False) w2).drewN n3).trans HO4.out (fun _ h => h.elim)).alloc _
      have HO45 : Hid (Only (fun _ => False) w4 (w4.alloc (Obj.cells #[] 3))) := (Only.refl _ _).alloc _
      have hsz4 : w2.heap.size ≤ w4.heap.size := HO4.out.size
      have HB5 : Hid (Buf w4.heap.size (w4.alloc (Obj.cells #[] 3)) (.slice (some ⟨w4.heap.size, 0, none⟩) 0 0) []) := ⟨w4.heap.size, 0, 0, rfl, fun j v hv => by simp [ints] at hv, fun j hj => by omega, Nat.le_refl _, by unfold maxLen; omega, Nat.le_refl _⟩
      have hB5 : w4.heap.size ≤ (w4.alloc (Obj.cells #[] 3)).heap.size := by simp
      generalize (w4.alloc (Obj.cells #[] 3)) = w5 at HOb HB5 hB5 HO45 ⊢
      have HTok := hide (HI.out.st.ok.kept HOb.out (fun _ _ h => h))
      have HWk := hide (awalkT w4.heap.size t _ w5 HTok.out (fun k hk => by have := foot_lt HI.out.st.ok hk; omega) HB5.out hB5 hF5)
      rw [HRT.out] at HWk
      refine HWk.out.mono ?_
      rintro r w6 ⟨v6, rfl, ⟨g6, o6, c6, rfl, hr6, ht6, hl6, hm6, hg6⟩, hO6⟩
      have O26 : Only (fun k => w4.heap.size ≤ k) w2 w6 := (HOb.out.mono (G := fun k => w4.heap.size ≤ k) (fun _ _ h => h.elim)).trans hO6 (fun k h => .inl h)
      have HEq := hide (equal_at g6 o6 c6 g4 o4 c4' (flatT t) (expF (marks es) 256) w6 hr6 (buf_range (A := 0) (B := 0) HR4.out HT4.out hl4 HO45.out hO6) (by omega) (by have := exp_len (marks es) 256; omega) HFE.out)
      have hns : ¬ w4.heap.size ≤ sb := by omega
      have hnh : ¬ w4.heap.size ≤ h' := by omega
      have e0 : w6.cell? ⟨sb, 0, none⟩ = some (.func (.func 16) #[] #[]) := O26.cell c0 hns
      have e1 : w6.cell? ⟨sb, 1, none⟩ = some (.func (.func 31) #[] #[]) := O26.cell c1 hns
      have e2 := O26.cell c2 hns
      have e3 := O26.cell c3 hns
      have e4 := O26.cell c4 hns
      have e5 := O26.cell c5 hns
      have m1 := O26.cell k1 hnh
      have HOw : Hid (Only (fun _ => False) w w6) := (HO.out.trans HI.out.only (fun _ h => h.elim)).trans O26 (fun k h => .inr (by have := HO.out.size; have := HI.out.only.size; omega))
      have hlt6 : w2.heap.size ≤ w6.heap.size := O26.size
      have hEl := HFE.out
      generalize expF (marks es) 256 = E at HEq hEl
      have hfl : (flatT t).length = E.length := by rw [hEl]
      rw [hfl] at HEq e3 ⊢
      clear hEl hfl hr6 ht6 hl6 hm6 hg6 hO6 O26 HFE HWk HTok HB5 HO45 HOb HR4 HT4 hl4 HO4 HPr2 HI HO c0 c1 c2 c3 c4 c5 k1 f2 f3 f4 f5 hB5 hF5 HRT
      go_wp2_with (first
        | (go_at_call 13; refine HEq.out.mono ?_; rintro r w7 ⟨rfl, q, rfl⟩; have HO7 : Hid (Only (fun _ => False) w6 (w6.drewN q)) := (Only.refl _ _).drewN q; generalize (w6.drewN q) = w7 at HO7 ⊢; have p0 := HO7.out.cell e0 (fun h => h); have p1 := HO7.out.cell e1 (fun h => h); have p2 := HO7.out.cell e2 (fun h => h); have p3 := HO7.out.cell e3 (fun h => h); have p4 := HO7.out.cell e4 (fun h => h); have p5 := HO7.out.cell e5 (fun h => h); have pm := HO7.out.cell m1 (fun h => h); clear e0 e1 e2 e3 e4 e5 m1)
        | (go_at_call 14; refine (len_any sb _ _ p3).mono ?_; rintro r w8 ⟨rfl, rfl⟩)
        | fail)
      have hO9 : Hid (Only (fun _ => False) w8 (w8.alloc (Obj.cells #[Value.func (Fn.func 16) #[] #[], Value.func (Fn.func 31) #[] #[], Value.pointer rt, Value.int .i64 E.length, Value.int .u64 g, Value.pointer (some ⟨h', 0, none⟩)] 38))) := (Only.refl _ _).alloc _
      have hcv : ∀ j, (w8.alloc (Obj.cells #[Value.func (Fn.func 16) #[] #[], Value.func (Fn.func 31) #[] #[], Value.pointer rt, Value.int .i64 E.length, Value.int .u64 g, Value.pointer (some ⟨h', 0, none⟩)] 38)).cell? ⟨w8.heap.size, j, none⟩ = (#[Value.func (Fn.func 16) #[] #[], Value.func (Fn.func 31) #[] #[], Value.pointer rt, Value.int .i64 E.length, Value.int .u64 g, Value.pointer (some ⟨h', 0, none⟩)] : Array Value)[j]? := fun j => cell_of_row _ _ _ _ _ _ (heap_alloc_new w8 _)
      have v2 := hcv 2
      have v4 := hcv 4
      have v5 := hcv 5
      simp only [List.getElem?_toArray, List.getElem?_cons_zero, List.getElem?_cons_succ] at v2 v4 v5
      clear hcv
      generalize (w8.alloc (Obj.cells #[Value.func (Fn.func 16) #[] #[], Value.func (Fn.func 31) #[] #[], Value.pointer rt, Value.int .i64 E.length, Value.int .u64 g, Value.pointer (some ⟨h', 0, none⟩)] 38)) = w9 at hO9 v2 v4 v5 ⊢
      have vm := hO9.out.cell pm (fun h => h)
      have vs := hO9.out.cell p2 (fun h => h)
      clear p0 p1 p2 p3 p4 p5 pm
      go_region_with (first
        | (go_at_call 10; refine (nodes_held w8.heap.size h' rt g _ (by simpa using v2) (by simpa using v4) (by simpa using v5) (by simpa using vm)).mono ?_; rintro r w' ⟨rfl, n, rfl⟩)
        | fail)
      all_goals
        go_wp2
        go_ret
        exact ⟨rfl, (HOw.out.trans (HO7.out.trans hO9.out (fun _ h => h.elim)) (fun _ h => h.elim)).drewN _⟩
end Go.Proofs.Ybulkcgwo.T
