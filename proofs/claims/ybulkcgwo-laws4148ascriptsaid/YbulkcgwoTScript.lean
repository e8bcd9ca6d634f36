import Derived.Test.YbulkcgwoTTakeW
import Derived.Test.YbulkcgwoTCopy
namespace Go.Proofs.Ybulkcgwo.T
open Go.RowKit
set_option linter.unusedVariables false
set_option linter.unusedSimpArgs false

/-- What is known of a slice of operations that came in. -/
def S2 (w : World) (av : Option Addr) (es : List (Int × Int)) : Prop := ∃ b off, (0 < es.length → av = some ⟨b, off, none⟩) ∧ ∀ j, j < es.length → w.cell? ⟨b, off + j * 2, none⟩ = some (.int .u8 (es.getD j (0, 0)).1) ∧ w.cell? ⟨b, off + j * 2 + 1, none⟩ = some (.int .i8 (es.getD j (0, 0)).2)

def setQ (Q : Nat → Bool) (p : Nat) (v : Bool) (j : Nat) : Bool := if j = p then v else Q j
/-- The set and the table of marks. -/
structure Sc (w wr : World) (cb sb pb : Nat) (Q : Nat → Bool) (hb : Option Nat) (t : Tree) : Prop where
  st : St (ordB cb) wr sb hb t
  flat : flatT t = expF Q 256
  pres : ∀ j, j < 256 → wr.cell? ⟨pb, j, none⟩ = some (.bool (Q j))
  free : ∀ j, j < 256 → wr.frozen? ⟨pb, j, none⟩ = false
  only : Only (fun _ => False) w wr
  sbn : w.heap.size ≤ sb
  hbn : ∀ h, hb = some h → w.heap.size ≤ h
  ftn : ∀ k, footT t k → w.heap.size ≤ k
  pn : w.heap.size ≤ pb
  p1 : pb ≠ sb
  p2 : hb ≠ some pb
  p3 : ¬ footT t pb
  p4 : pb ≠ cb

theorem Sc.plt {w wr : World} {cb sb pb : Nat} {Q : Nat → Bool} {hb : Option Nat} {t : Tree} (h : Sc w wr cb sb pb Q hb t) : pb < wr.heap.size := World.block_lt_of_cell? wr ⟨pb, 0, none⟩ (h.pres 0 (by omega))
theorem Sc.small {w wr : World} {cb sb pb : Nat} {Q : Nat → Bool} {hb : Option Nat} {t : Tree} (h : Sc w wr cb sb pb Q hb t) : (flatT t).length ≤ 256 := by rw [h.flat]; exact exp_len Q 256

theorem exp_of {Q : Nat → Bool} {xs : List Int} (hs : Sor (fun a b => a < b) xs) (hm : ∀ y, y ∈ xs ↔ ∃ j, j < 256 ∧ Q j = true ∧ y = (j : Int) - 128) : xs = expF Q 256 :=
  sor_ext whole_lt _ _ hs (exp_sor _ _) (fun y => by rw [hm, exp_mem])

/-- The step at a change of the set: the marks are in another block. -/
theorem sc_next {w wr w1 : World} {cb sb pb : Nat} {Q : Nat → Bool} {hb hb' : Option Nat} {t t' : Tree} (h : Sc w wr cb sb pb Q hb t) (hS : St (ordB cb) w1 sb hb' t') (hO : Only (setFoot (ordB cb) sb hb t) wr w1) (hh : ∀ k, hb' = some k → hb = some k ∨ wr.heap.size ≤ k) (hf : ∀ k, footT t' k → footT t k ∨ wr.heap.size ≤ k)
    (p : Nat) (v : Bool) (hp : p < 256) (hfl : flatT t' = expF (setQ Q p v) 256) : Sc w (w1.setCell ⟨pb, p, none⟩ (.bool v)) cb sb pb (setQ Q p v) hb' t' ∧ w1.cell? ⟨pb, p, none⟩ = some (.bool (Q p)) ∧ w1.frozen? ⟨pb, p, none⟩ = false := by
  have hpl := h.plt
  have hpF : ¬ setFoot (ordB cb) sb hb t pb := by
    rintro (e | e | e | e)
    · exact h.p1 e
    · exact h.p2 e
    · exact h.p3 e
    · exact e
  have hsz := h.only.size
  have hpc : ∀ j, j < 256 → w1.cell? ⟨pb, j, none⟩ = some (.bool (Q j)) := fun j hj => hO.cell (h.pres j hj) hpF
  have hpf : ∀ j, j < 256 → w1.frozen? ⟨pb, j, none⟩ = false := fun j hj => (hO.frozen (p := ⟨pb, j, none⟩) hpl hpF).trans (h.free j hj)
  have hO2 : Only (fun k => k = pb) w1 (w1.setCell ⟨pb, p, none⟩ (.bool v)) := (Only.refl (fun k => k = pb) w1).setCell (.inl rfl) _
  have h2 : hb' ≠ some pb := fun e => by
    rcases hh pb e with e | e
    · exact h.p2 e
    · omega
  have h3 : ¬ footT t' pb := fun e => by
    rcases hf pb e with e | e
    · exact h.p3 e
    · omega
  refine ⟨⟨hS.kept (ordB_good cb) hO2 (fun e => h.p1 e.symm) (fun k hk e => h2 (by rw [hk, e])) (fun k hk e => h3 (e ▸ hk)) (fun k hk e => h.p4 (by rw [← e]; exact hk)), hfl, fun j hj => ?_, fun j hj => ?_, ?_, h.sbn, fun k hk => ?_, fun k hk => ?_, h.pn, h.p1, h2, h3, h.p4⟩, hpc p hp, hpf p hp⟩
  · unfold setQ
    by_cases e : j = p
    · subst e; rw [if_pos rfl]; exact World.cell?_setCell_same _ _ _ (hpc j hj)
    · rw [if_neg e, World.cell?_setCell_other _ _ _ _ (fun e2 => e (by injection e2 with _ h2 _; exact h2.symm))]; exact hpc j hj
  · rw [World.frozen?_setCell]; exact hpf j hj
  · refine (h.only.trans hO (fun i hi => .inr ?_)).trans hO2 (fun i hi => .inr (by rw [hi]; exact h.pn))
    rcases hi with e | e | e | e
    · rw [e]; exact h.sbn
    · exact h.hbn i e
    · exact h.ftn i e
    · exact False.elim e
  · rcases hh k hk with e | e
    · exact h.hbn k e
    · omega
  · rcases hf k hk with e | e
    · exact h.ftn k e
    · omega

theorem sc_add {w wr : World} {cb sb pb : Nat} {Q : Nat → Bool} {hb : Option Nat} {t : Tree} (h : Sc w wr cb sb pb Q hb t) (x : Int) (p : Nat) (hx : (p : Int) = x + 128) (hp : p < 256) :
    Calls Yba.prog 17 #[.pointer (some ⟨sb, 0, none⟩), .int .i64 x] wr fun r w1 => (∃ v, r = .returned v) ∧ ∃ hb' t', Sc w (w1.setCell ⟨pb, p, none⟩ (.bool true)) cb sb pb (setQ Q p true) hb' t' ∧ w1.cell? ⟨pb, p, none⟩ = some (.bool (Q p)) ∧ w1.frozen? ⟨pb, p, none⟩ = false := by
  refine (add_any (ordB cb) (ordB_good cb) sb hb t x wr h.st (by have := h.small; omega)).mono ?_
  rintro r w1 ⟨hv, h', t', hS, hA⟩
  refine ⟨hv, some h', t', sc_next h hS hA.only (fun k hk => by cases hk; exact hA.hold) hA.foot p true hp (exp_of hS.sor (fun y => ?_))⟩
  rw [hA.mem, h.flat, exp_mem]
  unfold setQ
  constructor
  · rintro (rfl | ⟨j, h1, h2, h3⟩)
    · exact ⟨p, hp, by simp, by omega⟩
    · exact ⟨j, h1, by split <;> simp_all, h3⟩
  · rintro ⟨j, h1, h2, h3⟩
    by_cases e : j = p
    · subst e; exact .inl (by omega)
    · rw [if_neg e] at h2; exact .inr ⟨j, h1, h2, h3⟩

theorem sc_take {w wr : World} {cb sb pb : Nat} {Q : Nat → Bool} {hb : Option Nat} {t : Tree} (h : Sc w wr cb sb pb Q hb t) (x : Int) (p : Nat) (hx : (p : Int) = x + 128) (hp : p < 256) :
    Calls Yba.prog 18 #[.pointer (some ⟨sb, 0, none⟩), .int .i64 x] wr fun r w1 => (∃ v, r = .returned v) ∧ ∃ hb' t', Sc w (w1.setCell ⟨pb, p, none⟩ (.bool false)) cb sb pb (setQ Q p false) hb' t' ∧ w1.cell? ⟨pb, p, none⟩ = some (.bool (Q p)) ∧ w1.frozen? ⟨pb, p, none⟩ = false := by
  refine (take_any (ordB cb) (ordB_good cb) sb hb t x wr h.st (by have := h.small; omega)).mono ?_
  rintro r w1 ⟨hv, hb', t', hS, hA⟩
  refine ⟨hv, hb', t', sc_next h hS hA.only hA.hold hA.foot p false hp (exp_of hS.sor (fun y => ?_))⟩
  rw [hA.mem, h.flat, exp_mem]
  unfold setQ
  constructor
  · rintro ⟨⟨j, h1, h2, h3⟩, h4⟩
    refine ⟨j, h1, ?_, h3⟩
    rw [if_neg (fun e => h4 (by subst e; omega))]; exact h2
  · rintro ⟨j, h1, h2, h3⟩
    by_cases e : j = p
    · rw [if_pos e] at h2; cases h2
    · rw [if_neg e] at h2; exact ⟨⟨j, h1, h2, h3⟩, fun e2 => e (by omega)⟩

theorem sc_start (w w1 : World) (cb sb : Nat) (hS : St (ordB cb) w1 sb none none) (hO : Only (fun _ => False) w w1) (hsb : w.heap.size ≤ sb) (hcb : cb < w1.heap.size) : Sc w (w1.alloc (.cells Yba.zeroCells24 24)) cb sb w1.heap.size (fun _ => false) none none := by
  rw [zero24]
  generalize hA : falses 256 = F
  have hsl := World.block_lt_of_cell? w1 _ hS.own.choose_spec.1.c0
  simp only at hsl
  have O2 : Only (fun _ => False) w1 (w1.alloc (.cells F.toArray 24)) := (Only.refl _ _).alloc _
  have hz : ∀ n, expF (fun _ => false) n = [] := by
    intro n
    induction n with
    | zero => rfl
    | succ n ih => rw [expF, ih]; simp
  refine ⟨hS.kept (ordB_good cb) O2 (fun h => h) (fun _ _ h => h) (fun _ _ h => h) (fun _ _ h => h), by rw [hz]; rfl, fun j hj => ?_, fun j hj => ?_, hO.trans O2 (fun _ h => h.elim), hsb, fun h hh => (by cases hh), fun k hk => False.elim hk, hO.size, by omega, by simp, fun h => h, by omega⟩
  · rw [cell_of_row _ _ _ _ _ _ (heap_alloc_new _ _), List.getElem?_toArray, ← hA, falses_get 256 j hj]
  · unfold World.frozen?; rw [heap_alloc_new]; simp

theorem nodes_any (o : Ords) (sb : Nat) (hb : Option Nat) (t : Tree) (w : World) (hS : St o w sb hb t) :
    Calls Yba.prog 10 #[.pointer (some ⟨sb, 0, none⟩)] w fun r w' => r = .returned (.pointer (rootT t)) ∧ ∃ n, w' = w.drewN n := by
  obtain ⟨g, hg, hh⟩ := hS.own
  cases hb with
  | none => exact nodes_nil sb (rootT t) w hg.c2 hg.c5
  | some h => exact nodes_held sb h (rootT t) g w hg.c2 hg.c4 hg.c5 (hh h rfl).c1

set_option maxHeartbeats 4000000 in
set_option maxRecDepth 100000 in
theorem script_walk (av : Option Addr) (cap : Nat) (es : List (Int × Int)) (w : World) (hes : es.length ≤ 1024) (hE : S2 w av es) (hwf : ∀ n ∈ es, (0 ≤ n.1 ∧ n.1 ≤ 255) ∧ -128 ≤ n.2 ∧ n.2 ≤ 127) :
    Calls Yba.prog 4 #[.slice av es.length cap] w fun r w' => r = .returned (.bool true) ∧ Only (fun _ => False) w w' := by
  have HE := hide hE
  have HW := hide hwf
  clear hE hwf
  have e1 : ¬ (1024 : Int) < es.length := by omega
  go_enter Yba.func4, Yba.ntmps4
  go_wp2_with (first
    | (go_at_call 15; refine (newB w).mono ?_; rintro r w1 ⟨rfl, hS, hO⟩; have HS := hide hS; have HO := hide hO; clear hS hO)
    | fail)
  have hsl := World.block_lt_of_cell? w1 _ HS.out.own.choose_spec.1.c0
  simp only at hsl
  have HC0 := hide (sc_start w w1 w.heap.size (w.heap.size + 1) HS.out HO.out (by omega) (by omega))
  generalize (w1.alloc (.cells Yba.zeroCells24 24)) = w2 at HC0 ⊢
  obtain ⟨cb, hcb⟩ : ∃ cb, cb = w.heap.size := ⟨_, rfl⟩
  obtain ⟨sb, hsb⟩ : ∃ sb, sb = w.heap.size + 1 := ⟨_, rfl⟩
  obtain ⟨pb, hpb⟩ : ∃ pb, pb = w1.heap.size := ⟨_, rfl⟩
  rw [← hsb, ← hpb, ← hcb] at HC0
  rw [← hsb, ← hpb]
  clear hcb hsb hpb hsl HS HO
  go_loopw [5] (fun i wr => ∃ k : Nat, k ≤ es.length ∧ i = .int .i64 k ∧ ∃ Q hb t, Sc w wr cb sb pb Q hb t) (fun i _ => es.length - (intOf i).toNat)
  case atStart => exact ⟨0, Nat.zero_le _, rfl, _, _, _, HC0.out⟩
  case round =>
    obtain ⟨k, hk, rfl, Q, hb, t, hC⟩ := hrel
    have HC := hide hC
    clear hC HC0
    by_cases hkl : k < es.length
    · obtain ⟨b, off, hav, hcs⟩ := HE.out
      have hav := hav (by omega)
      subst hav
      have hc1 := HC.out.only.cell (hcs k hkl).1 (fun h => h)
      have hc2 := HC.out.only.cell (hcs k hkl).2 (fun h => h)
      have hin := HW.out (es.getD k (0, 0)) (by simp [List.getD_eq_getElem?_getD, hkl])
      generalize es.getD k (0, 0) = pr at hc1 hc2 hin
      obtain ⟨a, x⟩ := pr
      simp only at hc1 hc2 hin
      obtain ⟨hin1, hin2⟩ := hin
      have HA := hide (sc_add HC.out x (x + 128).toNat (by omega) (by omega))
      have HB := hide (sc_take HC.out x (x + 128).toNat (by omega) (by omega))
      have i1 : (k : Int) < (es.length : Int) := by omega
      have p3 : IntKind.i64.wrap x = x := by simp only [IntKind.wrap_i64]; omega
      have i2 : x + 128 < 256 := by omega
      have i3 : 0 ≤ x + 128 := by omega
      have p4 : IntKind.i64.wrap (x + 128) = x + 128 := by simp only [IntKind.wrap_i64]; omega
      clear hcs
      by_cases hpar : a % 2 = 0
      · go_wp2_with (first
          | (go_at_call 17; refine HA.out.mono ?_; rintro r w5 ⟨⟨v, rfl⟩, hb', t', hSc, hpc, hpf⟩; have HSc := hide hSc; clear hSc HA HB)
          | fail)
        refine ⟨⟨k + 1, by omega, by simp, _, _, _, HSc.out⟩, by simp [intOf]; omega⟩
      · go_wp2_with (first
          | (go_at_call 18; refine HB.out.mono ?_; rintro r w5 ⟨⟨v, rfl⟩, hb', t', hSc, hpc, hpf⟩; have HSc := hide hSc; clear hSc HA HB)
          | fail)
        refine ⟨⟨k + 1, by omega, by simp, _, _, _, HSc.out⟩, by simp [intOf]; omega⟩
    · obtain rfl : k = es.length := by omega
      have i1 : ¬ (es.length : Int) < (es.length : Int) := by omega
      clear hk hkl
      have HOw := hide HC.out.only
      have HND := hide (nodes_any (ordB cb) sb hb t wr HC.out.st)
      obtain ⟨g, hg, -⟩ := HC.out.st.own
      have c2 := hg.c2
      clear hg
      have q28 := neq28 t
      have hF5 : (flatT t).length ≤ 5000 := by have := HC.out.small; omega
      generalize hrt : rootT t = rt at c2 q28 HND
      have HRT := hide hrt
      clear hrt
      go_wp2_with (first
        | (go_at_call 10; refine HND.out.mono ?_; rintro r w3 ⟨rfl, n3, rfl⟩; clear HND)
        | fail)
      have HO3 : Hid (Only (fun _ => False) wr ((wr.drewN n3).alloc (Obj.cells #[] 3))) := ((Only.refl (fun _ => False) wr).drewN n3).alloc _
      have HB5 : Hid (Buf wr.heap.size ((wr.drewN n3).alloc (Obj.cells #[] 3)) (.slice (some ⟨wr.heap.size, 0, none⟩) 0 0) []) := ⟨wr.heap.size, 0, 0, rfl, fun j v hv => by simp [ints] at hv, fun j hj => by omega, Nat.le_refl _, by unfold maxLen; omega, Nat.le_refl _⟩
      have hB5 : wr.heap.size ≤ ((wr.drewN n3).alloc (Obj.cells #[] 3)).heap.size := HO3.out.size
      generalize ((wr.drewN n3).alloc (Obj.cells #[] 3)) = w4 at HO3 HB5 hB5 ⊢
      have HWk := hide (awalkT wr.heap.size t _ w4 (HC.out.st.ok.kept HO3.out (fun _ _ h => h)) (fun k hk => foot_lt HC.out.st.ok hk) HB5.out hB5 hF5)
      rw [HRT.out] at HWk
      refine HWk.out.mono ?_
      rintro r w5 ⟨v5, rfl, ⟨g5, o5, c5, rfl, hr5, ht5, hl5, hm5, hg5⟩, hO5⟩
      have O35 : Only (fun k => wr.heap.size ≤ k) wr w5 := (HO3.out.mono (G := fun k => wr.heap.size ≤ k) (fun _ _ h => h.elim)).trans hO5 (fun k h => .inl h)
      have HPr : Hid (∀ j, j < 256 → w5.cell? ⟨pb, j, none⟩ = some (.bool (Q j))) := fun j hj => O35.cell (HC.out.pres j hj) (by have := HC.out.plt; simp only; omega)
      have HR5 := hide hr5
      have HOw5 : Hid (Only (fun _ => False) w w5) := HOw.out.trans O35 (fun k h => .inr (by have := HOw.out.size; omega))
      have HFE := hide HC.out.flat
      clear hr5 ht5 hl5 hm5 hg5 hO5 O35 HWk HB5 hB5 HO3 c2 q28 HRT HC
      go_wp2_with (first
        | (go_at_call 11; refine (aexpect_any pb Q _ HPr.out).mono ?_; rintro r w6 ⟨v6, rfl, ⟨g6, o6, c6, rfl, hr6, ht6, hl6, hm6, hg6⟩, hO6⟩; have HEq := hide (equal_at g5 o5 c5 g6 o6 c6 (flatT t) (expF Q 256) w6 (hO6.range HR5.out (fun h => h)) hr6 (by omega) (by have := exp_len Q 256; omega) HFE.out); have HO6 := hide hO6; clear hr6 ht6 hl6 hm6 hg6 hO6)
        | (go_at_call 13; refine HEq.out.mono ?_; rintro r w7 ⟨rfl, q, rfl⟩)
        | fail)
      go_ret
      exact ⟨rfl, (HOw5.out.trans HO6.out (fun _ h => h.elim)).drewN _⟩
end Go.Proofs.Ybulkcgwo.T
