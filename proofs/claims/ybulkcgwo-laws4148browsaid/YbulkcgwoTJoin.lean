import Derived.Test.YbulkcgwoTDelI
import Derived.Test.YbulkcgwoTTree
namespace Go.Proofs.Ybulkcgwo.T
open Go.RowKit
set_option linter.unusedVariables false
set_option linter.unusedSimpArgs false

theorem srcOf {w : World} {b o : Nat} {cs : List Value} (h : w.rangeAt b o cs) : ∀ j u, cs[j]? = some u → w.cell? ((⟨b, o, none⟩ : Addr).add j) = some u := by
  intro j u hj
  rw [Addr.add_lit]; exact h j u hj
theorem app_node2 {w : World} {b eb eo cap eb1 eo1 cap1 : Nat} {cells : List Value} {w1 : World} {v1 v0 : Value} (hA : App w eb eo cap cells eb1 eo1 cap1 w1)
    (hc : w.cell? ⟨b, 1, none⟩ = some v1) (hf : w.frozen? ⟨b, 1, none⟩ = false) (h0 : w.cell? ⟨b, 0, none⟩ = some v0) (hap : eb = b → 2 ≤ eo) :
    w1.cell? ⟨b, 1, none⟩ = some v1 ∧ w1.cell? ⟨b, 0, none⟩ = some v0 ∧ w1.frozen? ⟨b, 1, none⟩ = false ∧ (eb1 = b → 2 ≤ eo1) := by
  have hb := World.block_lt_of_cell? w _ hc
  refine ⟨?_, ?_, ?_, ?_⟩
  · rw [hA.out b 1 hb (fun h => by have := hap h.symm; omega)]; exact hc
  · rw [hA.out b 0 hb (fun h => by have := hap h.symm; omega)]; exact h0
  · rw [hA.fz b 1 hb]; exact hf
  · intro h
    rcases hA.place with ⟨h1, h2, _⟩ | ⟨h1, _⟩
    · rw [h2]; exact hap (h1 ▸ h)
    · simp only at hb; omega

/-- What the two appends leave. -/
def JL (w : World) (lb leb : Nat) (ys : List Int) (w3 : World) (m : Nd) : Prop := m.b = lb ∧ m.xs = ys ∧ (m.eb = leb ∨ w.heap.size ≤ m.eb) ∧ EOK w3 m ∧ w3.cell? ⟨lb, 0, none⟩ = some (.pointer none) ∧ Only (fun k => k = lb ∨ k = leb) w w3
theorem jl_stored {w w1 w2 : World} {ob : Obj} {q lb leb leo lcap eb1 eo1 cap1 eb2 eo2 cap2 : Nat} {lx rx : List Int} {s : Int} {v1 : Value} (hA : App ((w.drewN q).alloc ob) leb leo lcap (ints lx ++ [.int .i64 s]) eb1 eo1 cap1 w1) (hA2 : App w1 eb1 eo1 cap1 (ints lx ++ [.int .i64 s] ++ ints rx) eb2 eo2 cap2 w2)
    (m1 : w2.cell? ⟨lb, 1, none⟩ = some v1) (m0 : w2.cell? ⟨lb, 0, none⟩ = some (.pointer none)) (mf : w2.frozen? ⟨lb, 1, none⟩ = false) (map : eb2 = lb → 2 ≤ eo2) :
    JL w lb leb (lx ++ s :: rx) (w2.setCell ⟨lb, 1, none⟩ (.slice (some ⟨eb2, eo2, none⟩) (lx.length + 1 + rx.length) cap2)) ⟨lb, eb2, eo2, cap2, lx ++ s :: rx⟩ := by
  have hO0 : Only (fun k => k = lb ∨ k = leb) w ((w.drewN q).alloc ob) := ((Only.refl _ w).drewN q).alloc _
  have hsz := hO0.size
  have hsz1 := hA.only.size
  have hp1 : eb1 = leb ∨ w.heap.size ≤ eb1 := hA.place.elim (fun h => .inl h.1) (fun h => .inr (by have := h.1; omega))
  have hp2 : eb2 = leb ∨ w.heap.size ≤ eb2 := by
    rcases hA2.place with h | h
    · rw [h.1]; exact hp1
    · exact .inr (by have := h.1; omega)
  have hO1 := hO0.trans hA.only (fun k h => .inl (.inr h))
  have hO2 := hO1.trans hA2.only (fun k h => by rcases hp1 with e | e; exact .inl (.inr (by rw [h]; exact e)); exact .inr (by rw [h]; exact e))
  have hcells : ints lx ++ [.int .i64 s] ++ ints rx = ints (lx ++ s :: rx) := by simp [ints]
  have hlen : (lx ++ s :: rx).length = lx.length + 1 + rx.length := by simp; omega
  have hle := hA2.le
  have hr := hA2.row
  rw [hcells] at hr hle
  rw [ints_length, hlen] at hle
  obtain ⟨u1, u0, uf, ur, ut, uap, uO⟩ := upd_stored (n := lx.length + 1 + rx.length) hr hA2.room m1 m0 mf map hO2
  refine ⟨rfl, rfl, hp2, ⟨?_, uf, ?_, hA2.max, ur, ut, map, ?_⟩, u0, uO⟩
  · simp only; rw [hlen]; exact u1
  · simp only; rw [hlen]; exact hle
  · simp only; omega

/-- What join leaves. -/
def TwoJoin (d : Nd) (kb : Nat) (L1 : List Nd) (l r : Nd) (L2 : List Nd) (w : World) (w' : World) : Prop :=
  ∃ (d' m : Nd), d'.b = d.b ∧ d'.eb = d.eb ∧ Two w' d' kb (L1 ++ ([m] ++ L2)) ∧ m.b = l.b ∧ m.xs = l.xs ++ (d.xs.getD L1.length 0 :: r.xs) ∧ d'.xs = del L1.length d.xs ∧
    (∀ k, twoFoot d' kb (L1 ++ ([m] ++ L2)) k → twoFoot d kb (L1 ++ ([l, r] ++ L2)) k ∨ w.heap.size ≤ k) ∧ Only (twoFoot d kb (L1 ++ ([l, r] ++ L2))) w w'

theorem join_end {d : Nd} {kb : Nat} {L1 : List Nd} {l r : Nd} {L2 : List Nd} {w w3 w4 : World} {m : Nd} (hT : Two w d kb (L1 ++ ([l, r] ++ L2))) (hJ : JL w l.b l.eb (l.xs ++ (d.xs.getD L1.length 0 :: r.xs)) w3 m) (hi : L1.length < d.xs.length)
    (hE : EOK w4 ⟨d.b, d.eb, d.eo, d.cap, del L1.length d.xs⟩) (hO : Only (fun k => k = d.b ∨ k = d.eb ∨ k = kb) w3 w4) (hK : KOK w4 d.b kb (kdel (L1.length + 1) ((L1 ++ ([l, r] ++ L2)).map Nd.b))) : TwoJoin d kb L1 l r L2 w w4 := by
  obtain ⟨j1, j2, j3, j4, j5, j6⟩ := hJ
  have hlm : l ∈ L1 ++ ([l, r] ++ L2) := by simp
  have hs := hT.sep l hlm
  have hdl := hT.E.lt
  have hkl := hT.K.lt
  have hN1 : blkOf [l, r] l.b := ⟨l, by simp, .inl rfl⟩
  have hN2 : blkOf [l, r] l.eb := ⟨l, by simp, .inr rfl⟩
  have hsz := j6.size
  have f1 : ¬ (m.b = d.b ∨ m.b = d.eb ∨ m.b = kb) := by rw [j1]; omega
  have f2 : ¬ (m.eb = d.b ∨ m.eb = d.eb ∨ m.eb = kb) := by
    rcases j3 with e | e
    · rw [e]; omega
    · omega
  have hM : ∀ n ∈ [m], (blkOf [l, r] n.b ∨ w.heap.size ≤ n.b) ∧ (blkOf [l, r] n.eb ∨ w.heap.size ≤ n.eb) := by
    intro n hn
    have : n = m := by simpa using hn
    subst this
    exact ⟨.inl (by rw [j1]; exact hN1), j3.elim (fun e => .inl (by rw [e]; exact hN2)) .inr⟩
  have hO2 : Only (fun k => k = d.b ∨ k = d.eb ∨ k = kb ∨ blkOf [l, r] k) w w4 :=
    (j6.mono (G := fun k => k = d.b ∨ k = d.eb ∨ k = kb ∨ blkOf [l, r] k) (fun k _ h => .inr (.inr (.inr (h.elim (fun e => e ▸ hN1) (fun e => e ▸ hN2)))))).trans hO (fun k h => .inl (by rcases h with h | h | h; exact .inl h; exact .inr (.inl h); exact .inr (.inr (.inl h))))
  have hmap : kdel (L1.length + 1) ((L1 ++ ([l, r] ++ L2)).map Nd.b) = (L1 ++ ([m] ++ L2)).map Nd.b := by
    rw [show (L1 ++ ([m] ++ L2)).map Nd.b = (L1.map Nd.b ++ [l.b]) ++ L2.map Nd.b by simp [j1]]
    have e : (L1 ++ ([l, r] ++ L2)).map Nd.b = (L1.map Nd.b ++ [l.b]) ++ (r.b :: L2.map Nd.b) := by simp
    have hl1 : (L1.map Nd.b ++ [l.b]).length = L1.length + 1 := by simp
    unfold kdel
    rw [e, ← hl1, List.take_left, ← List.drop_drop, List.drop_left]
    rfl
  refine ⟨⟨d.b, d.eb, d.eo, d.cap, del L1.length d.xs⟩, m, rfl, rfl, two_replace hT rfl (.inl rfl) hE (hmap ▸ hK) ?_ hO2 ?_ (by simp) ?_, j1, j2, rfl, foot_replace rfl (.inl rfl) hM, hO2.mono ?_⟩
  · have := hT.len
    simp only
    rw [del_length hi]
    simp at this ⊢; omega
  · intro n hn
    have hnm : n = m := by simpa using hn
    have := hM n hn
    subst hnm
    exact ⟨j4.kept hO f1 f2, hO.cell (by rw [j1]; exact j5) f1, this⟩
  · intro n hn
    have hnm : n = m := by simpa using hn
    subst hnm
    exact ⟨fun h => f1 (.inr (.inl h)), fun h => f2 (.inr (.inl h))⟩
  · rintro k _ (h | h | h | ⟨n, hn, h⟩)
    · exact .inl h
    · exact .inr (.inl h)
    · exact .inr (.inr (.inl h))
    · exact .inr (.inr (.inr ⟨n, by simp at hn ⊢; rcases hn with e | e <;> simp [e], h⟩))

theorem kid_at {w : World} {b kb : Nat} {L1 L2 : List Nd} {n : Nd} (hK : KOK w b kb ((L1 ++ (n :: L2)).map Nd.b)) : w.cell? ⟨kb, L1.length, none⟩ = some (.pointer (some ⟨n.b, 0, none⟩)) := by
  have := hK.row L1.length (ptr n.b) (by simp [ptrs])
  rw [Nat.zero_add] at this; exact this

set_option maxHeartbeats 2000000 in
set_option maxRecDepth 100000 in
theorem join_two (d : Nd) (kb : Nat) (L1 : List Nd) (l r : Nd) (L2 : List Nd) (w : World) (hT : Two w d kb (L1 ++ ([l, r] ++ L2))) (hl : d.xs.length ≤ 125) (hll : l.xs.length ≤ 1000) (hlr : r.xs.length ≤ 1000) :
    Calls Yba.prog 74 #[.pointer (some ⟨d.b, 0, none⟩), .int .i64 L1.length] w fun e w' => e = .returned (.tuple #[]) ∧ TwoJoin d kb L1 l r L2 w w' := by
  have HT := hide hT
  have hi : L1.length < d.xs.length := by have := hT.len; simp at this; omega
  have hlm : l ∈ L1 ++ ([l, r] ++ L2) := by simp
  have hrm : r ∈ L1 ++ ([l, r] ++ L2) := by simp
  have ck0 := kid_at (L1 := L1) (n := l) (L2 := r :: L2) hT.K
  have ck1 := kid_at (L1 := L1 ++ [l]) (n := r) (L2 := L2) (by simpa using hT.K)
  rw [List.length_append, List.length_singleton] at ck1
  obtain ⟨⟨lc, lf, llen, lmax, lrow, lroom, lap, lpos⟩, l0⟩ := hT.leaf l hlm
  obtain ⟨⟨rc, rf, rlen, rmax, rrow, rroom, rap, rpos⟩, r0⟩ := hT.leaf r hrm
  have dc := hT.E.cell
  have d0 := hT.K.cell
  have hx := range_ints hT.E.row hi
  obtain ⟨ls1, ls2, ls3, ls4, ls5, ls6⟩ := hT.sep l hlm
  obtain ⟨rs1, rs2, rs3, rs4, rs5, rs6⟩ := hT.sep r hrm
  have hlr' : l.b ≠ r.b ∧ l.b ≠ r.eb ∧ l.eb ≠ r.b ∧ l.eb ≠ r.eb := by
    have h1 := (List.pairwise_append.1 (List.pairwise_append.1 hT.dis).2.1).1
    exact (List.pairwise_cons.1 h1).1 r (by simp)
  obtain ⟨lr1, lr2, lr3, lr4⟩ := hlr'
  have hlb := World.block_lt_of_cell? w _ lc
  have hrb := World.block_lt_of_cell? w _ rc
  have hdb := World.block_lt_of_cell? w _ dc
  have hkb := hT.K.lt.2
  have hde := hT.E.lt.2
  have hre := there_lt rroom rpos
  have hle := there_lt lroom lpos
  have HLR := hide lrow
  have HLT := hide lroom
  have HRR := hide rrow
  have HLi := hide hi
  clear hT lrow lroom rrow rroom
  obtain ⟨b, eb, eo, cap, xs⟩ := d
  obtain ⟨lb, leb, leo, lcap, lx⟩ := l
  obtain ⟨rb, reb, reo, rcap, rx⟩ := r
  simp only at *
  generalize hs : xs.getD L1.length 0 = s at hx
  have HS := hide hs
  clear hs
  generalize hiN : L1.length = i at *
  have HIN := hide hiN
  clear hiN
  have j0 : (i : Int) < 127 := by omega
  have j1 : (i : Int) + 1 < 127 := by omega
  have j2 : (i : Int) < (xs.length : Int) := by omega
  have hw1 : IntKind.i64.wrap ((i : Int) + 1) = (i : Int) + 1 := by simp only [IntKind.wrap_i64]; omega
  go_enter Yba.func74, Yba.ntmps74
  go_wp2
  go_quiet (fail)
  go_wp2
  have hrap : ¬ (rb = leb) := fun e => lr3 e.symm
  have hrae : ¬ (reb = leb) := fun e => lr4 e.symm
  have rq := (((Only.refl (fun _ => False) w).drewN (nq + 1)).alloc (Obj.cells #[Value.int .i64 s] 3)).cell rc (fun h => h)
  have lq := (((Only.refl (fun _ => False) w).drewN (nq + 1)).alloc (Obj.cells #[Value.int .i64 s] 3)).cell lc (fun h => h)
  go_region_law ((first
    | (refine step_app one23 rfl (.tmp 57) (.tmp 65) rfl leb leo lx.length lcap (ints lx) rfl (ints_length _) ((((Only.refl (fun _ => False) w).drewN (nq + 1)).alloc _).range HLR.out (fun h => h)) ((((Only.refl (fun _ => False) w).drewN (nq + 1)).alloc _).there HLT.out (fun h => h)) llen lmax ⟨w.heap.size, 0, none⟩ 1 1 [.int .i64 s] rfl rfl (new_one _ _ _) (one_one _) (by omega) ?_; intro eb1 eo1 cap1 w1 hA; obtain ⟨k1, k0, kf, kap⟩ := app_node2 hA ((((Only.refl (fun _ => False) w).drewN (nq + 1)).alloc _).cell lc (fun h => h)) (((((Only.refl (fun _ => False) w).drewN (nq + 1)).alloc _).frozen hlb (fun h => h)).trans lf) ((((Only.refl (fun _ => False) w).drewN (nq + 1)).alloc _).cell l0 (fun h => h)) lap; have g1 := hA.only.cell ((((Only.refl (fun _ => False) w).drewN (nq + 1)).alloc _).cell rc (fun h => h)) hrap; have HA := hide hA; clear hA)
    | (refine step_app one23 rfl (.tmp 66) (.tmp 70) rfl eb1 eo1 (lx.length + 1) cap1 (ints lx ++ [.int .i64 s]) rfl (by rw [List.length_append, ints_length]; rfl) HA.out.row HA.out.room (by have := HA.out.le; rw [List.length_append, ints_length] at this; exact this) HA.out.max ⟨reb, reo, none⟩ rx.length rcap (ints rx) rfl (ints_length _) (srcOf (HA.out.only.range ((((Only.refl (fun _ => False) w).drewN (nq + 1)).alloc _).range HRR.out (fun h => h)) hrae)) (ints_one _) (by omega) ?_; intro eb2 eo2 cap2 w2 hA2; obtain ⟨m1, m0, mf, map⟩ := app_node2 hA2 k1 kf k0 kap; have HA2 := hide hA2; clear hA2)
    | fail))
  all_goals
    have HJ := hide (jl_stored HA.out HA2.out m1 m0 mf map)
    generalize (w2.setCell ⟨lb, 1, none⟩ (.slice (some ⟨eb2, eo2, none⟩) (lx.length + 1 + rx.length) cap2)) = w3 at HJ ⊢
    obtain ⟨m, hm⟩ : ∃ m : Nd, m = ⟨lb, eb2, eo2, cap2, lx ++ s :: rx⟩ := ⟨_, rfl⟩
    rw [← hm] at HJ
    clear m1 m0 mf map HA HA2 k1 k0 kf kap g1 rq lq hm
    have hO3 := HJ.out.2.2.2.2.2
    have HE3 := hide (HT.out.E.kept hO3 (fun h => h.elim (fun e => ls1 e.symm) (fun e => ls4 e.symm)) (fun h => h.elim (fun e => ls2 e.symm) (fun e => ls5 e.symm)))
    have HK3 := hide (HT.out.K.kept hO3 (fun h => h.elim (fun e => ls1 e.symm) (fun e => ls4 e.symm)) (fun h => h.elim (fun e => ls3 e.symm) (fun e => ls6 e.symm)))
    have HRM := hide (removeAt_inner _ kb _ i w3 HE3.out HK3.out HT.out.kb1 HT.out.kb2 (by rw [List.length_map]; exact HT.out.len) hi hl)
    clear hO3 dc d0 lc lf l0 rc rf r0 ck0 ck1 hx
    go_wp2_with (first
      | (go_at_call 57; refine HRM.out.mono ?_; rintro e w4 ⟨rfl, hE4, hO4, hK4⟩; have HE4 := hide hE4; have HO4 := hide hO4; have HK4 := hide hK4; clear hE4 hO4 hK4)
      | fail)
    go_end0
    have hin := HIN.out
    subst hin
    have hss := HS.out
    subst hss
    exact ⟨rfl, join_end HT.out HJ.out hi HE4.out HO4.out HK4.out⟩
end Go.Proofs.Ybulkcgwo.T
