import Derived.Test.YbulkcgwoTLay
namespace Go.Proofs.Ybulkcgwo.T
open Go.RowKit
set_option linter.unusedVariables false
set_option linter.unusedSimpArgs false

def Rem (k E M i R : Nat) : Prop := R + 1 = (k - i) * (E + 1) + (M - i)
theorem rem_start {k E M N : Nat} (h : N + 1 = k + (k * E + M)) : Rem k E M 0 N := by
  unfold Rem
  rw [Nat.sub_zero, Nat.sub_zero, Nat.mul_add, Nat.mul_one]; omega
theorem rem_last {k E M i R z : Nat} (h : Rem k E M i R) (hi : i + 1 = k) (hM : M < k) (hz : z = E + (if i < M then 1 else 0)) : z = R := by
  unfold Rem at h
  rw [show k - i = 1 by omega, Nat.one_mul] at h
  rw [if_neg (by omega)] at hz
  omega
theorem rem_next {k E M i R z : Nat} (h : Rem k E M i R) (hi : i + 1 < k) (hz : z = E + (if i < M then 1 else 0)) : z < R ∧ Rem k E M (i + 1) (R - z - 1) := by
  unfold Rem at *
  obtain ⟨m, hm⟩ : ∃ m, k - (i + 1) = m := ⟨_, rfl⟩
  have hq : E + 1 ≤ m * (E + 1) := by
    have := Nat.mul_le_mul_right (E + 1) (show 1 ≤ m by omega)
    omega
  rw [show k - i = m + 1 by omega, Nat.succ_mul] at h
  rw [hm]
  generalize m * (E + 1) = Q at h hq ⊢
  split at hz <;> omega
theorem rem_le {k E M i R z : Nat} (h : Rem k E M i R) (hi : i < k) (hM : M < k) (hz : z = E + (if i < M then 1 else 0)) : z ≤ R := by
  by_cases e : i + 1 = k
  · exact Nat.le_of_eq (rem_last h e hM hz)
  · exact Nat.le_of_lt (rem_next h (by omega) hz).1

theorem rem_pos {k E M i R : Nat} (h : Rem k E M i R) (hi : i < k) : E ≤ R := by
  unfold Rem at h
  have := Nat.mul_le_mul_right (E + 1) (show 1 ≤ k - i by omega)
  omega
theorem drop_split {xs : List Int} {p z : Nat} (h : p + z < xs.length) : (xs.drop p).take z ++ [xs.getD (p + z) 0] ++ xs.drop (p + z + 1) = xs.drop p := by
  have e1 : xs.getD (p + z) 0 = xs[p + z] := by simp [List.getD_eq_getElem?_getD, h]
  rw [e1, List.append_assoc, List.singleton_append, ← List.drop_eq_getElem_cons h, ← List.drop_drop, List.take_append_drop]
theorem lay_mid {K : List (List Int)} {ss xs : List Int} {p z : Nat} (h : preF K ss ++ xs.drop p = xs) (hl : K.length = ss.length) (hp : p + z < xs.length) : preF (K ++ [(xs.drop p).take z]) (ss ++ [xs.getD (p + z) 0]) ++ xs.drop (p + z + 1) = xs := by
  rw [pre_snoc _ _ _ _ hl]
  have := drop_split hp
  rw [List.append_assoc, this, h]
theorem lay_fin {K : List (List Int)} {ss xs : List Int} {p z : Nat} (h : preF K ss ++ xs.drop p = xs) (hl : K.length = ss.length) (hz : z = xs.length - p) : flatF (K ++ [(xs.drop p).take z]) ss = xs := by
  have := flat_zoom K ss ((xs.drop p).take z) [] [] hl
  rw [List.append_nil] at this
  rw [this, List.take_of_length_le (by rw [List.length_drop]; omega)]
  simpa [postF] using h

/-- How the elements part. -/
theorem lay_parts {N k : Nat} (hk : k = (N + 126) / 126) (h1 : 125 < N) (h2 : N ≤ 5000) :
    ∃ E M : Nat, ((N : Int) - k + 1) / k = (E : Int) ∧ ((N : Int) - k + 1) % k = (M : Int) ∧ M < k ∧ N + 1 = k + (k * E + M) ∧ 62 ≤ E ∧ (∀ i, E + (if i < M then 1 else 0) ≤ 125) := by
  have hkp : 0 < k := by omega
  obtain ⟨T, hT⟩ : ∃ T, T = N - k + 1 := ⟨_, rfl⟩
  have hTi : (N : Int) - k + 1 = (T : Int) := by omega
  have hdm := Nat.div_add_mod T k
  have hlt := Nat.mod_lt T hkp
  have h62 : 62 ≤ T / k := (Nat.le_div_iff_mul_le hkp).2 (by omega)
  have h125 : T ≤ 125 * k := by omega
  refine ⟨T / k, T % k, by rw [hTi]; simp, by rw [hTi]; simp, hlt, by omega, h62, fun i => ?_⟩
  have hle : T / k ≤ 125 := Nat.div_le_of_le_mul (by rw [Nat.mul_comm]; exact h125)
  split
  · by_cases e : T / k = 125
    · rw [e, Nat.mul_comm] at hdm; omega
    · omega
  · omega

/-- Where the loop of lay stands. -/
structure LayI (w wr : World) (B rb eb eo cap k E M : Nat) (xs : List Int) (i : Nat) (v : Value) (L : List Nd) (ss : List Int) (nb no nc tb to tc : Nat) : Prop where
  st : LayS wr B rb nb no nc tb to tc L ss
  only : Only (fun k => B ≤ k) w wr
  sized : ∀ n ∈ L, 62 ≤ n.xs.length ∧ n.xs.length ≤ 125
  len : L.length = i
  mid : i < k → ∃ p, v = .slice (some ⟨eb, eo + p, none⟩) (xs.length - p) (cap - p) ∧ p ≤ xs.length ∧ Rem k E M i (xs.length - p) ∧ ss.length = i ∧ preF (L.map Nd.xs) ss ++ xs.drop p = xs
  fin : i = k → ss.length + 1 = k ∧ flatF (L.map Nd.xs) ss = xs

def LayV (w wr : World) (B rb eb eo cap k E M : Nat) (xs : List Int) (i : Nat) (v : Value) : Prop := ∃ L ss nb no nc tb to tc, LayI w wr B rb eb eo cap k E M xs i v L ss nb no nc tb to tc

set_option maxHeartbeats 4000000 in
set_option maxRecDepth 100000 in
theorem lay_any (B rb eb eo cap : Nat) (xs : List Int) (w : World) (hR : Row0 w rb) (hB : B ≤ rb) (hBw : B ≤ w.heap.size) (heb : eb < B) (hr : w.rangeAt eb eo (ints xs)) (hle : xs.length ≤ cap) (hcm : cap ≤ maxLen) (h1 : 125 < xs.length) (h2 : xs.length ≤ 5000) :
    Calls Yba.prog 86 #[.pointer (some ⟨rb, 0, none⟩), .slice (some ⟨eb, eo, none⟩) xs.length cap] w fun r w' => r = .returned (.tuple #[]) ∧ ∃ L ss nb no nc tb to tc, LayS w' B rb nb no nc tb to tc L ss ∧ (∀ n ∈ L, 62 ≤ n.xs.length ∧ n.xs.length ≤ 125) ∧ L.length = ss.length + 1 ∧ 2 ≤ L.length ∧ flatF (L.map Nd.xs) ss = xs ∧ Only (fun k => B ≤ k) w w' := by
  obtain ⟨k, hk⟩ : ∃ k, k = (xs.length + 126) / 126 := ⟨_, rfl⟩
  have hk1 : 2 ≤ k := by omega
  have hk2 : k ≤ 41 := by omega
  have hk0 : ¬ ((k : Int) = 0) := by omega
  obtain ⟨E, M, hE, hM, hMk, hN, h62, h125⟩ := lay_parts hk h1 h2
  have HE := hide hE
  have HM := hide hM
  have HN := hide hN
  have H125 := hide h125
  have HR := hide hr
  have HK : Hid (((xs.length : Int) + 125 + 1) / 126 = (k : Int)) := by show _ = _; omega
  have HRow := hide hR
  obtain ⟨c0, c1, c2, f0, f1, f2⟩ := hR
  have hrl : rb < w.heap.size := World.block_lt_of_cell? w _ c0
  clear hr hk hE hM hN h125
  have hcm2 := hcm
  unfold maxLen at hcm2
  have g1 := grow87 k w.drew (by omega) (by omega)
  have G1 := hide g1
  have hkm : IntKind.i64.wrap ((k : Int) - 1) = ((k - 1 : Nat) : Int) := by simp only [IntKind.wrap_i64]; omega
  clear g1
  go_enter Yba.func86, Yba.ntmps86
  go_wp2
  rw [HK.out]
  go_region
  rw [HE.out, HM.out]
  go_wp2_with (first
    | (go_at_call 93; refine G1.out.mono ?_; rintro r w1 ⟨nc, rfl, hG1⟩; have HG1 := hide hG1; have a0 := hG1.only.cell (by simpa using c0) (fun h => h); have a1 := hG1.only.cell (by simpa using c1) (fun h => h); have af := (hG1.only.frozen (p := ⟨rb, 0, none⟩) (by simpa using hrl) (fun h => h)).trans (by simpa using f0); have af1 := (hG1.only.frozen (p := ⟨rb, 1, none⟩) (by simpa using hrl) (fun h => h)).trans (by simpa using f1); clear hG1)
    | fail)
  refine (grow23 (k - 1) _ (by omega) (by omega)).mono ?_
  rintro r w3 ⟨tc, rfl, hG3⟩
  have HL0 := lay_start (⟨by simpa using c0, by simpa using c1, by simpa using c2, by simpa using f0, by simpa using f1, by simpa using f2⟩ : Row0 w.drew rb) HG1.out hG3
  have hzz : (w1.setCell ⟨rb, 0, none⟩ (.slice (some ⟨w.heap.size, 0, none⟩) 0 nc)).heap.size = w1.heap.size := by simp
  have e1 := hG3.only.cell (v := .slice none 0 0) (p := ⟨rb, 1, none⟩) (by rw [World.cell?_setCell_other _ _ _ _ (by simp)]; exact a1) (fun h => h)
  have ef : w3.frozen? ⟨rb, 1, none⟩ = false := by
    rw [hG3.only.frozen (p := ⟨rb, 1, none⟩) (by have := HG1.out.size; simp at this ⊢; omega) (fun h => h), World.frozen?_setCell]
    exact af1
  have hdz : w.drew.heap.size = w.heap.size := rfl
  rw [hdz] at HL0
  rw [hzz] at HL0 ⊢
  have hsz1 := HG1.out.size
  rw [hdz] at hsz1
  rw [hsz1] at HL0 ⊢
  have HL1 := hide HL0
  clear HL0 hG3 a0 a1 af af1 c0 c1 c2 f0 f1 hzz hdz
  go_wp2
  have HV0 : Hid (LayV w (w3.setCell ⟨rb, 1, none⟩ (.slice (some ⟨w.heap.size + 1, 0, none⟩) 0 tc)) B rb eb eo cap k E M xs 0 (.slice (some ⟨eb, eo, none⟩) xs.length cap)) := by
    refine ⟨[], [], w.heap.size, 0, nc, w.heap.size + 1, 0, tc, ⟨⟨HL1.out.1, HL1.out.2.2, hB, by omega, by omega, by simp, by simp, by simp, by simp⟩, ?_, by simp, rfl, fun _ => ⟨0, rfl, Nat.zero_le _, rem_start HN.out, rfl, by simp [preF]⟩, fun h => by omega⟩⟩
    exact (Only.refl (fun k => B ≤ k) w).drew.trans HL1.out.2.1 (fun i h => .inl (by rw [h]; exact hB))
  generalize (w3.setCell ⟨rb, 1, none⟩ (.slice (some ⟨w.heap.size + 1, 0, none⟩) 0 tc)) = w4 at HV0 ⊢
  clear HL1 hsz1 e1 ef
  go_loopw [50, 1] (fun a v wr => ∃ i : Nat, i ≤ k ∧ a = .int .i64 i ∧ LayV w wr B rb eb eo cap k E M xs i v) (fun a _ _ => k - (intOf a).toNat)
  case atStart => exact ⟨0, Nat.zero_le _, rfl, HV0.out⟩
  case round =>
    obtain ⟨i, hi, rfl, L, ss, nb, no, nc, tb, to, tc, hI⟩ := hrel
    have HI := hide hI
    clear hI HV0
    by_cases hik : i < k
    · obtain ⟨p, rfl, hp, hrem, hss, hpre⟩ := HI.out.mid hik
      have HP := hide hpre
      have HREM := hide hrem
      have HSS := hide hss
      have hs41 : ss.length ≤ 41 := by omega
      clear hpre hrem hss
      have i1 : (i : Int) < (k : Int) := by omega
      have hLl := HI.out.len
      have c0 := HI.out.st.rw.c0
      have c2 := HI.out.st.rw.c2
      have f0 := HI.out.st.rw.f0
      rw [List.length_map] at c0
      have hwl : rb < wr.heap.size := World.block_lt_of_cell? wr _ c0
      have hBr : B ≤ wr.heap.size := Nat.le_trans hBw HI.out.only.size
      have HXS := hide (HI.out.only.range HR.out (show ¬ B ≤ eb by omega))
      have HLl := hide hLl
      have hnl := HI.out.st.rw.nl
      have hnm := HI.out.st.rw.nm
      rw [List.length_map] at hnl
      clear hLl
      by_cases hiM : i < M
      · have i2 : (i : Int) < (M : Int) := by omega
        have HZ : Hid (E + 1 = E + (if i < M then 1 else 0)) := by rw [if_pos hiM]; rfl
        have hz125 := H125.out i
        rw [← HZ.out] at hz125
        have hzw : IntKind.i64.wrap ((E : Int) + 1) = ((E + 1 : Nat) : Int) := by simp only [IntKind.wrap_i64]; omega
        have hz62 : 62 ≤ E + 1 := by omega
        have hzR := rem_le HREM.out hik hMk HZ.out
        generalize E + 1 = z at hz125 hz62 hzw HZ hzR
        have s1 := fun (R : Nat) => run_cutTo one23 R 2 0 126 0 0 rfl (by omega)
        have s2 := run_cutTo one23 eb (eo + p) (xs.length - p) (cap - p) z (z : Int) rfl (by omega)
        have s3 := run_cut one23 (some ⟨eb, eo + p, none⟩) (xs.length - p) (cap - p) z (z : Int) rfl (by omega)
        have i3 : ¬ ((z : Int) < 0) := by omega
        go_wp2_with (first
          | (go_at_call 95; refine (leaf_new rb wr c2).mono ?_; rintro r w1 ⟨rfl, rfl⟩; have HF := hide (fresh_new wr); obtain ⟨R, hR⟩ : ∃ R, R = wr.heap.size := ⟨_, rfl⟩; rw [← hR] at HF ⊢; clear hR; generalize wr.alloc (newObj R) = w1 at HF ⊢; have q1 := HF.out.c1; have qf := HF.out.f1; have ql := HF.out.lt)
          | fail)
        have hys : ((xs.drop p).take z).length = z := by rw [List.length_take, List.length_drop]; omega
        have HYS := hide hys
        clear hys
        have HX1 := hide (HF.out.only.range HXS.out (fun h => h))
        go_region_law ((refine step_app one23 rfl (.tmp 71) (.tmp 74) rfl R 2 0 126 [] rfl rfl (fun j v hv => by simp at hv) ((World.there_drew _ _ _ _).2 HF.out.room) (by omega) (by unfold maxLen; omega) ⟨eb, eo + p, none⟩ z (cap - p) (ints ((xs.drop p).take z)) rfl ((ints_length _).trans HYS.out) (src_of (ints_take _ _ ▸ range_take (ints_drop _ _ ▸ range_drop ((World.rangeAt_drew _ _ _ _).2 HX1.out) p) z)) (ints_one _) (by omega) ?_; intro e2 o2 c2' w2 hA; have g1 := hA.keep (by simpa using q1) (fun _ => by omega); have g2 := hA.keepf (b' := R) (o' := 1) (by simpa using ql) (by simpa using qf)))
        all_goals
          have hw3 := hide (HF.out.fill w2 e2 o2 c2' ((xs.drop p).take z) z hA HYS.out.symm (by rw [HYS.out]; omega))
          generalize (w2.setCell ⟨R, 1, none⟩ (.slice (some ⟨e2, o2, none⟩) z c2')) = w3 at hw3 ⊢
          have b0 := hw3.out.2.2.2.cell c0 (fun h => h)
          have bf := (hw3.out.2.2.2.frozen (p := ⟨rb, 0, none⟩) hwl (fun h => h)).trans f0
          have hwl3 : rb < w3.heap.size := World.block_lt_of_cell? w3 _ b0
          have HR3 := hide (HI.out.st.rw.kept hw3.out.2.2.2 (fun h => h) (fun h => h) (fun h => h))
          have hRw := HF.out.eq
          have HRw := hide hRw
          clear hA g1 g2 q1 qf ql s1 s2 hRw
          have hL41 : L.length ≤ 41 := by have := HLl.out; omega
          by_cases hlast : i + 1 < k
          · have i4 : (i : Int) < ((k - 1 : Nat) : Int) := by omega
            have hzl := rem_next HREM.out hlast HZ.out
            have hzn := rem_pos hzl.2 hlast
            have HZL := hide hzl
            have hzlt : z < xs.length - p := hzl.1
            clear hzl
            rw [cutA_some (by omega)] at s3
            go_wp2_with (first
              | (at_builtin; refine wpList_app one87 rfl (.tmp 92) (.tmp 94) rfl nb no L.length nc (ptrs (L.map Nd.b)) rfl (by rw [ptrs_length, List.length_map]) (World.rangeAt_alloc HR3.out.nr _) (World.there_alloc HR3.out.nt _) hnl hnm ⟨w3.heap.size, 0, none⟩ 1 1 [.pointer (some ⟨R, 0, none⟩)] rfl rfl (new_one _ _ _) (by simp [Value.oneCell']) (by omega) ?_; intro nb1 no1 nc1 w5 hA5; obtain ⟨k0, kf⟩ := rw_app_n HR3.out ((Only.refl _ _).alloc _) hA5; have HA5 := hide hA5; clear hA5)
              | fail)
            have HL6 := hide (lay_push HI.out.st hBr hw3.out.2.2.2 hw3.out.1 hw3.out.2.1 (by show _ ≤ R; have := HRw.out; omega) hw3.out.2.2.1 HA5.out)
            rw [List.length_map] at HL6
            generalize (w5.setCell ⟨rb, 0, none⟩ (.slice (some ⟨nb1, no1, none⟩) (L.length + 1) nc1)) = w6 at HL6 ⊢
            have t1 := HL6.out.1.rw.c1
            have tf := HL6.out.1.rw.f1
            have tl := HL6.out.1.rw.el
            have tm := HL6.out.1.rw.em
            have hB6 : B ≤ w6.heap.size := Nat.le_trans hBr HL6.out.2.size
            have hwl6 : rb < w6.heap.size := World.block_lt_of_cell? w6 _ t1
            have hxk : w6.cell? ⟨eb, eo + p + z, none⟩ = some (.int .i64 (xs.getD (p + z) 0)) := by
              have h6 := HL6.out.2.cell (range_at HXS.out (k := p + z) (by omega)) (show ¬ B ≤ eb by omega)
              rw [← Nat.add_assoc] at h6
              exact h6
            have HMID := hide (lay_mid (z := z) HP.out (by simp; have := HLl.out; have := HSS.out; omega) (by omega))
            generalize xs.getD (p + z) 0 = y at hxk HMID
            clear k0 kf b0 bf HA5 c0 f0 c2
            obtain ⟨m, hm⟩ : ∃ m, m = xs.length - p - z := ⟨_, rfl⟩
            obtain ⟨mc, hmc⟩ : ∃ mc, mc = cap - p - z := ⟨_, rfl⟩
            rw [← hm, ← hmc]
            have hm1 : 1 < m := by omega
            have hmc1 : m ≤ mc := by omega
            have HMM := hide hm
            have HMC := hide hmc
            clear hm hmc s3
            have i5 : 0 < m := by omega
            have s4 := run_cut one23 (some ⟨eb, eo + p + z, none⟩) m mc 1 1 rfl (by omega)
            rw [cutA_some (by omega)] at s4
            go_region_law ((refine step_app one23 rfl (.tmp 109) (.tmp 113) rfl tb to ss.length tc (ints ss) rfl (ints_length _) (World.rangeAt_alloc ((World.rangeAt_drew _ _ _ _).2 HL6.out.1.rw.er) _) (World.there_alloc ((World.there_drew _ _ _ _).2 HL6.out.1.rw.et) _) tl tm ⟨w6.heap.size, 0, none⟩ 1 1 [.int .i64 y] rfl rfl (new_one w6.drew _ _) (one_one _) (by omega) ?_; intro tb1 to1 tc1 w7 hA7; obtain ⟨k0, kf⟩ := rw_app_s HL6.out.1.rw (((Only.refl _ _).drew).alloc _) hA7; have HA7 := hide hA7; clear hA7))
            all_goals
              have HL8 := hide (lay_sep HL6.out.1 hB6 HA7.out (((Only.refl _ _).drew).alloc _))
              generalize (w7.setCell ⟨rb, 1, none⟩ (.slice (some ⟨tb1, to1, none⟩) (ss.length + 1) tc1)) = w8 at HL8 ⊢
              clear k0 kf t1 tf tl tm hxk HA7
              go_wp2
              have hmE := HMM.out
              have hmcE := HMC.out
              refine ⟨?_, by simp [intOf]; omega⟩
              first
                | refine ⟨i + 1, by omega, by simp, _, _, _, _, _, _, _, _, ⟨HL8.out.1, ?_, ?_, ?_, fun _ => ⟨p + z + 1, ?_, by omega, ?_, ?_, ?_⟩, fun h => by omega⟩⟩
                | refine ⟨_, _, _, _, _, _, ⟨i + 1, by omega, by simp, _, _, _, _, _, _, _, _, ⟨HL8.out.1, ?_, ?_, ?_, fun _ => ⟨p + z + 1, ?_, by omega, ?_, ?_, ?_⟩, fun h => by omega⟩⟩, rfl, rfl, rfl, rfl, rfl, rfl⟩
              · exact (HI.out.only.trans HL6.out.2 (fun i h => .inl h)).trans HL8.out.2 (fun i h => .inl h)
              · intro m hm
                rcases List.mem_append.1 hm with hm | hm
                · exact HI.out.sized m hm
                · simp only [List.mem_singleton] at hm
                  subst hm
                  show 62 ≤ ((xs.drop p).take z).length ∧ ((xs.drop p).take z).length ≤ 125
                  rw [HYS.out]; omega
              · rw [List.length_append, HLl.out]; rfl
              · simp only [Value.slice.injEq, Option.some.injEq, Addr.mk.injEq]; refine ⟨⟨trivial, by omega, trivial⟩, by omega, by omega⟩
              · have := HZL.out.2
                rw [show xs.length - (p + z + 1) = xs.length - p - z - 1 by omega]; exact this
              · rw [List.length_append, HSS.out]; rfl
              · have := HMID.out
                rw [List.map_append]; exact this
          · exact absurd hlast (by omega)
      · have i2 : ¬ (i : Int) < (M : Int) := by omega
        have HZ : Hid (E = E + (if i < M then 1 else 0)) := by rw [if_neg hiM]; rfl
        have hz125 := H125.out i
        rw [← HZ.out] at hz125
        have hz62 : 62 ≤ E := by omega
        have hzR := rem_le HREM.out hik hMk HZ.out
        obtain ⟨z, hz⟩ : ∃ z, z = E := ⟨_, rfl⟩
        have HZ2 : Hid (z = E + (if i < M then 1 else 0)) := by rw [if_neg hiM, hz]; rfl
        rw [← hz] at hz125 hz62 hzR
        clear HZ
        have HZ := HZ2
        clear HZ2
        subst hz
        have s1 := fun (R : Nat) => run_cutTo one23 R 2 0 126 0 0 rfl (by omega)
        have s2 := run_cutTo one23 eb (eo + p) (xs.length - p) (cap - p) z (z : Int) rfl (by omega)
        have s3 := run_cut one23 (some ⟨eb, eo + p, none⟩) (xs.length - p) (cap - p) z (z : Int) rfl (by omega)
        have i3 : ¬ ((z : Int) < 0) := by omega
        go_wp2_with (first
          | (go_at_call 95; refine (leaf_new rb wr c2).mono ?_; rintro r w1 ⟨rfl, rfl⟩; have HF := hide (fresh_new wr); obtain ⟨R, hR⟩ : ∃ R, R = wr.heap.size := ⟨_, rfl⟩; rw [← hR] at HF ⊢; clear hR; generalize wr.alloc (newObj R) = w1 at HF ⊢; have q1 := HF.out.c1; have qf := HF.out.f1; have ql := HF.out.lt)
          | fail)
        have hys : ((xs.drop p).take z).length = z := by rw [List.length_take, List.length_drop]; omega
        have HYS := hide hys
        clear hys
        have HX1 := hide (HF.out.only.range HXS.out (fun h => h))
        go_region_law ((refine step_app one23 rfl (.tmp 71) (.tmp 74) rfl R 2 0 126 [] rfl rfl (fun j v hv => by simp at hv) ((World.there_drew _ _ _ _).2 HF.out.room) (by omega) (by unfold maxLen; omega) ⟨eb, eo + p, none⟩ z (cap - p) (ints ((xs.drop p).take z)) rfl ((ints_length _).trans HYS.out) (src_of (ints_take _ _ ▸ range_take (ints_drop _ _ ▸ range_drop ((World.rangeAt_drew _ _ _ _).2 HX1.out) p) z)) (ints_one _) (by omega) ?_; intro e2 o2 c2' w2 hA; have g1 := hA.keep (by simpa using q1) (fun _ => by omega); have g2 := hA.keepf (b' := R) (o' := 1) (by simpa using ql) (by simpa using qf)))
        all_goals
          have hw3 := hide (HF.out.fill w2 e2 o2 c2' ((xs.drop p).take z) z hA HYS.out.symm (by rw [HYS.out]; omega))
          generalize (w2.setCell ⟨R, 1, none⟩ (.slice (some ⟨e2, o2, none⟩) z c2')) = w3 at hw3 ⊢
          have b0 := hw3.out.2.2.2.cell c0 (fun h => h)
          have bf := (hw3.out.2.2.2.frozen (p := ⟨rb, 0, none⟩) hwl (fun h => h)).trans f0
          have hwl3 : rb < w3.heap.size := World.block_lt_of_cell? w3 _ b0
          have HR3 := hide (HI.out.st.rw.kept hw3.out.2.2.2 (fun h => h) (fun h => h) (fun h => h))
          have hRw := HF.out.eq
          have HRw := hide hRw
          clear hA g1 g2 q1 qf ql s1 s2 hRw
          have hL41 : L.length ≤ 41 := by have := HLl.out; omega
          by_cases hlast : i + 1 < k
          · have i4 : (i : Int) < ((k - 1 : Nat) : Int) := by omega
            have hzl := rem_next HREM.out hlast HZ.out
            have hzn := rem_pos hzl.2 hlast
            have HZL := hide hzl
            have hzlt : z < xs.length - p := hzl.1
            clear hzl
            rw [cutA_some (by omega)] at s3
            go_wp2_with (first
              | (at_builtin; refine wpList_app one87 rfl (.tmp 92) (.tmp 94) rfl nb no L.length nc (ptrs (L.map Nd.b)) rfl (by rw [ptrs_length, List.length_map]) (World.rangeAt_alloc HR3.out.nr _) (World.there_alloc HR3.out.nt _) hnl hnm ⟨w3.heap.size, 0, none⟩ 1 1 [.pointer (some ⟨R, 0, none⟩)] rfl rfl (new_one _ _ _) (by simp [Value.oneCell']) (by omega) ?_; intro nb1 no1 nc1 w5 hA5; obtain ⟨k0, kf⟩ := rw_app_n HR3.out ((Only.refl _ _).alloc _) hA5; have HA5 := hide hA5; clear hA5)
              | fail)
            have HL6 := hide (lay_push HI.out.st hBr hw3.out.2.2.2 hw3.out.1 hw3.out.2.1 (by show _ ≤ R; have := HRw.out; omega) hw3.out.2.2.1 HA5.out)
            rw [List.length_map] at HL6
            generalize (w5.setCell ⟨rb, 0, none⟩ (.slice (some ⟨nb1, no1, none⟩) (L.length + 1) nc1)) = w6 at HL6 ⊢
            have t1 := HL6.out.1.rw.c1
            have tf := HL6.out.1.rw.f1
            have tl := HL6.out.1.rw.el
            have tm := HL6.out.1.rw.em
            have hB6 : B ≤ w6.heap.size := Nat.le_trans hBr HL6.out.2.size
            have hwl6 : rb < w6.heap.size := World.block_lt_of_cell? w6 _ t1
            have hxk : w6.cell? ⟨eb, eo + p + z, none⟩ = some (.int .i64 (xs.getD (p + z) 0)) := by
              have h6 := HL6.out.2.cell (range_at HXS.out (k := p + z) (by omega)) (show ¬ B ≤ eb by omega)
              rw [← Nat.add_assoc] at h6
              exact h6
            have HMID := hide (lay_mid (z := z) HP.out (by simp; have := HLl.out; have := HSS.out; omega) (by omega))
            generalize xs.getD (p + z) 0 = y at hxk HMID
            clear k0 kf b0 bf HA5 c0 f0 c2
            obtain ⟨m, hm⟩ : ∃ m, m = xs.length - p - z := ⟨_, rfl⟩
            obtain ⟨mc, hmc⟩ : ∃ mc, mc = cap - p - z := ⟨_, rfl⟩
            rw [← hm, ← hmc]
            have hm1 : 1 < m := by omega
            have hmc1 : m ≤ mc := by omega
            have HMM := hide hm
            have HMC := hide hmc
            clear hm hmc s3
            have i5 : 0 < m := by omega
            have s4 := run_cut one23 (some ⟨eb, eo + p + z, none⟩) m mc 1 1 rfl (by omega)
            rw [cutA_some (by omega)] at s4
            go_region_law ((refine step_app one23 rfl (.tmp 109) (.tmp 113) rfl tb to ss.length tc (ints ss) rfl (ints_length _) (World.rangeAt_alloc ((World.rangeAt_drew _ _ _ _).2 HL6.out.1.rw.er) _) (World.there_alloc ((World.there_drew _ _ _ _).2 HL6.out.1.rw.et) _) tl tm ⟨w6.heap.size, 0, none⟩ 1 1 [.int .i64 y] rfl rfl (new_one w6.drew _ _) (one_one _) (by omega) ?_; intro tb1 to1 tc1 w7 hA7; obtain ⟨k0, kf⟩ := rw_app_s HL6.out.1.rw (((Only.refl _ _).drew).alloc _) hA7; have HA7 := hide hA7; clear hA7))
            all_goals
              have HL8 := hide (lay_sep HL6.out.1 hB6 HA7.out (((Only.refl _ _).drew).alloc _))
              generalize (w7.setCell ⟨rb, 1, none⟩ (.slice (some ⟨tb1, to1, none⟩) (ss.length + 1) tc1)) = w8 at HL8 ⊢
              clear k0 kf t1 tf tl tm hxk HA7
              go_wp2
              have hmE := HMM.out
              have hmcE := HMC.out
              refine ⟨?_, by simp [intOf]; omega⟩
              first
                | refine ⟨i + 1, by omega, by simp, _, _, _, _, _, _, _, _, ⟨HL8.out.1, ?_, ?_, ?_, fun _ => ⟨p + z + 1, ?_, by omega, ?_, ?_, ?_⟩, fun h => by omega⟩⟩
                | refine ⟨_, _, _, _, _, _, ⟨i + 1, by omega, by simp, _, _, _, _, _, _, _, _, ⟨HL8.out.1, ?_, ?_, ?_, fun _ => ⟨p + z + 1, ?_, by omega, ?_, ?_, ?_⟩, fun h => by omega⟩⟩, rfl, rfl, rfl, rfl, rfl, rfl⟩
              · exact (HI.out.only.trans HL6.out.2 (fun i h => .inl h)).trans HL8.out.2 (fun i h => .inl h)
              · intro m hm
                rcases List.mem_append.1 hm with hm | hm
                · exact HI.out.sized m hm
                · simp only [List.mem_singleton] at hm
                  subst hm
                  show 62 ≤ ((xs.drop p).take z).length ∧ ((xs.drop p).take z).length ≤ 125
                  rw [HYS.out]; omega
              · rw [List.length_append, HLl.out]; rfl
              · simp only [Value.slice.injEq, Option.some.injEq, Addr.mk.injEq]; refine ⟨⟨trivial, by omega, trivial⟩, by omega, by omega⟩
              · have := HZL.out.2
                rw [show xs.length - (p + z + 1) = xs.length - p - z - 1 by omega]; exact this
              · rw [List.length_append, HSS.out]; rfl
              · have := HMID.out
                rw [List.map_append]; exact this
          · have i4 : ¬ (i : Int) < ((k - 1 : Nat) : Int) := by omega
            have HZL := hide (rem_last HREM.out (by omega) hMk HZ.out)
            go_wp2_with (first
              | (at_builtin; refine wpList_app one87 rfl (.tmp 92) (.tmp 94) rfl nb no L.length nc (ptrs (L.map Nd.b)) rfl (by rw [ptrs_length, List.length_map]) (World.rangeAt_alloc HR3.out.nr _) (World.there_alloc HR3.out.nt _) hnl hnm ⟨w3.heap.size, 0, none⟩ 1 1 [.pointer (some ⟨R, 0, none⟩)] rfl rfl (new_one _ _ _) (by simp [Value.oneCell']) (by omega) ?_; intro nb1 no1 nc1 w5 hA5; obtain ⟨k0, kf⟩ := rw_app_n HR3.out ((Only.refl _ _).alloc _) hA5; have HA5 := hide hA5; clear hA5)
              | fail)
            all_goals
              have HL6 := hide (lay_push HI.out.st hBr hw3.out.2.2.2 hw3.out.1 hw3.out.2.1 (by show _ ≤ R; have := HRw.out; omega) hw3.out.2.2.1 HA5.out)
              rw [List.length_map] at HL6
              have HFIN := hide (lay_fin (z := z) HP.out (by simp; have := HLl.out; have := HSS.out; omega) HZL.out)
              refine ⟨?_, by simp [intOf]; omega⟩
              first
                | refine ⟨i + 1, by omega, by simp, _, _, _, _, _, _, _, _, ⟨HL6.out.1, HI.out.only.trans HL6.out.2 (fun i h => .inl h), ?_, ?_, fun h => by omega, fun _ => ⟨by have := HSS.out; omega, ?_⟩⟩⟩
                | refine ⟨_, _, _, _, _, _, ⟨i + 1, by omega, by simp, _, _, _, _, _, _, _, _, ⟨HL6.out.1, HI.out.only.trans HL6.out.2 (fun i h => .inl h), ?_, ?_, fun h => by omega, fun _ => ⟨by have := HSS.out; omega, ?_⟩⟩⟩, rfl, rfl, rfl, rfl, rfl, rfl⟩
              · intro m hm
                rcases List.mem_append.1 hm with hm | hm
                · exact HI.out.sized m hm
                · simp only [List.mem_singleton] at hm
                  subst hm
                  show 62 ≤ ((xs.drop p).take z).length ∧ ((xs.drop p).take z).length ≤ 125
                  rw [HYS.out]; omega
              · rw [List.length_append, HLl.out]; rfl
              · rw [List.map_append]; exact HFIN.out
    · go_wp2
      go_end0
      have e : i = k := by omega
      obtain ⟨q1, q2⟩ := HI.out.fin e
      exact ⟨rfl, L, ss, nb, no, nc, tb, to, tc, HI.out.st, HI.out.sized, by have := HI.out.len; omega, by have := HI.out.len; omega, q2, HI.out.only⟩
end Go.Proofs.Ybulkcgwo.T
