import Derived.Test.YbulkcgwoTRem2
import Derived.Deep.DeepCutAuto
namespace Go.Proofs.Ybulkcgwo.T
open Go.RowKit
set_option linter.unusedVariables false
set_option linter.unusedSimpArgs false


theorem two_set {w : World} {d : Nd} {kb : Nat} {L : List Nd} (hT : Two w d kb L) (i : Nat) (y : Int) (hi : i < d.xs.length) : Two (w.setCell ⟨d.eb, d.eo + i, none⟩ (.int .i64 y)) ⟨d.b, d.eb, d.eo, d.cap, d.xs.set i y⟩ kb L := by
  have hO : Only (fun k => k = d.eb) w (w.setCell ⟨d.eb, d.eo + i, none⟩ (.int .i64 y)) := (Only.refl (fun k => k = d.eb) w).setCell (.inl rfl) _
  exact ⟨eok_set hT.E i y hi, kok_set hT.K hT.kb2 hT.E.apart i _, by simpa using hT.len, fun n hn => ⟨(hT.leaf n hn).1.kept hO (hT.sep n hn).2.1 (hT.sep n hn).2.2.2.2.1, hO.cell (hT.leaf n hn).2 (hT.sep n hn).2.1⟩, hT.kb1, hT.kb2, hT.sep, hT.dis⟩

set_option maxHeartbeats 4000000 in
set_option maxRecDepth 100000 in
theorem remove_root2 (pb : Nat) (d : Nd) (kb : Nat) (L1 : List Nd) (n : Nd) (L2 : List Nd) (w : World) (hP0 : Path0 w pb) (hQ : Path1 w pb d.b L1.length) (h22 : w.cell? ⟨pb, 22, none⟩ = some (.int .i64 1)) (hT : TOK w (some (.inr (d, kb, L1 ++ ([n] ++ L2))))) (hi : L1.length < d.xs.length) (hp : ¬ twoFoot d kb (L1 ++ ([n] ++ L2)) pb) (hl : d.xs.length ≤ 125) :
    Calls Yba.prog 40 #[.pointer (some ⟨pb, 0, none⟩)] w fun r w' => ∃ t', r = .returned (.pointer (rootT t')) ∧ RemW (some (.inr (d, kb, L1 ++ ([n] ++ L2)))) (d.xs.getD L1.length 0) pb w w' t' := by
  obtain ⟨hT, hS, hne⟩ := hT
  obtain ⟨qn, qi⟩ := hQ
  have hnm : n ∈ L1 ++ ([n] ++ L2) := by simp
  have HT := hide hT
  have HSZ := hide hS
  have HP := hide hp
  obtain ⟨j, hjn⟩ : ∃ j, j = n.xs.length - 1 := ⟨_, rfl⟩
  have hsn := hS n hnm
  have hj : j < n.xs.length := by omega
  obtain ⟨A, B, hfl, hfl'⟩ : ∃ A B, flatF ((L1 ++ ([n] ++ L2)).map Nd.xs) d.xs = A ++ d.xs.getD L1.length 0 :: B ∧ flatF ((L1 ++ ([(⟨n.b, n.eb, n.eo, n.cap, del j n.xs⟩ : Nd)] ++ L2)).map Nd.xs) (d.xs.set L1.length (n.xs.getD j 0)) = A ++ B := by
    have hlen := hT.len
    have hk : (L1.map Nd.xs).length = (d.xs.take L1.length).length := by simp at hlen ⊢; omega
    match L2, hlen with
    | [], hlen => simp at hlen; omega
    | q :: L2', hlen =>
      refine ⟨preF (L1.map Nd.xs) (d.xs.take L1.length) ++ n.xs, q.xs ++ postF (d.xs.drop (L1.length + 1)) (L2'.map Nd.xs), ?_, ?_⟩
      · have hz := flat_pair (L1.map Nd.xs) (d.xs.take L1.length) n.xs q.xs (L2'.map Nd.xs) (d.xs.getD L1.length 0) (d.xs.drop (L1.length + 1)) hk
        rw [← list_at d.xs hi] at hz
        rw [show (L1 ++ ([n] ++ q :: L2')).map Nd.xs = L1.map Nd.xs ++ (n.xs :: q.xs :: L2'.map Nd.xs) by simp, hz]; simp
      · have hz := flat_pair (L1.map Nd.xs) (d.xs.take L1.length) (del j n.xs) q.xs (L2'.map Nd.xs) (n.xs.getD j 0) (d.xs.drop (L1.length + 1)) hk
        rw [set_at d.xs hi, show (L1 ++ ([(⟨n.b, n.eb, n.eo, n.cap, del j n.xs⟩ : Nd)] ++ q :: L2')).map Nd.xs = L1.map Nd.xs ++ (del j n.xs :: q.xs :: L2'.map Nd.xs) by simp, hz]
        have hls := last_split n.xs (by omega)
        rw [← hjn] at hls
        generalize n.xs.getD j 0 = z at hls ⊢
        generalize del j n.xs = tl at hls ⊢
        rw [hls]; simp
  generalize d.xs.getD L1.length 0 = X at hfl ⊢
  have hy := range_ints (hT.leaf n hnm).1.row hj
  have dc := hT.E.cell
  have d0 := hT.K.cell
  have ec := (hT.leaf n hnm).1.cell
  have ck := kid_at (L1 := L1) (n := n) (L2 := L2) hT.K
  have hx := range_ints hT.E.row hi
  have HXF := hide (hT.E.room L1.length (by have := hT.E.len; omega)).2
  have HDLT := hide hT.E.lt
  generalize n.xs.getD j 0 = y at hy hfl'
  generalize d.xs.getD L1.length 0 = X0 at hx
  have HNE : Hid (d.xs.set L1.length y ≠ []) := by intro h; apply hne; exact List.eq_nil_of_length_eq_zero (by have := congrArg List.length h; simpa using this)
  have HDL : Hid ((d.xs.set L1.length y).length ≤ 125) := by show _ ≤ _; simpa using hl
  have HFL := hide hfl
  have HF3 := hide hfl'
  have HPD : Hid (pb ≠ d.b) := fun h => HP.out (.inl h)
  have HPE : Hid (pb ≠ d.eb) := fun h => HP.out (.inr (.inl h))
  have HPK : Hid (pb ≠ kb) := fun h => HP.out (.inr (.inr (.inl h)))
  have HPB : Hid (pb ≠ n.b) := fun h => HP.out (.inr (.inr (.inr ⟨n, hnm, .inl h⟩)))
  have HPN : Hid (¬ (pb = n.b ∨ pb = n.eb)) := fun h => HP.out (.inr (.inr (.inr ⟨n, hnm, h⟩)))
  have HPEB : Hid (pb ≠ n.eb) := fun h => HP.out (.inr (.inr (.inr ⟨n, hnm, .inr h⟩)))
  clear hT hS hne hl hp hfl hfl'
  have hpl : pb < w.heap.size := World.block_lt_of_cell? w ⟨pb, 22, none⟩ h22
  have h0 := (HT.out.leaf n hnm).2
  have hw0 : IntKind.i64.wrap 0 = 0 := by kernel_rfl
  have hw1 : IntKind.i64.wrap 1 = 1 := by kernel_rfl
  have HQ0 := hide hP0
  clear hP0
  have hi127 : (L1.length : Int) < 127 := by have := HT.out.K.len; rw [List.length_map] at this; simp at this; omega
  have hid : (L1.length : Int) < (d.xs.length : Int) := by omega
  generalize hiN : L1.length = i at *
  have HIN := hide hiN
  clear hiN
  go_enter Yba.func40, Yba.ntmps40
  go_wp2
  go_region
  have hO1 : Hid (Only (fun _ => False) w (w.alloc (.cells #[.pointer (some ⟨d.b, 0, none⟩), .int .i64 i] 77)).drew) := ((Only.refl _ _).alloc _).drew
  have g0 : (w.alloc (.cells #[.pointer (some ⟨d.b, 0, none⟩), .int .i64 i] 77)).drew.cell? ⟨w.heap.size, 0, none⟩ = some (.pointer (some ⟨d.b, 0, none⟩)) := by simp
  have g1 : (w.alloc (.cells #[.pointer (some ⟨d.b, 0, none⟩), .int .i64 i] 77)).drew.cell? ⟨w.heap.size, 1, none⟩ = some (.int .i64 i) := by simp
  generalize (w.alloc (.cells #[.pointer (some ⟨d.b, 0, none⟩), .int .i64 i] 77)).drew = w1 at hO1 g0 g1 ⊢
  have hfb : ∃ fb, fb = w.heap.size := ⟨_, rfl⟩
  obtain ⟨fb, hfb⟩ := hfb
  rw [← hfb] at g0 g1 ⊢
  clear hfb hpl
  go_wp2
  go_region
  have hO2 : Hid (Only (fun _ => False) w w1.drew) := hO1.out.drew
  generalize w1.drew = w2 at hO2 ⊢
  have d02 := hO2.out.cell d0 (fun h => h)
  have ck2 := hO2.out.cell ck (fun h => h)
  have HLA := hide (last_leaf pb d.b i n w2 ⟨hO2.out.there HQ0.out.room (fun h => h)⟩ ⟨hO2.out.cell qn (fun h => h), hO2.out.cell qi (fun h => h)⟩ (hO2.out.cell h22 (fun h => h)) ((HT.out.leaf n hnm).1.kept hO2.out (fun h => h) (fun h => h)) (hO2.out.cell h0 (fun h => h)) HPB.out)
  clear qn qi h22 g0 g1
  go_wp2_with (first
    | (go_at_call 56; refine HLA.out.mono ?_; rintro e w3 ⟨rfl, hP03, hQ3, q2, q22, hO3⟩; have q0 := hQ3.n; have q1 := hQ3.i; have HO3 := hide hO3; clear hP03 hQ3 hO3 HLA d02 ck2)
    | fail)
  go_region
  have HO4 : Hid (Only (fun k => k = pb) w w3.drew) := ((hO2.out.mono (G := fun k => k = pb) (fun _ _ h => h.elim)).trans HO3.out (fun k h => .inl h)).drew
  have hO34 : Hid (Only (fun _ => False) w3 w3.drew) := (Only.refl _ _).drew
  generalize w3.drew = w4 at HO4 hO34 ⊢
  have q04 := hO34.out.cell q0 (fun h => h)
  have q14 := hO34.out.cell q1 (fun h => h)
  have q24 := hO34.out.cell q2 (fun h => h)
  have q224 := hO34.out.cell q22 (fun h => h)
  have dc4 := HO4.out.cell dc (fun h => HPD.out h.symm)
  have ec4 := HO4.out.cell ec (fun h => HPB.out h.symm)
  have hy4 := HO4.out.cell hy (fun h => HPEB.out h.symm)
  rw [hjn] at hy4
  have j5 : (1 : Int) ≤ (n.xs.length : Int) := by omega
  have hx4 := HO4.out.cell hx (fun h => HPE.out h.symm)
  have hxf := (HO4.out.frozen (p := ⟨d.eb, d.eo + i, none⟩) HDLT.out.2 (fun h => HPE.out h.symm)).trans HXF.out
  clear q0 q1 q2 q22 dc d0 ec ck hy hx h0
  have j1 : ((n.xs.length : Int) - 1) < (n.xs.length : Int) := by omega
  have j2 : (0 : Int) ≤ ((n.xs.length : Int) - 1) := by omega
  have j3 : ((n.xs.length : Int) - 1).toNat = j := by omega
  have j4 : IntKind.i64.wrap ((n.xs.length : Int) - 1) = (n.xs.length : Int) - 1 := by simp only [IntKind.wrap_i64]; omega
  go_wp2
  go_region
  have HT4 := hide (HT.out.kept HO4.out (fun k hk h => HP.out (h ▸ hk)))
  have HT5 : Hid (Two (w4.setCell ⟨d.eb, d.eo + i, none⟩ (.int .i64 y)).drew ⟨d.b, d.eb, d.eo, d.cap, d.xs.set i y⟩ kb (L1 ++ ([n] ++ L2))) := (two_set HT4.out i y (by omega)).kept ((Only.refl (fun _ => False) _).drew) (fun _ _ h => h)
  have HO5 : Hid (Only (fun k => k = d.eb) w4 (w4.setCell ⟨d.eb, d.eo + i, none⟩ (.int .i64 y)).drew) := ((Only.refl (fun k => k = d.eb) w4).setCell (.inl rfl) _).drew
  generalize (w4.setCell ⟨d.eb, d.eo + i, none⟩ (.int .i64 y)).drew = w5 at HT5 HO5 ⊢
  have q05 := HO5.out.cell q04 HPE.out
  have q15 := HO5.out.cell q14 HPE.out
  have q25 := HO5.out.cell q24 HPE.out
  have q225 := HO5.out.cell q224 HPE.out
  have ec5 := (HT5.out.leaf n hnm).1.cell
  clear q04 q14 q24 q224 dc4 ec4 hy4 hx4 hxf j1 j2 j3
  go_wp2
  go_region
  have HO56 : Hid (Only (fun _ => False) w5 w5.drew) := (Only.refl _ _).drew
  generalize w5.drew = w6 at HO56 ⊢
  have q06 := HO56.out.cell q05 (fun h => h)
  have q16 := HO56.out.cell q15 (fun h => h)
  have q26 := HO56.out.cell q25 (fun h => h)
  have q226 := HO56.out.cell q225 (fun h => h)
  have HT6 := hide (HT5.out.kept HO56.out (fun _ _ h => h))
  have HRM := hide (removeAt_leaf n j w6 (HT6.out.leaf n hnm).1 (HT6.out.leaf n hnm).2 hj (by omega))
  rw [show ((j : Nat) : Int) = (n.xs.length : Int) - 1 by omega] at HRM
  clear q05 q15 q25 q225 ec5
  go_wp2_with (first
    | (go_at_call 57; refine HRM.out.mono ?_; rintro e w7 ⟨rfl, hE3, hO7, h03⟩; have q0 := hO7.cell q06 HPN.out; have q1 := hO7.cell q16 HPN.out; have q2 := hO7.cell q26 HPN.out; have q22 := hO7.cell q226 HPN.out; have e3 := hE3.cell; rw [del_length hj] at e3; have HE3 := hide hE3; have HO7 := hide hO7; have H03 := hide h03; clear hE3 hO7 h03 q06 q16 q26 q226)
    | fail)
  clear HRM j4
  have H3 := hide (two_one (n' := ⟨n.b, n.eb, n.eo, n.cap, del j n.xs⟩) HT6.out rfl rfl HE3.out H03.out HO7.out)
  have HT3 := hide H3.out.1
  have HFO : Hid (∀ k, twoFoot ⟨d.b, d.eb, d.eo, d.cap, d.xs.set i y⟩ kb (L1 ++ ([⟨n.b, n.eb, n.eo, n.cap, del j n.xs⟩] ++ L2)) k → twoFoot d kb (L1 ++ ([n] ++ L2)) k) := H3.out.2.1
  have HO : Hid (Only (fun k => twoFoot d kb (L1 ++ ([n] ++ L2)) k ∨ k = pb) w w7) := by
    have o1 : Only (fun k => twoFoot d kb (L1 ++ ([n] ++ L2)) k ∨ k = pb) w w4 := HO4.out.mono (fun k _ h => .inr h)
    have o2 := o1.trans HO5.out (fun k h => .inl (.inl (.inr (.inl h))))
    have o3 := o2.trans HO56.out (fun k h => False.elim h)
    exact o3.trans H3.out.2.2 (fun k h => .inl (.inl h))
  have HP3 : Hid (¬ twoFoot ⟨d.b, d.eb, d.eo, d.cap, d.xs.set i y⟩ kb (L1 ++ ([⟨n.b, n.eb, n.eo, n.cap, del j n.xs⟩] ++ L2)) pb) := fun h => HP.out (HFO.out _ h)
  clear H3
  have hin := HIN.out
  subst hin
  refine wp_loop_rounds 2 ?_
  rw [rounds_succ]
  have dc3 := HT3.out.E.cell
  have d03 := HT3.out.K.cell
  have hD0 : 0 < ((⟨d.b, d.eb, d.eo, d.cap, d.xs.set L1.length y⟩ : Nd)).xs.length := List.length_pos_iff.2 HNE.out
  have z6 : ¬ ((((⟨d.b, d.eb, d.eo, d.cap, d.xs.set L1.length y⟩ : Nd)).xs.length : Nat) : Int) = 0 := by omega
  by_cases hsm : n.xs.length - 1 < 62
  · have z1 : ((n.xs.length - 1 : Nat) : Int) < 62 := by omega
    have hln : (del j n.xs).length = 61 := by rw [del_length hj]; have := (HSZ.out n hnm).1; omega
    have HRF := hide (refill_any ((⟨d.b, d.eb, d.eo, d.cap, d.xs.set L1.length y⟩ : Nd)) kb L1 ⟨n.b, n.eb, n.eo, n.cap, del j n.xs⟩ L2 w7.drew (HT3.out.kept ((Only.refl (fun _ => False) w7).drew) (fun _ _ h => h)) hln (fun x hx => HSZ.out x (by simp [hx])) (fun x hx => HSZ.out x (by simp [hx])) HDL.out hD0)
    go_wp2
    go_region_with (first
      | (go_at_call 58; refine HRF.out.mono ?_; rintro e wc ⟨rfl, hR⟩; have HRR := hide (ref_undrew hR); clear hR HRF)
      | fail)
    all_goals
      obtain ⟨d', L', hb', hT4, hfl4, hS4, hfo4, hO4⟩ := HRR.out
      have q04 := hO4.cell q0 HP3.out
      have q224 := hO4.cell q22 HP3.out
      have dc4 := hT4.E.cell
      have d04 := hT4.K.cell
      rw [hb'] at dc4 d04
      have HFIN : Hid ((∀ k, twoFoot d' kb L' k → twoFoot d kb (L1 ++ ([n] ++ L2)) k ∨ w.heap.size ≤ k) ∧ Only (fun k => twoFoot d kb (L1 ++ ([n] ++ L2)) k ∨ k = pb) w wc) := by
        have hsz := HO.out.size
        refine ⟨fun k hk => ?_, HO.out.trans hO4 (fun k h => .inl (.inl (HFO.out k h)))⟩
        rcases hfo4 k hk with h | h
        · exact .inl (HFO.out k h)
        · exact .inr (by omega)
      have HT4 := hide hT4
      have HS4 := hide hS4
      have HF4 : Hid (flatF (L'.map Nd.xs) d'.xs = A ++ B) := by show _ = _; rw [hfl4]; exact HF3.out
      clear hT4 hS4 hfo4 hO4 hfl4 q0 q1 q2 q22 e3 dc3 d03 z1
      by_cases hd' : d'.xs = []
      · obtain ⟨m, hR, hm0⟩ := rem_drop HT4.out HS4.out hd' HFL.out HF4.out HFIN.out.1 HFIN.out.2
        have HR := hide hR
        rw [hd'] at dc4
        simp only [List.length_nil] at dc4
        clear hR hd' z6 hD0
        go_wp2
        rw [rounds_succ]
        go_wp2
        go_ret
        exact ⟨some (.inl m), rfl, HR.out⟩
      · have z7 : ¬ ((d'.xs.length : Nat) : Int) = 0 := by have := List.length_pos_iff.2 hd'; omega
        have HR := hide (rem_two HT4.out HS4.out hd' HFL.out HF4.out HFIN.out.1 HFIN.out.2)
        clear z6 hD0
        go_wp2
        rw [rounds_succ]
        go_wp2
        go_ret
        refine ⟨some (.inr (d', kb, L')), ?_, HR.out⟩
        simp only [rootT, hb']; rfl
  · have z1 : ¬ ((n.xs.length - 1 : Nat) : Int) < 62 := by omega
    have HR : Hid (RemW (some (.inr (d, kb, L1 ++ ([n] ++ L2)))) X pb w w7 (some (.inr (((⟨d.b, d.eb, d.eo, d.cap, d.xs.set L1.length y⟩ : Nd)), kb, L1 ++ ([⟨n.b, n.eb, n.eo, n.cap, del j n.xs⟩] ++ L2))))) := by
      refine rem_two HT3.out (fun x hx => ?_) HNE.out HFL.out HF3.out (fun k h => .inl (HFO.out k h)) HO.out
      simp only [List.mem_append, List.mem_singleton] at hx
      rcases hx with hx | hx | hx
      · exact HSZ.out x (by simp [hx])
      · subst hx; have := (HSZ.out n hnm).2; simp only; rw [del_length hj]; omega
      · exact HSZ.out x (by simp [hx])
    clear hsm hD0
    go_wp2
    go_ret
    exact ⟨_, rfl, HR.out⟩
end Go.Proofs.Ybulkcgwo.T
