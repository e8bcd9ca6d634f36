import Derived.Test.YbulkcgwoTRem1
import Derived.Deep.DeepCutAuto
namespace Go.Proofs.Ybulkcgwo.T
open Go.RowKit
set_option linter.unusedVariables false
set_option linter.unusedSimpArgs false

theorem two_one {w w' : World} {d : Nd} {kb : Nat} {L1 : List Nd} {n n' : Nd} {L2 : List Nd} (hT : Two w d kb (L1 ++ ([n] ++ L2))) (hb : n'.b = n.b) (heb : n'.eb = n.eb) (hE : EOK w' n') (h0 : w'.cell? ⟨n.b, 0, none⟩ = some (.pointer none)) (hO : Only (fun k => k = n.b ∨ k = n.eb) w w') :
    Two w' d kb (L1 ++ ([n'] ++ L2)) ∧ (∀ k, twoFoot d kb (L1 ++ ([n'] ++ L2)) k → twoFoot d kb (L1 ++ ([n] ++ L2)) k) ∧ Only (twoFoot d kb (L1 ++ ([n] ++ L2))) w w' := by
  have hnm : n ∈ L1 ++ ([n] ++ L2) := by simp
  have hs := hT.sep n hnm
  have hN1 : blkOf [n] n.b := ⟨n, by simp, .inl rfl⟩
  have hN2 : blkOf [n] n.eb := ⟨n, by simp, .inr rfl⟩
  have hd1 : ¬ (d.b = n.b ∨ d.b = n.eb) := by omega
  have hd2 : ¬ (d.eb = n.b ∨ d.eb = n.eb) := by omega
  have hk1 : ¬ (kb = n.b ∨ kb = n.eb) := by omega
  have hmap : (L1 ++ ([n'] ++ L2)).map Nd.b = (L1 ++ ([n] ++ L2)).map Nd.b := by simp [hb]
  refine ⟨two_replace hT rfl (.inl rfl) (hT.E.kept hO hd1 hd2) (by rw [hmap]; exact hT.K.kept hO hd1 hk1) (by have := hT.len; simpa using this) (hO.mono (fun k _ h => .inr (.inr (.inr (h.elim (fun h => h ▸ hN1) (fun h => h ▸ hN2)))))) ?_ (by simp) ?_, ?_, hO.mono (fun k _ h => .inr (.inr (.inr ⟨n, hnm, h⟩)))⟩
  · intro m hm
    have : m = n' := by simpa using hm
    subst this
    exact ⟨hE, by rw [hb]; exact h0, .inl (hb ▸ hN1), .inl (heb ▸ hN2)⟩
  · intro m hm
    have : m = n' := by simpa using hm
    subst this
    exact ⟨by rw [hb]; exact hs.2.1, by rw [heb]; exact hs.2.2.2.2.1⟩
  · rintro k (h | h | h | ⟨m, hm, h⟩)
    · exact .inl h
    · exact .inr (.inl h)
    · exact .inr (.inr (.inl h))
    · simp only [List.mem_append, List.mem_singleton] at hm
      rcases hm with hm | hm | hm
      · exact .inr (.inr (.inr ⟨m, by simp [hm], h⟩))
      · subst hm; exact .inr (.inr (.inr ⟨n, hnm, by rw [hb, heb] at h; exact h⟩))
      · exact .inr (.inr (.inr ⟨m, by simp [hm], h⟩))

theorem rem_two {d d' : Nd} {kb : Nat} {L L' : List Nd} {w w' : World} {x : Int} {A B : List Int} (hT : Two w' d' kb L') (hS : Sized L') (hne : d'.xs ≠ []) (hf : flatF (L.map Nd.xs) d.xs = A ++ x :: B) (hf' : flatF (L'.map Nd.xs) d'.xs = A ++ B)
    (hfo : ∀ k, twoFoot d' kb L' k → twoFoot d kb L k ∨ w.heap.size ≤ k) {pb : Nat} (hO : Only (fun k => twoFoot d kb L k ∨ k = pb) w w') : RemW (some (.inr (d, kb, L))) x pb w w' (some (.inr (d', kb, L'))) := ⟨⟨A, B, hf, hf'⟩, ⟨hT, hS, hne⟩, hfo, hO⟩
theorem rem_drop {d d' : Nd} {kb : Nat} {L L' : List Nd} {w w' : World} {x : Int} {A B : List Int} (hT : Two w' d' kb L') (hS : Sized L') (hne : d'.xs = []) (hf : flatF (L.map Nd.xs) d.xs = A ++ x :: B) (hf' : flatF (L'.map Nd.xs) d'.xs = A ++ B)
    (hfo : ∀ k, twoFoot d' kb L' k → twoFoot d kb L k ∨ w.heap.size ≤ k) {pb : Nat} (hO : Only (fun k => twoFoot d kb L k ∨ k = pb) w w') : ∃ m : Nd, RemW (some (.inr (d, kb, L))) x pb w w' (some (.inl m)) ∧ w'.cell? ⟨kb, 0, none⟩ = some (.pointer (some ⟨m.b, 0, none⟩)) := by
  have hl := hT.len
  rw [hne] at hl hf'
  match L', hl with
  | [m], _ =>
    have hm : m ∈ [m] := by simp
    have hk := hT.K.row 0 (ptr m.b) (by simp [ptrs])
    have hs := hS m hm
    refine ⟨m, ⟨⟨A, B, hf, ?_⟩, ⟨(hT.leaf m hm).1, (hT.leaf m hm).2, hs.2, fun e => by rw [e] at hs; simp at hs⟩, fun k hk => hfo k (.inr (.inr (.inr ⟨m, hm, hk⟩))), hO⟩, hk⟩
    rw [← hf']; simp [flatT, flatF, postF]

theorem ref_undrew {d : Nd} {kb : Nat} {L : List Nd} {w w' : World} (h : RefW d kb L w.drew w') : RefW d kb L w w' := by
  obtain ⟨d', L', h1, h2, h3, h4, h5, h6⟩ := h
  exact ⟨d', L', h1, h2, h3, h4, h5, ((Only.refl (twoFoot d kb L) w).drew).trans h6 (fun k h => .inl h)⟩

set_option maxHeartbeats 4000000 in
set_option maxRecDepth 100000 in
theorem remove_leaf2 (pb : Nat) (d : Nd) (kb : Nat) (L1 : List Nd) (n : Nd) (L2 : List Nd) (j : Nat) (w : World) (hQ : Path1 w pb d.b L1.length) (p2 : w.cell? ⟨pb, 2, none⟩ = some (.pointer (some ⟨n.b, 0, none⟩))) (p3 : w.cell? ⟨pb, 3, none⟩ = some (.int .i64 j)) (h22 : w.cell? ⟨pb, 22, none⟩ = some (.int .i64 2)) (hT : TOK w (some (.inr (d, kb, L1 ++ ([n] ++ L2))))) (hj : j < n.xs.length) (hp : ¬ twoFoot d kb (L1 ++ ([n] ++ L2)) pb) (hl : d.xs.length ≤ 125) :
    Calls Yba.prog 40 #[.pointer (some ⟨pb, 0, none⟩)] w fun r w' => ∃ t', r = .returned (.pointer (rootT t')) ∧ RemW (some (.inr (d, kb, L1 ++ ([n] ++ L2)))) (n.xs.getD j 0) pb w w' t' := by
  obtain ⟨hT, hS, hne⟩ := hT
  obtain ⟨qn, qi⟩ := hQ
  have hnm : n ∈ L1 ++ ([n] ++ L2) := by simp
  have HT := hide hT
  have HSZ := hide hS
  have HNE := hide hne
  have HDL := hide hl
  have HP := hide hp
  obtain ⟨A, B, hfl, hfl'⟩ : ∃ A B, flatF ((L1 ++ ([n] ++ L2)).map Nd.xs) d.xs = A ++ n.xs.getD j 0 :: B ∧ flatF ((L1 ++ ([(⟨n.b, n.eb, n.eo, n.cap, del j n.xs⟩ : Nd)] ++ L2)).map Nd.xs) d.xs = A ++ B := by
    obtain ⟨A, B, c1, c2⟩ := cut_at n.xs hj
    have hlen := hT.len
    have hk : (L1.map Nd.xs).length = (d.xs.take L1.length).length := by simp at hlen ⊢; omega
    refine ⟨preF (L1.map Nd.xs) (d.xs.take L1.length) ++ A, B ++ postF (d.xs.drop L1.length) (L2.map Nd.xs), ?_, ?_⟩
    · have hz := flat_zoom (L1.map Nd.xs) (d.xs.take L1.length) n.xs (L2.map Nd.xs) (d.xs.drop L1.length) hk
      rw [List.take_append_drop] at hz
      rw [show (L1 ++ ([n] ++ L2)).map Nd.xs = L1.map Nd.xs ++ n.xs :: L2.map Nd.xs by simp, hz]
      generalize n.xs.getD j 0 = z at c1 ⊢
      rw [c1]; simp
    · have hz := flat_zoom (L1.map Nd.xs) (d.xs.take L1.length) (del j n.xs) (L2.map Nd.xs) (d.xs.drop L1.length) hk
      rw [List.take_append_drop] at hz
      rw [show (L1 ++ ([(⟨n.b, n.eb, n.eo, n.cap, del j n.xs⟩ : Nd)] ++ L2)).map Nd.xs = L1.map Nd.xs ++ del j n.xs :: L2.map Nd.xs by simp, hz, c2]; simp
  generalize n.xs.getD j 0 = X at hfl ⊢
  have HFL := hide hfl
  have HF3 := hide hfl'
  clear hT hS hne hl hp hfl hfl'
  have hpl : pb < w.heap.size := World.block_lt_of_cell? w ⟨pb, 22, none⟩ h22
  have h0 := (HT.out.leaf n hnm).2
  have HPN : Hid (¬ (pb = n.b ∨ pb = n.eb)) := fun h => HP.out (.inr (.inr (.inr ⟨n, hnm, h⟩)))
  have hw0 : IntKind.i64.wrap 0 = 0 := by kernel_rfl
  have hw1 : IntKind.i64.wrap 1 = 1 := by kernel_rfl
  go_enter Yba.func40, Yba.ntmps40
  go_wp2
  go_region
  have hO1 : Hid (Only (fun _ => False) w (w.alloc (.cells #[.pointer (some ⟨n.b, 0, none⟩), .int .i64 j] 77)).drew) := ((Only.refl _ _).alloc _).drew
  have g0 : (w.alloc (.cells #[.pointer (some ⟨n.b, 0, none⟩), .int .i64 j] 77)).drew.cell? ⟨w.heap.size, 0, none⟩ = some (.pointer (some ⟨n.b, 0, none⟩)) := by simp
  have g1 : (w.alloc (.cells #[.pointer (some ⟨n.b, 0, none⟩), .int .i64 j] 77)).drew.cell? ⟨w.heap.size, 1, none⟩ = some (.int .i64 j) := by simp
  generalize (w.alloc (.cells #[.pointer (some ⟨n.b, 0, none⟩), .int .i64 j] 77)).drew = w1 at hO1 g0 g1 ⊢
  have hfb : ∃ fb, fb = w.heap.size := ⟨_, rfl⟩
  obtain ⟨fb, hfb⟩ := hfb
  rw [← hfb] at g0 g1 ⊢
  clear hfb hpl
  go_wp2
  go_region
  have hO2 : Hid (Only (fun _ => False) w w1.drew) := hO1.out.drew
  generalize w1.drew = w2 at hO2 ⊢
  have qn2 := hO2.out.cell qn (fun h => h)
  have qi2 := hO2.out.cell qi (fun h => h)
  have p22 := hO2.out.cell p2 (fun h => h)
  have q222 := hO2.out.cell h22 (fun h => h)
  have h02 := hO2.out.cell h0 (fun h => h)
  have HRM := hide (removeAt_leaf n j w2 ((HT.out.leaf n hnm).1.kept hO2.out (fun h => h) (fun h => h)) h02 hj (by have := (HSZ.out n hnm).2; omega))
  clear qn qi h22 g0 g1 h0 p2 p3
  go_wp2_with (first
    | (go_at_call 57; refine HRM.out.mono ?_; rintro e w3 ⟨rfl, hE3, hO3, h03⟩; have q0 := hO3.cell qn2 HPN.out; have q1 := hO3.cell qi2 HPN.out; have q2 := hO3.cell p22 HPN.out; have q22 := hO3.cell q222 HPN.out; have e3 := hE3.cell; rw [del_length hj] at e3; have HE3 := hide hE3; have HO3 := hide hO3; have H03 := hide h03; clear hE3 hO3 h03 qn2 qi2 p22 q222 h02)
    | fail)
  clear HRM

  have HO12 : Hid (Only (fun k => k = n.b ∨ k = n.eb) w w3) := (hO2.out.mono (G := fun k => k = n.b ∨ k = n.eb) (fun _ _ h => h.elim)).trans HO3.out (fun k h => .inl h)
  have H3 := hide (two_one (n' := ⟨n.b, n.eb, n.eo, n.cap, del j n.xs⟩) HT.out rfl rfl HE3.out H03.out HO12.out)
  have HT3 := hide H3.out.1
  have HFO := hide H3.out.2.1
  have HO := hide (H3.out.2.2.mono (G := fun k => twoFoot d kb (L1 ++ ([n] ++ L2)) k ∨ k = pb) (fun k _ h => .inl h))
  have HP3 : Hid (¬ twoFoot d kb (L1 ++ ([(⟨n.b, n.eb, n.eo, n.cap, del j n.xs⟩ : Nd)] ++ L2)) pb) := fun h => HP.out (HFO.out _ h)
  clear H3
  refine wp_loop_rounds 2 ?_
  rw [rounds_succ]
  have dc3 := HT3.out.E.cell
  have d03 := HT3.out.K.cell
  have hD0 : 0 < (d).xs.length := List.length_pos_iff.2 HNE.out
  have z6 : ¬ (((d).xs.length : Nat) : Int) = 0 := by omega
  by_cases hsm : n.xs.length - 1 < 62
  · have z1 : ((n.xs.length - 1 : Nat) : Int) < 62 := by omega
    have hln : (del j n.xs).length = 61 := by rw [del_length hj]; have := (HSZ.out n hnm).1; omega
    have HRF := hide (refill_any (d) kb L1 ⟨n.b, n.eb, n.eo, n.cap, del j n.xs⟩ L2 w3.drew (HT3.out.kept ((Only.refl (fun _ => False) w3).drew) (fun _ _ h => h)) hln (fun x hx => HSZ.out x (by simp [hx])) (fun x hx => HSZ.out x (by simp [hx])) HDL.out hD0)
    go_wp2
    go_region_with (first
      | (go_at_call 58; refine HRF.out.mono ?_; rintro e wc ⟨rfl, hR⟩; have HRR := hide (ref_undrew hR); clear hR HRF)
      | fail)
    all_goals
      obtain ⟨d', L', hb', hT4, hfl4, hS4, hfo4, hO4⟩ := HRR.out
      have q04 := hO4.cell q0 HP3.out
      have q224 := hO4.cell q22 HP3.out
      have dc4 := hT4.E.cell
      have d04 := hT4.K.cell
      rw [hb'] at dc4 d04
      have HFIN : Hid ((∀ k, twoFoot d' kb L' k → twoFoot d kb (L1 ++ ([n] ++ L2)) k ∨ w.heap.size ≤ k) ∧ Only (fun k => twoFoot d kb (L1 ++ ([n] ++ L2)) k ∨ k = pb) w wc) := by
        have hsz := HO.out.size
        refine ⟨fun k hk => ?_, HO.out.trans hO4 (fun k h => .inl (.inl (HFO.out k h)))⟩
        rcases hfo4 k hk with h | h
        · exact .inl (HFO.out k h)
        · exact .inr (by omega)
      have HT4 := hide hT4
      have HS4 := hide hS4
      have HF4 : Hid (flatF (L'.map Nd.xs) d'.xs = A ++ B) := by show _ = _; rw [hfl4]; exact HF3.out
      clear hT4 hS4 hfo4 hO4 hfl4 q0 q1 q2 q22 e3 dc3 d03 z1
      by_cases hd' : d'.xs = []
      · obtain ⟨m, hR, hm0⟩ := rem_drop HT4.out HS4.out hd' HFL.out HF4.out HFIN.out.1 HFIN.out.2
        have HR := hide hR
        rw [hd'] at dc4
        simp only [List.length_nil] at dc4
        clear hR hd' z6 hD0
        go_wp2
        rw [rounds_succ]
        go_wp2
        go_ret
        exact ⟨some (.inl m), rfl, HR.out⟩
      · have z7 : ¬ ((d'.xs.length : Nat) : Int) = 0 := by have := List.length_pos_iff.2 hd'; omega
        have HR := hide (rem_two HT4.out HS4.out hd' HFL.out HF4.out HFIN.out.1 HFIN.out.2)
        clear z6 hD0
        go_wp2
        rw [rounds_succ]
        go_wp2
        go_ret
        refine ⟨some (.inr (d', kb, L')), ?_, HR.out⟩
        simp only [rootT, hb']; rfl
  · have z1 : ¬ ((n.xs.length - 1 : Nat) : Int) < 62 := by omega
    have HR : Hid (RemW (some (.inr (d, kb, L1 ++ ([n] ++ L2)))) X pb w w3 (some (.inr ((d), kb, L1 ++ ([⟨n.b, n.eb, n.eo, n.cap, del j n.xs⟩] ++ L2))))) := by
      refine rem_two HT3.out (fun x hx => ?_) HNE.out HFL.out HF3.out (fun k h => .inl (HFO.out k h)) HO.out
      simp only [List.mem_append, List.mem_singleton] at hx
      rcases hx with hx | hx | hx
      · exact HSZ.out x (by simp [hx])
      · subst hx; have := (HSZ.out n hnm).2; simp only; rw [del_length hj]; omega
      · exact HSZ.out x (by simp [hx])
    clear hsm hD0
    go_wp2
    go_ret
    exact ⟨_, rfl, HR.out⟩
end Go.Proofs.Ybulkcgwo.T
