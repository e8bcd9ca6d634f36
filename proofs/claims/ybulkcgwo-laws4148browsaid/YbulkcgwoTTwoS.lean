import Derived.Test.YbulkcgwoTTwo
namespace Go.Proofs.Ybulkcgwo.T
open Go.RowKit
set_option linter.unusedVariables false

set_option maxHeartbeats 4000000 in
set_option maxRecDepth 100000 in
theorem insert_two_split (pb : Nat) (d : Nd) (kb : Nat) (L1 : List Nd) (n : Nd) (L2 : List Nd) (j : Nat) (e : Int) (w : World) (hP : Path1 w pb d.b L1.length) (p2 : w.cell? ⟨pb, 2, none⟩ = some (.pointer (some ⟨n.b, 0, none⟩))) (p3 : w.cell? ⟨pb, 3, none⟩ = some (.int .i64 j)) (h22 : w.cell? ⟨pb, 22, none⟩ = some (.int .i64 2)) (hT : Two w d kb (L1 ++ ([n] ++ L2))) (hj : j ≤ n.xs.length) (hl : n.xs.length = 125) (hd : d.xs.length ≤ 124) (hp : ¬ twoFoot d kb (L1 ++ ([n] ++ L2)) pb) :
    Calls Yba.prog 39 #[.pointer (some ⟨pb, 0, none⟩), .int .i64 e] w fun r w' => TwoIns d kb L1 n L2 j e w r w' := by
  obtain ⟨pn, pi⟩ := hP
  have hnm : n ∈ L1 ++ ([n] ++ L2) := by simp
  have HT := hide hT
  have HN := hide (hT.leaf n hnm)
  have hlt := (hT.leaf n hnm).1.lt
  have hdlt := hT.E.lt
  have hklt := hT.K.lt
  have hs := hT.sep n hnm
  have hpd : pb ≠ d.b ∧ pb ≠ d.eb ∧ pb ≠ kb := ⟨fun h => hp (.inl h), fun h => hp (.inr (.inl h)), fun h => hp (.inr (.inr (.inl h)))⟩
  have hp1 : pb ≠ n.b := fun h => hp (.inr (.inr (.inr ⟨n, hnm, .inl h⟩)))
  have hp2 : pb ≠ n.eb := fun h => hp (.inr (.inr (.inr ⟨n, hnm, .inr h⟩)))
  have hpl := World.block_lt_of_cell? w _ pn
  simp only at hpl
  have HL := hide hl
  have HS := hide hs
  clear hT hl hs
  go_enter Yba.func39, Yba.ntmps39
  go_wp2
  refine wp_loop_rounds 2 ?_
  rw [rounds_succ]
  go_wp2_with fail
  have hO1 : Hid (Only (fun _ => False) w (w.alloc (.cells #[.pointer (some ⟨n.b, 0, none⟩), .int .i64 j] 77))) := (Only.refl _ _).alloc _
  have g0 : (w.alloc (.cells #[.pointer (some ⟨n.b, 0, none⟩), .int .i64 j] 77)).cell? ⟨w.heap.size, 0, none⟩ = some (.pointer (some ⟨n.b, 0, none⟩)) := by simp
  obtain ⟨fb, hfb⟩ : ∃ fb, fb = w.heap.size := ⟨_, rfl⟩
  rw [← hfb] at g0 ⊢
  generalize (w.alloc (.cells #[.pointer (some ⟨n.b, 0, none⟩), .int .i64 j] 77)) = w1 at hO1 g0 ⊢
  have hf1 : fb ≠ n.b := by omega
  have hf2 : fb ≠ n.eb := by omega
  have hfl : fb < w1.heap.size := World.block_lt_of_cell? w1 _ g0
  have hpl1 : pb < w1.heap.size := Nat.lt_of_lt_of_le hpl hO1.out.size
  clear hfb
  refine (insertAt_leaf n j e (.pointer none) w1 (HN.out.1.kept hO1.out (fun h => h) (fun h => h)) (hO1.out.cell HN.out.2 (fun h => h)) hj (by rw [HL.out]; omega)).mono ?_
  rintro r w2 ⟨rfl, n', hb', hx', heb', hE', hO2, h02⟩
  have g2 := hO2.cell g0 (fun h => h.elim hf1 hf2)
  have p0 := hO2.cell (hO1.out.cell pn (fun h => h)) (fun h => h.elim hp1 hp2)
  have p1 := hO2.cell (hO1.out.cell pi (fun h => h)) (fun h => h.elim hp1 hp2)
  have e2 := hE'.cell
  rw [hb', hx', ins_length, HL.out] at e2
  have HO2 : Hid (Only (fun k => k = n.b ∨ k = n.eb) w w2) := (hO1.out.mono (G := fun k => k = n.b ∨ k = n.eb) (fun _ _ h => h.elim)).trans hO2 (fun k h => .inl h)
  have HE2 := hide hE'
  have HX' := hide hx'
  have HEB' : Hid (n'.eb = n.eb ∨ w.heap.size ≤ n'.eb) := heb'.elim .inl (fun h => .inr (Nat.le_trans hO1.out.size h))
  have hpe : pb ≠ n'.eb := by rcases heb' with h | h <;> omega
  clear hO2 heb' hE' hx' pn pi g0 h22 p2 p3
  go_wp2_with fail
  rw [← hb'] at h02 ⊢
  refine (split_leaf n' w2 HE2.out h02 (by rw [HX'.out, ins_length, HL.out])).mono ?_
  rintro r w3 ⟨l, q, mid, rfl, hPt⟩
  have hpb' : pb ≠ n'.b := by rw [hb']; exact hp1
  have q0 := hPt.only.cell p0 (fun h => h.elim hpb' hpe)
  have q1 := hPt.only.cell p1 (fun h => h.elim hpb' hpe)
  have HPT := hide hPt
  have HB' := hide hb'
  clear hPt g2 e2 p0 p1 hb'
  go_wp2_with fail
  rw [rounds_succ]
  go_wp2_with fail
  have hO03 : Hid (Only (fun k => k = n.b ∨ k = n.eb) w w3) := HO2.out.trans HPT.out.only (fun k h => by
    have h1 := HB'.out
    have h2 := HEB'.out
    omega)
  have hz3 := hO03.out.size
  have hO3 : Hid (Only (fun _ => False) w3 (w3.alloc (.cells #[.pointer (some ⟨d.b, 0, none⟩), .int .i64 L1.length] 77))) := (Only.refl _ _).alloc _
  have g3 : (w3.alloc (.cells #[.pointer (some ⟨d.b, 0, none⟩), .int .i64 L1.length] 77)).cell? ⟨w3.heap.size, 0, none⟩ = some (.pointer (some ⟨d.b, 0, none⟩)) := by simp
  obtain ⟨gb, hgb⟩ : ∃ gb, gb = w3.heap.size := ⟨_, rfl⟩
  rw [← hgb] at g3 ⊢
  generalize (w3.alloc (.cells #[.pointer (some ⟨d.b, 0, none⟩), .int .i64 L1.length] 77)) = w4 at hO3 g3 ⊢
  have hg1 : gb ≠ d.b := by omega
  have hg2 : gb ≠ d.eb := by omega
  have hg3 : gb ≠ kb := by omega
  clear hgb
  have hO04 : Hid (Only (fun k => k = n.b ∨ k = n.eb) w w4) := hO03.out.trans hO3.out (fun k h => h.elim)
  have hsn := HS.out
  have hd1 : ¬ (d.b = n.b ∨ d.b = n.eb) := by omega
  have hd2 : ¬ (d.eb = n.b ∨ d.eb = n.eb) := by omega
  have hk1 : ¬ (kb = n.b ∨ kb = n.eb) := by omega
  have hlen : (L1 ++ ([n] ++ L2)).length = d.xs.length + 1 := HT.out.len
  refine (insertAt_inner d kb ((L1 ++ ([n] ++ L2)).map Nd.b) L1.length mid q.b w4 (HT.out.E.kept hO04.out hd1 hd2) (HT.out.K.kept hO04.out hd1 hk1) HT.out.kb1 HT.out.kb2 (by rw [List.length_map]; exact hlen) (by simp at hlen; omega) (by omega)).mono ?_
  rintro r w5 ⟨rfl, d', hdb, hdx, hdeb, hdE, hdO, hdK⟩
  have g5 := hdO.cell g3 (fun h => h.elim hg1 (fun h => h.elim hg2 hg3))
  have q5 := hdO.cell (hO3.out.cell q0 (fun h => h)) (fun h => h.elim hpd.1 (fun h => h.elim hpd.2.1 hpd.2.2))
  have e5 := hdE.cell
  rw [hdb, hdx, ins_length] at e5
  have FIN : Hid (TwoIns d kb L1 n L2 j e w (.returned (.pointer (some ⟨d.b, 0, none⟩))) w5) := by
    have hPt := HPT.out
    have hN1 : blkOf [n] n.b := ⟨n, by simp, .inl rfl⟩
    have hN2 : blkOf [n] n.eb := ⟨n, by simp, .inr rfl⟩
    have h2s := HO2.out.size
    have hbn := HB'.out
    have hen := HEB'.out
    have hlb : l.b = n.b := hPt.lb.trans hbn
    have hle : l.eb = n'.eb := hPt.leb
    have hq1 := hPt.rb
    have hq2 := hPt.reb
    have hE2lt := HE2.out.lt
    have hqlt := hPt.rE.lt
    have h4s := hO3.out.size
    have hO35 : Only (fun k => k = d.b ∨ k = d.eb ∨ k = kb) w3 w5 := (hO3.out.mono (G := fun k => k = d.b ∨ k = d.eb ∨ k = kb) (fun _ _ h => h.elim)).trans hdO (fun k h => .inl h)
    have hO05 : Only (fun k => k = d.b ∨ k = d.eb ∨ k = kb ∨ blkOf [n] k) w w5 := (hO04.out.mono (G := fun k => k = d.b ∨ k = d.eb ∨ k = kb ∨ blkOf [n] k) (fun k _ h => .inr (.inr (.inr ⟨n, by simp, h⟩)))).trans hdO (fun k h => .inl (h.elim .inl (fun h => h.elim (fun h => .inr (.inl h)) (fun h => .inr (.inr (.inl h))))))
    have hMb : ∀ m ∈ [l, q], (blkOf [n] m.b ∨ w.heap.size ≤ m.b) ∧ (blkOf [n] m.eb ∨ w.heap.size ≤ m.eb) := by
      intro m hm
      rcases List.mem_cons.1 hm with rfl | hm
      · exact ⟨.inl (hlb ▸ hN1), hen.elim (fun h => .inl (by rw [hle, h]; exact hN2)) (fun h => .inr (by omega))⟩
      · have hm' : m = q := by simpa using hm
        subst hm'
        exact ⟨.inr (by omega), .inr (by omega)⟩
    have hdeb' : d'.eb = d.eb ∨ w3.heap.size ≤ d'.eb := hdeb.elim .inl (fun h => .inr (Nat.le_trans h4s h))
    have hEl : EOK w5 l := hPt.lE.kept hO35 (by omega) (by omega)
    have hEq : EOK w5 q := hPt.rE.kept hO35 (by omega) (by omega)
    refine ⟨d', [l, q], rfl, hdb, two_replace HT.out hdb (hdeb'.elim .inl (fun h => .inr (by omega))) hdE ?_ ?_ hO05 ?_ ?_ ?_, .inr ⟨l, q, rfl, HL.out, ?_, ?_, ?_⟩, foot_replace hdb (hdeb'.elim .inl (fun h => .inr (by omega))) hMb, hO05.mono (fun k _ h => ?_)⟩
    · have e1 : (L1 ++ ([l, q] ++ L2)).map Nd.b = kins (L1.length + 1) q.b ((L1 ++ ([n] ++ L2)).map Nd.b) := by
        have e2 : (L1 ++ ([n] ++ L2)).map Nd.b = (L1.map Nd.b ++ [n.b]) ++ L2.map Nd.b := by simp
        have e3 : (L1.map Nd.b ++ [n.b]).length = L1.length + 1 := by simp
        unfold kins
        rw [e2, ← e3, List.take_left, List.drop_left]
        simp [hlb]
      rw [e1]; exact hdK
    · rw [hdx, ins_length, ← hlen]; simp; omega
    · intro m hm
      have h1 := hMb m hm
      rcases List.mem_cons.1 hm with rfl | hm
      · exact ⟨hEl, hO35.cell hPt.lk (show ¬ (m.b = d.b ∨ m.b = d.eb ∨ m.b = kb) by omega), h1⟩
      · have hm' : m = q := by simpa using hm
        subst hm'
        exact ⟨hEq, hO35.cell hPt.rk (show ¬ (m.b = d.b ∨ m.b = d.eb ∨ m.b = kb) by omega), h1⟩
    · simp only [List.pairwise_cons, List.mem_singleton, forall_eq, List.not_mem_nil, false_implies, implies_true, List.Pairwise.nil, and_true, Apart]
      have h3 : l.b < w2.heap.size ∧ l.eb < w2.heap.size := by rw [hlb, hle, ← hbn]; exact hE2lt
      omega
    · intro m hm
      rcases List.mem_cons.1 hm with rfl | hm
      · have h3 : m.b < w2.heap.size ∧ m.eb < w2.heap.size := by rw [hlb, hle, ← hbn]; exact hE2lt
        have hz := hPt.only.size
        rcases hdeb' with h | h
        · rw [h, hlb, hle]
          rcases hen with h' | h' <;> omega
        · omega
      · have hm' : m = q := by simpa using hm
        subst hm'
        rcases hdeb' with h | h <;> omega
    · rw [hdx, hPt.mx, HX'.out]
    · rw [hPt.lx, HX'.out]
    · rw [hPt.rx, HX'.out]
    · rcases h with h | h | h | ⟨m, hm, h⟩
      · exact .inl h
      · exact .inr (.inl h)
      · exact .inr (.inr (.inl h))
      · exact .inr (.inr (.inr ⟨m, by simp at hm ⊢; exact .inr (.inl hm), h⟩))
  have hl' : ((d.xs.length + 1 : Nat) : Int) ≤ 125 := by omega
  clear hdO hdeb hdE hdK hdx hdb hO3 hO03 hO04 q0 q1 g3 HPT HE2 HO2 HEB' HB' HX'
  go_wp2
  go_ret
  exact FIN.out
end Go.Proofs.Ybulkcgwo.T
