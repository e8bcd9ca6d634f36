import Derived.Test.YbulkcgwoTFromL
namespace Go.Proofs.Ybulkcgwo.T
open Go.RowKit
set_option linter.unusedVariables false
set_option linter.unusedSimpArgs false

def Cut20 (w : World) (nb neb : Nat) (ys : List Int) (wx : World) : Prop := ∃ n' : Nd, n'.b = nb ∧ n'.xs = ys ∧ (n'.eb = neb ∨ w.heap.size ≤ n'.eb) ∧ EOK wx n' ∧ Only (fun k => k = nb ∨ k = neb) w wx ∧ wx.cell? ⟨nb, 0, none⟩ = some (.pointer none)
theorem rgt_hn (xs : List Int) : (ints (xs.drop 1)).length = Nat.min (xs.length - 1) xs.length := by
  rw [ints_length, List.length_drop]; exact (Nat.min_eq_left (by omega)).symm
theorem rgt_hpos {W : World} {eb eo : Nat} {xs : List Int} (hr : W.rangeAt eb eo (ints xs)) :
    0 < (ints (xs.drop 1)).length → some (⟨eb, eo, none⟩ : Addr) = some ⟨eb, eo, none⟩ ∧ ∃ ad, some (⟨eb, eo + 1, none⟩ : Addr) = some ad ∧ ∀ j v, (ints (xs.drop 1))[j]? = some v → W.cell? (ad.add j) = some v :=
  fun _ => ⟨rfl, _, rfl, drop_src hr⟩
/-- There is no leaf before, or it can spare none. -/
def NoLeft (L1 : List Nd) : Prop := L1 = [] ∨ ∃ L0 p, L1 = L0 ++ [p] ∧ p.xs.length ≤ 62

set_option maxHeartbeats 4000000 in
set_option maxRecDepth 100000 in
theorem refill_right (d : Nd) (kb : Nat) (L1 : List Nd) (n f : Nd) (L2 : List Nd) (w : World) (hT : Two w d kb (L1 ++ ([n, f] ++ L2))) (hl : d.xs.length ≤ 125) (hf6 : 62 < f.xs.length) (hf1 : f.xs.length ≤ 1000) (hn1 : n.xs.length ≤ 1000) (hno : NoLeft L1) :
    Calls Yba.prog 58 #[.pointer (some ⟨d.b, 0, none⟩), .int .i64 ((L1.length : Nat) : Int)] w fun e w' => e = .returned (.tuple #[]) ∧ ∃ n' f' : Nd, n'.xs = n.xs ++ [d.xs.getD L1.length 0] ∧ f'.xs = del 0 f.xs ∧ TwoRef d kb L1 [n, f] L2 [n', f'] (d.xs.set L1.length (f.xs.getD 0 0)) w w' := by
  have HT := hide hT
  have hi : L1.length < d.xs.length := by have := hT.len; simp at this; omega
  have hfm : f ∈ L1 ++ ([n, f] ++ L2) := by simp
  have hnm : n ∈ L1 ++ ([n, f] ++ L2) := by simp
  have ck0 := kid_at (L1 := L1) (n := n) (L2 := f :: L2) hT.K
  have ck1 := kid_at (L1 := L1 ++ [n]) (n := f) (L2 := L2) (by simpa using hT.K)
  rw [List.length_append, List.length_singleton] at ck1
  obtain ⟨⟨fc, ff, flen, fmax, frow, froom, fap, fpos⟩, f0⟩ := hT.leaf f hfm
  obtain ⟨⟨nc, nf, nlen, nmax, nrow, nroom, nap, npos⟩, n0⟩ := hT.leaf n hnm
  have dc := hT.E.cell
  have d0 := hT.K.cell
  have hx := range_ints hT.E.row hi
  have hy := range_ints frow (k := 0) (by omega)
  rw [Nat.add_zero] at hy
  have HSf := hide (hT.sep f hfm)
  have HSn := hide (hT.sep n hnm)
  have hfn' : n.b ≠ f.b ∧ n.b ≠ f.eb ∧ n.eb ≠ f.b ∧ n.eb ≠ f.eb := by
    have h1 := (List.pairwise_append.1 (List.pairwise_append.1 hT.dis).2.1).1
    exact (List.pairwise_cons.1 h1).1 f (by simp)
  have HFN := hide hfn'
  clear hfn'
  have HLD := hide hT.E.lt
  have HLK := hide hT.K.lt.2
  have HLF := hide (hT.leaf f hfm).1.lt
  have HLN := hide (hT.leaf n hnm).1.lt
  have HXF := hide (hT.E.room L1.length (by have := hT.E.len; omega)).2
  have HFR := hide frow
  have HFT := hide froom
  have HNO : Hid (L1.length = 0 ∨ ∃ (k : Nat) (p : Nd), L1.length = k + 1 ∧ w.cell? ⟨kb, k, none⟩ = some (.pointer (some ⟨p.b, 0, none⟩)) ∧ w.cell? ⟨p.b, 1, none⟩ = some (.slice (some ⟨p.eb, p.eo, none⟩) p.xs.length p.cap) ∧ p.xs.length ≤ 62) := by
    rcases hno with rfl | ⟨L0, p, rfl, hp⟩
    · exact .inl rfl
    · refine .inr ⟨L0.length, p, by simp, kid_at (L1 := L0) (n := p) (L2 := [n, f] ++ L2) (by simpa using hT.K), (hT.leaf p (by simp)).1.cell, hp⟩
  clear hT nrow nroom frow froom hno
  obtain ⟨b, eb, eo, cap, xs⟩ := d
  obtain ⟨fb, feb, feo, fcap, fx⟩ := f
  obtain ⟨nb, neb, neo, ncap, nx⟩ := n
  simp only at *
  generalize hs : xs.getD L1.length 0 = s at hx
  generalize ht : fx.getD 0 0 = y at hy
  have HS := hide hs
  have HY := hide ht
  clear hs ht
  generalize hiN : L1.length = i at *
  have HIN := hide hiN
  clear hiN
  have Qq1 : Hid (¬ (b = nb ∨ b = neb)) := by have h1 := HSn.out; have h2 := HSf.out; have h3 := HFN.out; show ¬ (b = nb ∨ b = neb); omega
  have Qq2 : Hid (¬ (eb = nb ∨ eb = neb)) := by have h1 := HSn.out; have h2 := HSf.out; have h3 := HFN.out; show ¬ (eb = nb ∨ eb = neb); omega
  have Qq3 : Hid (¬ (fb = nb ∨ fb = neb)) := by have h1 := HSn.out; have h2 := HSf.out; have h3 := HFN.out; show ¬ (fb = nb ∨ fb = neb); omega
  have Qq4 : Hid (¬ (feb = nb ∨ feb = neb)) := by have h1 := HSn.out; have h2 := HSf.out; have h3 := HFN.out; show ¬ (feb = nb ∨ feb = neb); omega
  have Qq5 : Hid (¬ (kb = nb ∨ kb = neb)) := by have h1 := HSn.out; have h2 := HSf.out; have h3 := HFN.out; show ¬ (kb = nb ∨ kb = neb); omega
  have Qr1 : Hid (¬ (b = fb ∨ b = feb)) := by have h1 := HSn.out; have h2 := HSf.out; have h3 := HFN.out; show ¬ (b = fb ∨ b = feb); omega
  have Qr2 : Hid (¬ (eb = fb ∨ eb = feb)) := by have h1 := HSn.out; have h2 := HSf.out; have h3 := HFN.out; show ¬ (eb = fb ∨ eb = feb); omega
  have Qr3 : Hid (¬ (nb = fb ∨ nb = feb)) := by have h1 := HSn.out; have h2 := HSf.out; have h3 := HFN.out; show ¬ (nb = fb ∨ nb = feb); omega
  have Qr5 : Hid (¬ (kb = fb ∨ kb = feb)) := by have h1 := HSn.out; have h2 := HSf.out; have h3 := HFN.out; show ¬ (kb = fb ∨ kb = feb); omega
  have hkbe : kb ≠ eb := HT.out.kb2
  have j0 : (i : Int) < 127 := by omega
  have j1 : (i : Int) + 1 < 127 := by omega
  have j2 : (i : Int) < (xs.length : Int) := by omega
  have j3 : (62 : Int) < (fx.length : Int) := by omega
  have hw1 : IntKind.i64.wrap ((i : Int) + 1) = (i : Int) + 1 := by simp only [IntKind.wrap_i64]; omega
  have hw2 : IntKind.i64.wrap ((fx.length : Int) - 1) = (fx.length : Int) - 1 := by simp only [IntKind.wrap_i64]; omega
  go_enter Yba.func58, Yba.ntmps58
  go_upto_region 1 with fail
  go_cut [36] from 19 to 35 (fun u wx => u = .bool false ∧ wx = w)
  case first =>
    rcases HNO.out with h0 | ⟨k, p, hk, hpc, hpe, hpl⟩
    · subst h0
      go_wp2_with fail
      go_meet
      exact ⟨rfl, rfl⟩
    · subst hk
      have z0 : (k : Int) < 127 := by omega
      have z1 : ¬ (62 : Int) < (p.xs.length : Int) := by omega
      have z2 : (0 : Int) < (k : Int) + 1 := by omega
      have z3 : IntKind.i64.wrap (k : Int) = (k : Int) := by simp only [IntKind.wrap_i64]; omega
      go_wp2_with fail
      go_meet
      exact ⟨rfl, rfl⟩
  case rest =>
    obtain ⟨rfl, hwc⟩ := hcut
    rw [hwc]
    clear hwc
    have HIns := hide (insertAt_leaf ⟨nb, neb, neo, ncap, nx⟩ nx.length s (.pointer none) w.drew ((HT.out.leaf _ hnm).1.kept ((Only.refl (fun _ => False) w).drew) (fun h => h) (fun h => h)) (by simpa using n0) (Nat.le_refl _) hn1)
    simp only at HIns
    go_upto_region 20 with fail
    go_cut [225] from 226 to 239 (fun u wx => Cut20 w nb neb (ins nx.length s nx) wx)
    case first =>
      go_wp2_with fail
      go_region_with (first
        | (go_at_call 53; refine HIns.out.mono ?_; rintro e w4 ⟨rfl, n', hnb', hnx', hne', hnE, hnO, hn0⟩; have HC20 : Hid (Cut20 w nb neb (ins nx.length s nx) w4) := ⟨n', hnb', hnx', hne', hnE, ((Only.refl (fun k => k = nb ∨ k = neb) w).drew).trans hnO (fun k h => .inl h), hn0⟩; clear hnb' hnx' hne' hnE hnO hn0 HIns)
        | fail)
      all_goals (go_wp2_with fail; go_meet)
      all_goals exact HC20.out
    case rest =>
      obtain ⟨n', hnb', hnx', hne', hnE, hnO, hn0⟩ := hcut
      have HNB := hide hnb'
      have HNX := hide hnx'
      have HNE' := hide hne'
      have HN4 := hide hnE
      have HO4 := hide hnO
      have HN04 := hide hn0
      clear hnb' hnx' hne' hnE hnO hn0 HIns
      have dc4 := HO4.out.cell dc Qq1.out
      have hx4 := HO4.out.cell hx Qq2.out
      have hxf := (HO4.out.frozen (p := ⟨eb, eo + i, none⟩) HLD.out.2 Qq2.out).trans HXF.out
      have fc4 := HO4.out.cell fc Qq3.out
      have f04 := HO4.out.cell f0 Qq3.out
      have hy4 := HO4.out.cell hy Qq4.out
      have j6 : 0 < fx.length := by omega
      clear dc d0 fc f0 nc n0 hx hy ck0 ck1 nf ff
      go_wp2
      go_region
      have hO5 : Hid (Only (fun k => k = eb) wc (wc.setCell ⟨eb, eo + i, none⟩ (.int .i64 y)).drew) := ((Only.refl (fun k => k = eb) wc).setCell (.inl rfl) _).drew
      have HE5 : Hid (EOK (wc.setCell ⟨eb, eo + i, none⟩ (.int .i64 y)).drew ⟨b, eb, eo, cap, xs.set i y⟩) := (eok_set (HT.out.E.kept HO4.out Qq1.out Qq2.out) i y hi).kept ((Only.refl (fun _ => False) _).drew) (fun h => h) (fun h => h)
      have HK5 := hide ((kok_set (HT.out.K.kept HO4.out Qq1.out Qq5.out) hkbe HT.out.E.apart i (.int .i64 y)).kept ((Only.refl (fun _ => False) _).drew) (fun h => h) (fun h => h))
      generalize (wc.setCell ⟨eb, eo + i, none⟩ (.int .i64 y)).drew = w5 at hO5 HE5 HK5 ⊢
      have HF5 : Hid (EOK w5 ⟨fb, feb, feo, fcap, fx⟩) := ((HT.out.leaf _ hfm).1.kept HO4.out Qq3.out Qq4.out).kept hO5.out HSf.out.2.1 HSf.out.2.2.2.2.1
      have f05 := hO5.out.cell f04 HSf.out.2.1
      have N05 := hide (hO5.out.cell HN04.out HSn.out.2.1)
      have hw6 : Hid (Rm w5 fb feb feo fcap fx.length 0 fx (.pointer none) (w5.drew.setCells feb feo (ints (fx.drop 1)))) := rm_copied HF5.out f05 (by omega)
      obtain ⟨e1, e2, -, -, e3, e4, -, -⟩ := HF5.out
      simp only at e1 e2
      have HFR5 := hide e3
      have HFT5 := hide e4
      clear e3 e4 dc4 hx4 hxf fc4 f04 hy4
      have s1 := run_cut one23 (some ⟨feb, feo, none⟩) fx.length fcap 1 1 (by omega) (by omega)
      rw [cutA_some (by omega)] at s1
      have s3 := run_cut one23 (some ⟨feb, feo, none⟩) fx.length fcap (fx.length - 1) ((fx.length : Int) - 1) (by omega) (by omega)
      rw [cutA_some (by omega), show fx.length - (fx.length - 1) = 1 by omega] at s3
      have s4 := run_cutTo one23 feb feo fx.length fcap (fx.length - 1) ((fx.length : Int) - 1) (by omega) (by omega)
      go_wp2
      go_region_held3 (fun w' => w'.cell? ⟨fb, 1, none⟩ = some (.slice (some ⟨feb, feo, none⟩) fx.length fcap)) (first | exact (by simpa using e1) | exact cell_cells (by simpa using e1) _ _ _ (fun h => .inl (by have := fap h.symm; simp; omega))) ((refine step_cpy (t2 := 23) one23 rfl (.tmp 255) (.tmp 260) rfl _ _ _ _ _ _ feb feo (ints (fx.drop 1)) rfl rfl ?_ ?_ ?_ (ints_one _) ?_; (exact rgt_hn fx); (exact rgt_hpos ((World.rangeAt_drew _ _ _ _).2 HFR5.out)); (exact there_mono ((World.there_drew _ _ _ _).2 HFT5.out) (by rw [ints_length, List.length_drop]; omega))))
      generalize (w5.drew.setCells feb feo (ints (fx.drop 1))) = w6 at hw6 ⊢
      have n1 := hw6.out.1
      have n0 := hw6.out.2.1
      have nf := hw6.out.2.2.1
      have hw7 := hide (rm_cleared hw6.out fap (by omega) (List.replicate 1 (Value.int .i64 0)))
      clear s1 e1 e2 f05
      go_wp2_with (first
        | (refine wpList_clr one23 rfl (.tmp 268) rfl (some ⟨feb, feo + (fx.length - 1), none⟩) 1 _ feb (feo + (fx.length - 1)) rfl (fun _ => rfl) (there_from hw6.out.2.2.2.2.1 _ 1 (by omega)) ?_; generalize (w6.setCells feb (feo + (fx.length - 1)) (List.replicate 1 (Value.int .i64 0))) = w7 at hw7 ⊢; have m1 := hw7.out.1; have m0 := hw7.out.2.1; have mf := hw7.out.2.2.1; clear n1 n0 nf s3)
        | fail)
      refine bodyPost_ret (results_none rfl _ _ _) rfl ?_
      obtain ⟨t1, t2, t3⟩ := rm_stored hw7.out HF5.out (by omega)
      have hin := HIN.out
      subst hin
      have hss := HS.out
      subst hss
      have hyy := HY.out
      subst hyy
      have hnb := HNB.out
      have r4 : ¬ (n'.eb = fb ∨ n'.eb = feb) := by
        have h1 := HFN.out; have h2 := HLF.out
        rcases HNE'.out with e | e
        · rw [e]; omega
        · omega
      have b2 : n'.eb ≠ eb := by
        have h1 := HSn.out; have h2 := HLD.out
        rcases HNE'.out with e | e
        · rw [e]; omega
        · omega
      have b3 : n'.b ≠ eb := by rw [hnb]; exact HSn.out.2.1
      have b4 : ¬ (n'.b = fb ∨ n'.b = feb) := by rw [hnb]; exact Qr3.out
      refine ⟨rfl, n', ⟨fb, feb, feo, fcap, del 0 fx⟩, by rw [HNX.out]; simp [ins], rfl, ref_end (d' := ⟨b, eb, eo, cap, xs.set L1.length (fx.getD 0 0)⟩) HT.out rfl rfl (by simp) (HE5.out.kept t3 Qr1.out Qr2.out) (HK5.out.kept t3 Qr1.out Qr5.out) ?_ ⟨hnb, HNE'.out, (HN4.out.kept hO5.out b3 b2).kept t3 b4 r4, t3.cell N05.out Qr3.out⟩ ⟨rfl, .inl rfl, t1, t2⟩ (.inr rfl)⟩
      have o1 : Only (fun k => k = b ∨ k = eb ∨ k = kb ∨ blkOf [⟨nb, neb, neo, ncap, nx⟩, ⟨fb, feb, feo, fcap, fx⟩] k) w wc := HO4.out.mono (fun k _ h => .inr (.inr (.inr ⟨⟨nb, neb, neo, ncap, nx⟩, by simp, h⟩)))
      exact (o1.trans hO5.out (fun k h => .inl (.inr (.inl h)))).trans t3 (fun k h => .inl (.inr (.inr (.inr ⟨⟨fb, feb, feo, fcap, fx⟩, by simp, h⟩))))
end Go.Proofs.Ybulkcgwo.T
