import Derived.Test.YbulkcgwoTJoin
import Derived.Deep.DeepCutAuto
namespace Go.Proofs.Ybulkcgwo.T
open Go.RowKit
set_option linter.unusedVariables false
set_option linter.unusedSimpArgs false

/-- An element of a node is replaced. -/
theorem eok_set {w : World} {d : Nd} (h : EOK w d) (i : Nat) (y : Int) (hi : i < d.xs.length) : EOK (w.setCell ⟨d.eb, d.eo + i, none⟩ (.int .i64 y)) ⟨d.b, d.eb, d.eo, d.cap, d.xs.set i y⟩ := by
  obtain ⟨hc, hf, hlen, hmax, hrow, hroom, hap, hpos⟩ := h
  have hu := range_ints hrow hi
  refine ⟨?_, by rw [World.frozen?_setCell]; exact hf, by simpa using hlen, hmax, ?_, World.there_setCells hroom d.eb (d.eo + i) [_], hap, hpos⟩
  · simp only [List.length_set]
    rw [World.cell?_setCell_other _ _ _ _ (fun e => by injection e with e1 e2 _; have := hap e1; omega)]; exact hc
  · intro j v hv
    simp only at hv ⊢
    simp only [ints, List.getElem?_map, List.getElem?_set] at hv
    by_cases e : i = j
    · subst e
      rw [World.cell?_setCell_same _ _ _ hu]
      simp [hi] at hv
      rw [hv]
    · rw [World.cell?_setCell_other _ _ _ _ (fun e2 => e (by injection e2 with _ h2 _; omega))]
      simp [e] at hv
      obtain ⟨z, hz, rfl⟩ := hv
      exact hrow j _ (by simp [ints, hz])

theorem kok_set {w : World} {b kb eb eo : Nat} {ks : List Nat} (h : KOK w b kb ks) (hk : kb ≠ eb) (ha : eb = b → 2 ≤ eo) (i : Nat) (v : Value) : KOK (w.setCell ⟨eb, eo + i, none⟩ v) b kb ks :=
  ⟨by rw [World.cell?_setCell_other _ _ _ _ (fun e => by injection e with e1 e2 _; have := ha e1; omega)]; exact h.cell, World.rangeAt_setCells_apart h.row eb (eo + i) [_] (.inl hk), World.there_setCells h.room eb (eo + i) [_], h.len⟩
theorem new_oneD (w : World) (v : Value) (t : TypeId) : ∀ j u, [v][j]? = some u → (w.alloc (.cells #[v] t)).drew.cell? ((⟨w.heap.size, 0, none⟩ : Addr).add j) = some u := fun j u h => by
  rw [World.cell?_drew]; exact new_one w v t j u h

/-- What a refill leaves. -/
def TwoRef (d : Nd) (kb : Nat) (L1 N L2 M : List Nd) (xs' : List Int) (w w' : World) : Prop :=
  ∃ d' : Nd, d'.b = d.b ∧ d'.eb = d.eb ∧ Two w' d' kb (L1 ++ (M ++ L2)) ∧ d'.xs = xs' ∧
    (∀ k, twoFoot d' kb (L1 ++ (M ++ L2)) k → twoFoot d kb (L1 ++ (N ++ L2)) k ∨ w.heap.size ≤ k) ∧ Only (twoFoot d kb (L1 ++ (N ++ L2))) w w'

theorem only_foot {d : Nd} {kb : Nat} {L1 N L2 : List Nd} {w w' : World} (h : Only (fun k => k = d.b ∨ k = d.eb ∨ k = kb ∨ blkOf N k) w w') : Only (twoFoot d kb (L1 ++ (N ++ L2))) w w' := by
  refine h.mono ?_
  rintro k _ (h | h | h | ⟨n, hn, h⟩)
  · exact .inl h
  · exact .inr (.inl h)
  · exact .inr (.inr (.inl h))
  · exact .inr (.inr (.inr ⟨n, by simp [hn], h⟩))

theorem ref_end {d d' : Nd} {kb : Nat} {L1 L2 : List Nd} {p q p' q' : Nd} {w w' : World} (hT : Two w d kb (L1 ++ ([p, q] ++ L2))) (hb : d'.b = d.b) (heb : d'.eb = d.eb) (hlen : d'.xs.length = d.xs.length) (hE : EOK w' d') (hK : KOK w' d.b kb ((L1 ++ ([p, q] ++ L2)).map Nd.b))
    (hO : Only (fun k => k = d.b ∨ k = d.eb ∨ k = kb ∨ blkOf [p, q] k) w w') (hp : p'.b = p.b ∧ (p'.eb = p.eb ∨ w.heap.size ≤ p'.eb) ∧ EOK w' p' ∧ w'.cell? ⟨p.b, 0, none⟩ = some (.pointer none)) (hq : q'.b = q.b ∧ (q'.eb = q.eb ∨ w.heap.size ≤ q'.eb) ∧ EOK w' q' ∧ w'.cell? ⟨q.b, 0, none⟩ = some (.pointer none)) (hpq : p'.eb = p.eb ∨ q'.eb = q.eb) :
    TwoRef d kb L1 [p, q] L2 [p', q'] d'.xs w w' := by
  obtain ⟨p1, p2, p3, p4⟩ := hp
  obtain ⟨q1, q2, q3, q4⟩ := hq
  have hpm : p ∈ L1 ++ ([p, q] ++ L2) := by simp
  have hqm : q ∈ L1 ++ ([p, q] ++ L2) := by simp
  have sp := hT.sep p hpm
  have sq := hT.sep q hqm
  have lp := (hT.leaf p hpm).1.lt
  have lq := (hT.leaf q hqm).1.lt
  have ld := hT.E.lt
  have hap : p.b ≠ q.b ∧ p.b ≠ q.eb ∧ p.eb ≠ q.b ∧ p.eb ≠ q.eb := by
    have h1 := (List.pairwise_append.1 (List.pairwise_append.1 hT.dis).2.1).1
    exact (List.pairwise_cons.1 h1).1 q (by simp)
  have hN1 : blkOf [p, q] p.b := ⟨p, by simp, .inl rfl⟩
  have hN2 : blkOf [p, q] p.eb := ⟨p, by simp, .inr rfl⟩
  have hN3 : blkOf [p, q] q.b := ⟨q, by simp, .inl rfl⟩
  have hN4 : blkOf [p, q] q.eb := ⟨q, by simp, .inr rfl⟩
  have hM : ∀ m ∈ [p', q'], (blkOf [p, q] m.b ∨ w.heap.size ≤ m.b) ∧ (blkOf [p, q] m.eb ∨ w.heap.size ≤ m.eb) := by
    intro m hm
    simp only [List.mem_cons, List.not_mem_nil, or_false] at hm
    rcases hm with rfl | rfl
    · exact ⟨.inl (by rw [p1]; exact hN1), p2.elim (fun e => .inl (by rw [e]; exact hN2)) .inr⟩
    · exact ⟨.inl (by rw [q1]; exact hN3), q2.elim (fun e => .inl (by rw [e]; exact hN4)) .inr⟩
  have hmap : (L1 ++ ([p', q'] ++ L2)).map Nd.b = (L1 ++ ([p, q] ++ L2)).map Nd.b := by simp [p1, q1]
  refine ⟨d', hb, heb, two_replace hT hb (.inl heb) hE (by rw [hmap]; exact hK) ?_ hO ?_ ?_ ?_, rfl, foot_replace hb (.inl heb) hM, only_foot hO⟩
  · have := hT.len
    rw [hlen]; simpa using this
  · intro m hm
    have h1 := hM m hm
    simp only [List.mem_cons, List.not_mem_nil, or_false] at hm
    rcases hm with rfl | rfl
    · exact ⟨p3, by rw [p1]; exact p4, h1⟩
    · exact ⟨q3, by rw [q1]; exact q4, h1⟩
  · refine List.pairwise_cons.2 ⟨fun m hm => ?_, by simp⟩
    simp only [List.mem_cons, List.not_mem_nil, or_false] at hm
    subst hm
    refine ⟨by rw [p1, q1]; exact hap.1, ?_, ?_, ?_⟩
    · rw [p1]; rcases q2 with e | e
      · rw [e]; exact hap.2.1
      · omega
    · rw [q1]; rcases p2 with e | e
      · rw [e]; exact hap.2.2.1
      · omega
    · rcases hpq with e | e
      · rw [e]; rcases q2 with e2 | e2
        · rw [e2]; exact hap.2.2.2
        · omega
      · rw [e]; rcases p2 with e2 | e2
        · rw [e2]; exact hap.2.2.2
        · omega
  · intro m hm
    rw [heb]
    simp only [List.mem_cons, List.not_mem_nil, or_false] at hm
    rcases hm with rfl | rfl
    · exact ⟨by rw [p1]; exact sp.2.1, by rcases p2 with e | e; rw [e]; exact sp.2.2.2.2.1; omega⟩
    · exact ⟨by rw [q1]; exact sq.2.1, by rcases q2 with e | e; rw [e]; exact sq.2.2.2.2.1; omega⟩

theorem lft_hn (xs : List Int) : (ints xs).length = Nat.min xs.length (xs.length + 1 - 1) := by
  rw [ints_length, Nat.add_sub_cancel]; exact (Nat.min_self _).symm
theorem lft_hn2 (xs : List Int) : (ints xs).length = Nat.min xs.length xs.length := by
  rw [ints_length]; exact (Nat.min_self _).symm
theorem lft_hpos {W : World} {eb eo : Nat} {xs : List Int} {e : Int} (hr : W.rangeAt eb eo (ints xs ++ [.int .i64 e])) :
    0 < (ints xs).length → some (⟨eb, eo + 1, none⟩ : Addr) = some ⟨eb, eo + 1, none⟩ ∧ ∃ ad, some (⟨eb, eo, none⟩ : Addr) = some ad ∧ ∀ j v, (ints xs)[j]? = some v → W.cell? (ad.add j) = some v := by
  intro h0
  refine ⟨rfl, _, rfl, fun j v hv => ?_⟩
  rw [Addr.add_lit]
  refine hr j v ?_
  rw [List.getElem?_append, if_pos (List.getElem?_eq_some_iff.1 hv).1]; exact hv
def Cut4 (w : World) (nb neb : Nat) (nx : List Int) (s : Int) (wx : World) : Prop := ∃ eb1 eo1 cap1, Upd w nb neb eb1 eo1 cap1 (nx.length + 1) (ints nx ++ [.int .i64 s]) (.pointer none) wx ∧ (eb1 = neb ∨ w.heap.size ≤ eb1) ∧ nx.length + 1 ≤ cap1 ∧ cap1 ≤ maxLen
theorem Upd.drew {w w2 : World} {b eb eb1 eo1 cap1 n : Nat} {cells : List Value} {v0 : Value} (h : Upd w b eb eb1 eo1 cap1 n cells v0 w2) : Upd w b eb eb1 eo1 cap1 n cells v0 w2.drew := by
  obtain ⟨h1, h2, h3, h4, h5, h6, h7⟩ := h
  exact ⟨by simpa using h1, by simpa using h2, by simpa using h3, (World.rangeAt_drew _ _ _ _).2 h4, (World.there_drew _ _ _ _).2 h5, h6, h7.drew⟩

set_option maxHeartbeats 10000000 in
set_option maxRecDepth 100000 in
theorem refill_left (d : Nd) (kb : Nat) (L1 : List Nd) (f n : Nd) (L2 : List Nd) (w : World) (hT : Two w d kb (L1 ++ ([f, n] ++ L2))) (hl : d.xs.length ≤ 125) (hf6 : 62 < f.xs.length) (hf1 : f.xs.length ≤ 1000) (hn1 : n.xs.length ≤ 1000) (hn0 : 0 < n.xs.length) :
    Calls Yba.prog 58 #[.pointer (some ⟨d.b, 0, none⟩), .int .i64 ((L1.length + 1 : Nat) : Int)] w fun e w' => e = .returned (.tuple #[]) ∧ ∃ f' n' : Nd, f'.xs = del (f.xs.length - 1) f.xs ∧ n'.xs = d.xs.getD L1.length 0 :: n.xs ∧ TwoRef d kb L1 [f, n] L2 [f', n'] (d.xs.set L1.length (f.xs.getD (f.xs.length - 1) 0)) w w' := by
  have HT := hide hT
  have hi : L1.length < d.xs.length := by have := hT.len; simp at this; omega
  have hfm : f ∈ L1 ++ ([f, n] ++ L2) := by simp
  have hnm : n ∈ L1 ++ ([f, n] ++ L2) := by simp
  have ck0 := kid_at (L1 := L1) (n := f) (L2 := n :: L2) hT.K
  have ck1 := kid_at (L1 := L1 ++ [f]) (n := n) (L2 := L2) (by simpa using hT.K)
  rw [List.length_append, List.length_singleton] at ck1
  obtain ⟨⟨fc, ff, flen, fmax, frow, froom, fap, fpos⟩, f0⟩ := hT.leaf f hfm
  obtain ⟨⟨nc, nf, nlen, nmax, nrow, nroom, nap, npos⟩, n0⟩ := hT.leaf n hnm
  have dc := hT.E.cell
  have d0 := hT.K.cell
  have hx := range_ints hT.E.row hi
  have hy := range_ints frow (k := f.xs.length - 1) (by omega)
  have HSf := hide (hT.sep f hfm)
  have HSn := hide (hT.sep n hnm)
  have hfn' : f.b ≠ n.b ∧ f.b ≠ n.eb ∧ f.eb ≠ n.b ∧ f.eb ≠ n.eb := by
    have h1 := (List.pairwise_append.1 (List.pairwise_append.1 hT.dis).2.1).1
    exact (List.pairwise_cons.1 h1).1 n (by simp)
  have HFN := hide hfn'
  clear hfn'
  have hfb := World.block_lt_of_cell? w _ fc
  have hnb := World.block_lt_of_cell? w _ nc
  have hdb := World.block_lt_of_cell? w _ dc
  have hkb := hT.K.lt.2
  have hde := hT.E.lt.2
  have hfe := there_lt froom fpos
  have hne := there_lt nroom npos
  have HXF := hide (hT.E.room L1.length (by have := hT.E.len; omega)).2
  have HNR := hide nrow
  have HNT := hide nroom
  clear hT nrow nroom frow froom
  obtain ⟨b, eb, eo, cap, xs⟩ := d
  obtain ⟨fb, feb, feo, fcap, fx⟩ := f
  obtain ⟨nb, neb, neo, ncap, nx⟩ := n
  simp only at *
  generalize hs : xs.getD L1.length 0 = s at hx
  generalize ht : fx.getD (fx.length - 1) 0 = y at hy
  have HS := hide hs
  have HY := hide ht
  clear hs ht
  generalize hiN : L1.length = i at *
  have HIN := hide hiN
  clear hiN
  have Qq1 : Hid (¬ (b = nb ∨ b = neb)) := by have h1 := HSn.out; have h2 := HSf.out; have h3 := HFN.out; show ¬ (b = nb ∨ b = neb); omega
  have Qq2 : Hid (¬ (eb = nb ∨ eb = neb)) := by have h1 := HSn.out; have h2 := HSf.out; have h3 := HFN.out; show ¬ (eb = nb ∨ eb = neb); omega
  have Qq3 : Hid (¬ (fb = nb ∨ fb = neb)) := by have h1 := HSn.out; have h2 := HSf.out; have h3 := HFN.out; show ¬ (fb = nb ∨ fb = neb); omega
  have Qq4 : Hid (¬ (feb = nb ∨ feb = neb)) := by have h1 := HSn.out; have h2 := HSf.out; have h3 := HFN.out; show ¬ (feb = nb ∨ feb = neb); omega
  have Qq5 : Hid (¬ (kb = nb ∨ kb = neb)) := by have h1 := HSn.out; have h2 := HSf.out; have h3 := HFN.out; show ¬ (kb = nb ∨ kb = neb); omega
  have Qr1 : Hid (¬ (b = fb ∨ b = feb)) := by have h1 := HSn.out; have h2 := HSf.out; have h3 := HFN.out; show ¬ (b = fb ∨ b = feb); omega
  have Qr2 : Hid (¬ (eb = fb ∨ eb = feb)) := by have h1 := HSn.out; have h2 := HSf.out; have h3 := HFN.out; show ¬ (eb = fb ∨ eb = feb); omega
  have Qr3 : Hid (¬ (nb = fb ∨ nb = feb)) := by have h1 := HSn.out; have h2 := HSf.out; have h3 := HFN.out; show ¬ (nb = fb ∨ nb = feb); omega
  have Qr5 : Hid (¬ (kb = fb ∨ kb = feb)) := by have h1 := HSn.out; have h2 := HSf.out; have h3 := HFN.out; show ¬ (kb = fb ∨ kb = feb); omega
  have hkbe : kb ≠ eb := HT.out.kb2
  have j0 : (i : Int) < 127 := by omega
  have j1 : (i : Int) + 1 < 127 := by omega
  have j2 : (i : Int) < (xs.length : Int) := by omega
  have j3 : (62 : Int) < (fx.length : Int) := by omega
  have j4 : (0 : Int) < (i : Int) + 1 := by omega
  have j5 : (0 : Int) ≤ (i : Int) := by omega
  have hw1 : IntKind.i64.wrap (i : Int) = (i : Int) := by simp only [IntKind.wrap_i64]; omega
  have hw2 : IntKind.i64.wrap ((fx.length : Int) - 1) = (fx.length : Int) - 1 := by simp only [IntKind.wrap_i64]; omega
  go_enter Yba.func58, Yba.ntmps58
  go_wp2
  go_quiet (fail)
  have HO0 : Hid (Only (fun _ => False) w (w.drewN nq)) := (Only.refl _ _).drewN nq
  generalize (w.drewN nq) = w0 at HO0 ⊢
  have dc0 := HO0.out.cell dc (fun h => h)
  have d00 := HO0.out.cell d0 (fun h => h)
  have fc0 := HO0.out.cell fc (fun h => h)
  have nc0 := HO0.out.cell nc (fun h => h)
  have n00 := HO0.out.cell n0 (fun h => h)
  have hx0 := HO0.out.cell hx (fun h => h)
  have hy0 := HO0.out.cell hy (fun h => h)
  have nf0 := (HO0.out.frozen (p := ⟨nb, 1, none⟩) hnb (fun h => h)).trans nf
  have hsz := HO0.out.size
  have hnb0 : nb < w0.heap.size := by omega
  have hdb0 : b < w0.heap.size := by omega
  have hde0 : eb < w0.heap.size := by omega
  go_upto_region 4 with fail
  go_cut [57] from 58 to 73 (fun u wx => Cut4 w nb neb nx s wx)
  case first =>
    go_wp2_with fail
    go_region_law ((first
      | (refine step_app one23 rfl (.tmp 61) (.tmp 70) rfl neb neo nx.length ncap (ints nx) rfl (ints_length _) ((HO0.out.alloc _).drew.range HNR.out (fun h => h)) ((HO0.out.alloc _).drew.there HNT.out (fun h => h)) nlen nmax ⟨w0.heap.size, 0, none⟩ 1 1 [.int .i64 s] rfl rfl (new_oneD _ _ _) (one_one _) (by omega) ?_; intro eb1 eo1 cap1 w1 hA; obtain ⟨k1, k0, kf, kap⟩ := app_node2 hA (by rw [World.cell?_drew, World.cell?_alloc_past _ _ _ hnb0]; exact nc0) (by rw [World.frozen?_drew, World.frozen?_alloc_past _ _ _ hnb0]; exact nf0) (by rw [World.cell?_drew, World.cell?_alloc_past _ _ _ hnb0]; exact n00) nap; have HA := hide hA; clear hA)
      | fail))
    all_goals (go_wp2_with fail; go_meet)
    all_goals
      exact ⟨eb1, eo1, cap1, upd_stored HA.out.row HA.out.room k1 k0 kf kap (((HO0.out.mono (G := fun k => k = nb ∨ k = neb) (fun _ _ h => h.elim)).alloc _).drew.trans HA.out.only (fun k hk => .inl (.inr hk))), HA.out.place.elim (fun h => .inl h.1) (fun h => .inr (by have := h.1; simp at this; omega)), by have := HA.out.le; rw [List.length_append, ints_length] at this; exact this, HA.out.max⟩
  case rest =>
    obtain ⟨eb1, eo1, cap1, hw2, hpl2, hle1, hle2⟩ := hcut
    have hw2 := hide hw2
    have hpl : (eb1 = nb ∨ eb1 = neb) ∨ w.heap.size ≤ eb1 := hpl2.elim (fun h => .inl (.inr h)) .inr
    obtain ⟨c1, c0, cf, -, -, cap2, hO2⟩ := hw2.out
    have HO2 := hide hO2
    have B1 : Hid (eb1 ≠ b) := by have h1 := HSn.out; have h2 := HSf.out; have h3 := HFN.out; show eb1 ≠ b; rcases hpl with (e | e) | e <;> omega
    have B2 : Hid (eb1 ≠ eb) := by have h1 := HSn.out; have h2 := HSf.out; have h3 := HFN.out; show eb1 ≠ eb; rcases hpl with (e | e) | e <;> omega
    have B3 : Hid (eb1 ≠ fb) := by have h1 := HSn.out; have h2 := HSf.out; have h3 := HFN.out; show eb1 ≠ fb; rcases hpl with (e | e) | e <;> omega
    have B4 : Hid (eb1 ≠ feb) := by have h1 := HSn.out; have h2 := HSf.out; have h3 := HFN.out; show eb1 ≠ feb; rcases hpl with (e | e) | e <;> omega
    have dc2 := hO2.cell dc Qq1.out
    have hx2 := hO2.cell hx Qq2.out
    clear nc0 n00 dc0 d00 fc0 hx0 hy0 nf0 hO2
    have s1 := run_cut one23 (some ⟨eb1, eo1, none⟩) (nx.length + 1) cap1 1 1 (by omega) (by omega)
    rw [cutA_some (by omega)] at s1
    have s2 := run_cutTo one23 eb1 eo1 (nx.length + 1) cap1 nx.length (nx.length : Int) rfl (by omega)
    have hw3 : Hid (Ups w nb neb eb1 eo1 cap1 (nx.length + 1) 0 s nx (.pointer none) (wc.drew.setCells eb1 (eo1 + 1) (ints nx))) := ups_copied hw2.out (Nat.zero_le _) hle1 hpl
    have hO3 : Hid (Only (fun k => k = eb1) wc (wc.drew.setCells eb1 (eo1 + 1) (ints nx))) := Only.setCells (F := fun k => k = eb1) (.inl rfl) _ _ (Only.refl _ _).drew
    go_wp2
    go_region_held3 (fun w' => w'.cell? ⟨nb, 1, none⟩ = some (.slice (some ⟨eb1, eo1, none⟩) (nx.length + 1) cap1)) (first | exact (by simpa using c1) | exact cell_cells (by simpa using c1) _ _ _ (fun h => .inl (by have := cap2 h.symm; simp; omega))) ((refine step_cpy (t2 := 23) one23 rfl (.tmp 78) (.tmp 84) rfl _ _ _ _ _ _ eb1 (eo1 + 1) (ints nx) rfl rfl ?_ ?_ ?_ (ints_one _) ?_; (first | exact lft_hn nx | exact lft_hn2 nx); (exact lft_hpos ((World.rangeAt_drew _ _ _ _).2 hw2.out.2.2.2.1)); (exact there_from ((World.there_drew _ _ _ _).2 hw2.out.2.2.2.2.1) 1 _ (by rw [ints_length]; omega))))
    generalize (wc.drew.setCells eb1 (eo1 + 1) (ints nx)) = w3 at hw3 hO3 ⊢
    obtain ⟨d1, d0', df, ⟨u, du⟩, duf, -⟩ := hw3.out
    rw [Nat.add_zero] at du duf
    have hw4 : Hid (Upd w nb neb eb1 eo1 cap1 (nx.length + 1) (ints (ins 0 s nx)) (.pointer none) (w3.setCell ⟨eb1, eo1, none⟩ (.int .i64 s)).drew) := (upt_stored hw3.out (Nat.zero_le _)).drew
    have dc3 := hO3.out.cell dc2 (fun h => B1.out h.symm)
    have hx3 := hO3.out.cell hx2 (fun h => B2.out h.symm)
    clear s1 s2 c1 c0 cf dc2 hx2
    have z0 : 0 < nx.length + 1 := by omega
    go_wp2
    go_region
    generalize (w3.setCell ⟨eb1, eo1, none⟩ (.int .i64 s)).drew = w4 at hw4 ⊢
    obtain ⟨g1, g0, gf, gr, gt, gap, hO4⟩ := hw4.out
    have HO4 := hide hO4
    have dc4 := hO4.cell dc Qq1.out
    have hx4 := hO4.cell hx Qq2.out
    have hxf := (hO4.frozen (p := ⟨eb, eo + i, none⟩) hde Qq2.out).trans HXF.out
    have fc4 := hO4.cell fc Qq3.out
    have hy4 := hO4.cell hy Qq4.out
    clear gr gt hO4 d1 d0' df du duf dc3 hx3
    have j6 : ((fx.length : Int) - 1) < (fx.length : Int) := by omega
    have j7 : (0 : Int) ≤ ((fx.length : Int) - 1) := by omega
    have j8 : ((fx.length : Int) - 1).toNat = fx.length - 1 := by omega
    go_wp2
    go_region
    have hO5 : Hid (Only (fun k => k = eb) w4 (w4.setCell ⟨eb, eo + i, none⟩ (.int .i64 y)).drew) := ((Only.refl (fun k => k = eb) w4).setCell (.inl rfl) _).drew
    have HE5 : Hid (EOK (w4.setCell ⟨eb, eo + i, none⟩ (.int .i64 y)).drew ⟨b, eb, eo, cap, xs.set i y⟩) := (eok_set (HT.out.E.kept HO4.out Qq1.out Qq2.out) i y hi).kept ((Only.refl (fun _ => False) _).drew) (fun h => h) (fun h => h)
    have HK5 := hide ((kok_set (HT.out.K.kept HO4.out Qq1.out Qq5.out) hkbe HT.out.E.apart i (.int .i64 y)).kept ((Only.refl (fun _ => False) _).drew) (fun h => h) (fun h => h))
    generalize (w4.setCell ⟨eb, eo + i, none⟩ (.int .i64 y)).drew = w5 at hO5 HE5 HK5 ⊢
    have HN5 : Hid (EOK w5 ⟨nb, eb1, eo1, cap1, ins 0 s nx⟩) := EOK.kept (w := w4) ⟨by simp only; rw [ins_length]; exact hw4.out.1, hw4.out.2.2.1, by simp only; rw [ins_length]; exact hle1, hle2, hw4.out.2.2.2.1, hw4.out.2.2.2.2.1, hw4.out.2.2.2.2.2.1, by simp only; omega⟩ hO5.out HSn.out.2.1 B2.out
    have HF5 : Hid (EOK w5 ⟨fb, feb, feo, fcap, fx⟩) := ((HT.out.leaf _ hfm).1.kept HO4.out Qq3.out Qq4.out).kept hO5.out HSf.out.2.1 HSf.out.2.2.2.2.1
    have f05 := hO5.out.cell (HO4.out.cell f0 Qq3.out) HSf.out.2.1
    have n05 := hO5.out.cell g0 HSn.out.2.1
    have HRM := hide (removeAt_leaf ⟨fb, feb, feo, fcap, fx⟩ (fx.length - 1) w5 HF5.out f05 (by simp only; omega) hf1)
    rw [show ((fx.length - 1 : Nat) : Int) = (fx.length : Int) - 1 by omega] at HRM
    simp only at HRM
    have N05 := hide n05
    have F05 := hide f05
    clear dc4 hx4 hxf fc4 hy4 g1 g0 gf gap f05 n05 fc f0 dc d0 hx hy ck0 ck1 nc n0
    go_wp2_with (first
      | (go_at_call 57; refine HRM.out.mono ?_; rintro e w6 ⟨rfl, hE6, hO6, h06⟩; have HE6 := hide hE6; have HO6 := hide hO6; have H06 := hide h06; clear hE6 hO6 h06)
      | fail)
    refine bodyPost_ret (results_none rfl _ _ _) rfl ?_
    have hin := HIN.out
    subst hin
    have hss := HS.out
    subst hss
    have hyy := HY.out
    subst hyy
    have r4 : ¬ (eb1 = fb ∨ eb1 = feb) := fun h => h.elim B3.out B4.out
    refine ⟨rfl, ⟨fb, feb, feo, fcap, del (fx.length - 1) fx⟩, ⟨nb, eb1, eo1, cap1, ins 0 (xs.getD L1.length 0) nx⟩, rfl, by simp [ins], ref_end (d' := ⟨b, eb, eo, cap, xs.set L1.length (fx.getD (fx.length - 1) 0)⟩) HT.out rfl rfl (by simp) (HE5.out.kept HO6.out Qr1.out Qr2.out) (HK5.out.kept HO6.out Qr1.out Qr5.out) ?_ ⟨rfl, .inl rfl, HE6.out, H06.out⟩ ⟨rfl, hpl2, HN5.out.kept HO6.out Qr3.out r4, HO6.out.cell N05.out Qr3.out⟩ (.inl rfl)⟩
    have o1 : Only (fun k => k = b ∨ k = eb ∨ k = kb ∨ blkOf [⟨fb, feb, feo, fcap, fx⟩, ⟨nb, neb, neo, ncap, nx⟩] k) w w4 := HO4.out.mono (fun k _ h => .inr (.inr (.inr ⟨⟨nb, neb, neo, ncap, nx⟩, by simp, h⟩)))
    exact (o1.trans hO5.out (fun k h => .inl (.inr (.inl h)))).trans HO6.out (fun k h => .inl (.inr (.inr (.inr ⟨⟨fb, feb, feo, fcap, fx⟩, by simp, h⟩))))
end Go.Proofs.Ybulkcgwo.T
