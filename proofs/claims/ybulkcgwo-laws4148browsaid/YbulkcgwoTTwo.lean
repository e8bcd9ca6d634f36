import Derived.Test.YbulkcgwoTIns
namespace Go.Proofs.Ybulkcgwo.T
open Go.RowKit
set_option linter.unusedVariables false

def Apart (m n : Nd) : Prop := m.b ≠ n.b ∧ m.b ≠ n.eb ∧ m.eb ≠ n.b ∧ m.eb ≠ n.eb
theorem Apart.symm {m n : Nd} (h : Apart m n) : Apart n m := ⟨fun e => h.1 e.symm, fun e => h.2.2.1 e.symm, fun e => h.2.1 e.symm, fun e => h.2.2.2 e.symm⟩
def blkOf (N : List Nd) (k : Nat) : Prop := ∃ n ∈ N, k = n.b ∨ k = n.eb

/-- A segment N of the leaves is replaced by M. -/
theorem two_replace {w w' : World} {d d' : Nd} {kb : Nat} {L1 N L2 M : List Nd} (hT : Two w d kb (L1 ++ (N ++ L2))) (hb : d'.b = d.b) (heb : d'.eb = d.eb ∨ w.heap.size ≤ d'.eb) (hE : EOK w' d') (hK : KOK w' d.b kb ((L1 ++ (M ++ L2)).map Nd.b)) (hlen : (L1 ++ (M ++ L2)).length = d'.xs.length + 1)
    (hO : Only (fun k => k = d.b ∨ k = d.eb ∨ k = kb ∨ blkOf N k) w w') (hM : ∀ m ∈ M, EOK w' m ∧ w'.cell? ⟨m.b, 0, none⟩ = some (.pointer none) ∧ (blkOf N m.b ∨ w.heap.size ≤ m.b) ∧ (blkOf N m.eb ∨ w.heap.size ≤ m.eb)) (hMd : M.Pairwise Apart) (hMe : ∀ m ∈ M, m.b ≠ d'.eb ∧ m.eb ≠ d'.eb) :
    Two w' d' kb (L1 ++ (M ++ L2)) := by
  have hdlt := hT.E.lt
  have hklt := hT.K.lt
  have hNs : ∀ k, blkOf N k → k ≠ d.b ∧ k ≠ d.eb ∧ k ≠ kb ∧ k < w.heap.size := by
    rintro k ⟨n, hn, hk⟩
    have hn' : n ∈ L1 ++ (N ++ L2) := by simp [hn]
    have hs := hT.sep n hn'
    have hl := (hT.leaf n hn').1.lt
    rcases hk with rfl | rfl <;> omega
  have hd1 : (L1 ++ (N ++ L2)).Pairwise Apart := hT.dis
  obtain ⟨p1, p2, p3⟩ := List.pairwise_append.1 hd1
  obtain ⟨p4, p5, p6⟩ := List.pairwise_append.1 p2
  -- an old leaf that is not in N
  have hold : ∀ m, m ∈ L1 ∨ m ∈ L2 → (∀ k, blkOf N k → m.b ≠ k ∧ m.eb ≠ k) ∧ (EOK w' m ∧ w'.cell? ⟨m.b, 0, none⟩ = some (.pointer none)) ∧ (m.b < w.heap.size ∧ m.eb < w.heap.size) ∧ (m.b ≠ d.b ∧ m.b ≠ d.eb ∧ m.b ≠ kb ∧ m.eb ≠ d.b ∧ m.eb ≠ d.eb ∧ m.eb ≠ kb) := by
    intro m hm
    have hm' : m ∈ L1 ++ (N ++ L2) := by rcases hm with h | h <;> simp [h]
    have hs := hT.sep m hm'
    obtain ⟨l1, l2⟩ := hT.leaf m hm'
    have ha : ∀ k, blkOf N k → m.b ≠ k ∧ m.eb ≠ k := by
      rintro k ⟨n, hn, hk⟩
      have hap : Apart m n := by
        rcases hm with h | h
        · exact p3 m h n (by simp [hn])
        · exact (p6 n hn m h).symm
      rcases hk with rfl | rfl
      · exact ⟨hap.1, hap.2.2.1⟩
      · exact ⟨hap.2.1, hap.2.2.2⟩
    have f1 : ¬ (m.b = d.b ∨ m.b = d.eb ∨ m.b = kb ∨ blkOf N m.b) := by
      rintro (h | h | h | h)
      · exact hs.1 h
      · exact hs.2.1 h
      · exact hs.2.2.1 h
      · exact (ha _ h).1 rfl
    have f2 : ¬ (m.eb = d.b ∨ m.eb = d.eb ∨ m.eb = kb ∨ blkOf N m.eb) := by
      rintro (h | h | h | h)
      · exact hs.2.2.2.1 h
      · exact hs.2.2.2.2.1 h
      · exact hs.2.2.2.2.2 h
      · exact (ha _ h).2 rfl
    exact ⟨ha, ⟨l1.kept hO f1 f2, hO.cell l2 f1⟩, l1.lt, hs⟩
  have hMs : ∀ m ∈ M, (m.b ≠ d.b ∧ m.b ≠ d.eb ∧ m.b ≠ kb) ∧ (m.eb ≠ d.b ∧ m.eb ≠ d.eb ∧ m.eb ≠ kb) := by
    intro m hm
    obtain ⟨_, _, h1, h2⟩ := hM m hm
    constructor
    · rcases h1 with h | h
      · have := hNs _ h; omega
      · omega
    · rcases h2 with h | h
      · have := hNs _ h; omega
      · omega
  have hcross : ∀ a, a ∈ L1 ∨ a ∈ L2 → ∀ m ∈ M, Apart a m := by
    intro a ha m hm
    obtain ⟨h1, _, h3, _⟩ := hold a ha
    obtain ⟨_, _, h5, h6⟩ := hM m hm
    refine ⟨?_, ?_, ?_, ?_⟩
    · rcases h5 with h | h
      · exact (h1 _ h).1
      · omega
    · rcases h6 with h | h
      · exact (h1 _ h).1
      · omega
    · rcases h5 with h | h
      · exact (h1 _ h).2
      · omega
    · rcases h6 with h | h
      · exact (h1 _ h).2
      · omega
  refine ⟨hE, by rw [hb]; exact hK, hlen, ?_, by rw [hb]; exact hT.kb1, ?_, ?_, ?_⟩
  · intro m hm
    rcases List.mem_append.1 hm with h | h
    · exact (hold m (.inl h)).2.1
    · rcases List.mem_append.1 h with h | h
      · exact ⟨(hM m h).1, (hM m h).2.1⟩
      · exact (hold m (.inr h)).2.1
  · rcases heb with h | h
    · rw [h]; exact hT.kb2
    · omega
  · intro m hm
    rw [hb]
    have hold2 : (m ∈ L1 ∨ m ∈ L2) → m.b ≠ d.b ∧ m.b ≠ d'.eb ∧ m.b ≠ kb ∧ m.eb ≠ d.b ∧ m.eb ≠ d'.eb ∧ m.eb ≠ kb := by
      intro h
      obtain ⟨_, _, h3, h4⟩ := hold m h
      rcases heb with he | he
      · rw [he]; omega
      · omega
    rcases List.mem_append.1 hm with h | h
    · exact hold2 (.inl h)
    · rcases List.mem_append.1 h with h | h
      · have h1 := hMs m h
        have h2 := hMe m h
        exact ⟨h1.1.1, h2.1, h1.1.2.2, h1.2.1, h2.2, h1.2.2.2⟩
      · exact hold2 (.inr h)
  · refine List.pairwise_append.2 ⟨p1, List.pairwise_append.2 ⟨hMd, p5, fun m hm a ha => (hcross a (.inr ha) m hm).symm⟩, ?_⟩
    intro a ha m hm
    rcases List.mem_append.1 hm with h | h
    · exact hcross a (.inl ha) m h
    · exact p3 a ha m (by simp [h])

/-- The blocks of the new tree: old ones or new. -/
theorem foot_replace {w : World} {d d' : Nd} {kb : Nat} {L1 N L2 M : List Nd} (hb : d'.b = d.b) (heb : d'.eb = d.eb ∨ w.heap.size ≤ d'.eb) (hM : ∀ m ∈ M, (blkOf N m.b ∨ w.heap.size ≤ m.b) ∧ (blkOf N m.eb ∨ w.heap.size ≤ m.eb)) :
    ∀ k, twoFoot d' kb (L1 ++ (M ++ L2)) k → twoFoot d kb (L1 ++ (N ++ L2)) k ∨ w.heap.size ≤ k := by
  have hN : ∀ k, blkOf N k → twoFoot d kb (L1 ++ (N ++ L2)) k := by
    rintro k ⟨n, hn, hk⟩
    exact .inr (.inr (.inr ⟨n, by simp [hn], hk⟩))
  rintro k (h | h | h | ⟨m, hm, h⟩)
  · exact .inl (.inl (h.trans hb))
  · rcases heb with he | he
    · exact .inl (.inr (.inl (h.trans he)))
    · exact .inr (by omega)
  · exact .inl (.inr (.inr (.inl h)))
  · rcases List.mem_append.1 hm with hm | hm
    · exact .inl (.inr (.inr (.inr ⟨m, by simp [hm], h⟩)))
    · rcases List.mem_append.1 hm with hm | hm
      · obtain ⟨h1, h2⟩ := hM m hm
        rcases h with rfl | rfl
        · exact h1.elim (fun h => .inl (hN _ h)) .inr
        · exact h2.elim (fun h => .inl (hN _ h)) .inr
      · exact .inl (.inr (.inr (.inr ⟨m, by simp [hm], h⟩)))

theorem split_at {L : List Nd} {i : Nat} {n : Nd} (h : L[i]? = some n) : ∃ L1 L2, L = L1 ++ ([n] ++ L2) ∧ L1.length = i := by
  obtain ⟨hi, he⟩ := List.getElem?_eq_some_iff.1 h
  refine ⟨L.take i, L.drop (i + 1), ?_, by rw [List.length_take]; omega⟩
  rw [← he, List.singleton_append, ← List.drop_eq_getElem_cons hi, List.take_append_drop]

/-- What insert leaves of a tree of two levels. -/
def TwoIns (d : Nd) (kb : Nat) (L1 : List Nd) (n : Nd) (L2 : List Nd) (j : Nat) (e : Int) (w : World) (r : Ending) (w' : World) : Prop :=
  ∃ (d' : Nd) (M : List Nd), r = .returned (.pointer (some ⟨d.b, 0, none⟩)) ∧ d'.b = d.b ∧ Two w' d' kb (L1 ++ (M ++ L2)) ∧
    ((∃ n', M = [n'] ∧ n.xs.length ≤ 124 ∧ d'.xs = d.xs ∧ n'.xs = ins j e n.xs) ∨ (∃ l q, M = [l, q] ∧ n.xs.length = 125 ∧ d'.xs = ins L1.length ((ins j e n.xs).getD 62 0) d.xs ∧ l.xs = (ins j e n.xs).take 62 ∧ q.xs = (ins j e n.xs).drop 63)) ∧
    (∀ k, twoFoot d' kb (L1 ++ (M ++ L2)) k → twoFoot d kb (L1 ++ ([n] ++ L2)) k ∨ w.heap.size ≤ k) ∧ Only (twoFoot d kb (L1 ++ ([n] ++ L2))) w w'

set_option maxHeartbeats 2000000 in
set_option maxRecDepth 100000 in
theorem insert_two (pb : Nat) (d : Nd) (kb : Nat) (L1 : List Nd) (n : Nd) (L2 : List Nd) (j : Nat) (e : Int) (w : World) (hP : Path1 w pb d.b L1.length) (p2 : w.cell? ⟨pb, 2, none⟩ = some (.pointer (some ⟨n.b, 0, none⟩))) (p3 : w.cell? ⟨pb, 3, none⟩ = some (.int .i64 j)) (h22 : w.cell? ⟨pb, 22, none⟩ = some (.int .i64 2)) (hT : Two w d kb (L1 ++ ([n] ++ L2))) (hj : j ≤ n.xs.length) (hl : n.xs.length ≤ 124) (hp : ¬ twoFoot d kb (L1 ++ ([n] ++ L2)) pb) :
    Calls Yba.prog 39 #[.pointer (some ⟨pb, 0, none⟩), .int .i64 e] w fun r w' => TwoIns d kb L1 n L2 j e w r w' := by
  obtain ⟨pn, pi⟩ := hP
  have hnm : n ∈ L1 ++ ([n] ++ L2) := by simp
  have HT := hide hT
  have HN := hide (hT.leaf n hnm)
  have hlt := (hT.leaf n hnm).1.lt
  have hp1 : pb ≠ n.b := fun h => hp (.inr (.inr (.inr ⟨n, hnm, .inl h⟩)))
  have hp2 : pb ≠ n.eb := fun h => hp (.inr (.inr (.inr ⟨n, hnm, .inr h⟩)))
  clear hT
  go_enter Yba.func39, Yba.ntmps39
  go_wp2
  refine wp_loop_rounds 1 ?_
  rw [rounds_succ]
  go_wp2_with fail
  have hO1 : Hid (Only (fun _ => False) w (w.alloc (.cells #[.pointer (some ⟨n.b, 0, none⟩), .int .i64 j] 77))) := (Only.refl _ _).alloc _
  have g0 : (w.alloc (.cells #[.pointer (some ⟨n.b, 0, none⟩), .int .i64 j] 77)).cell? ⟨w.heap.size, 0, none⟩ = some (.pointer (some ⟨n.b, 0, none⟩)) := by simp
  obtain ⟨fb, hfb⟩ : ∃ fb, fb = w.heap.size := ⟨_, rfl⟩
  rw [← hfb] at g0 ⊢
  generalize (w.alloc (.cells #[.pointer (some ⟨n.b, 0, none⟩), .int .i64 j] 77)) = w1 at hO1 g0 ⊢
  have hf1 : fb ≠ n.b := by omega
  have hf2 : fb ≠ n.eb := by omega
  clear hfb
  refine (insertAt_leaf n j e (.pointer none) w1 (HN.out.1.kept hO1.out (fun h => h) (fun h => h)) (hO1.out.cell HN.out.2 (fun h => h)) hj (by omega)).mono ?_
  rintro r w2 ⟨rfl, n', hb', hx', heb', hE', hO2, h02⟩
  have g2 := hO2.cell g0 (fun h => h.elim hf1 hf2)
  have p0 := hO2.cell (hO1.out.cell pn (fun h => h)) (fun h => h.elim hp1 hp2)
  have e2 := hE'.cell
  rw [hb', hx', ins_length] at e2
  have hO12 : Only (fun k => k = n.b ∨ k = n.eb) w w2 := (hO1.out.mono (G := fun k => k = n.b ∨ k = n.eb) (fun _ _ h => h.elim)).trans hO2 (fun k h => .inl h)
  have heb'' : n'.eb = n.eb ∨ w.heap.size ≤ n'.eb := heb'.elim .inl (fun h => .inr (Nat.le_trans hO1.out.size h))
  have hN1 : blkOf [n] n.b := ⟨n, by simp, .inl rfl⟩
  have hN2 : blkOf [n] n.eb := ⟨n, by simp, .inr rfl⟩
  have hs := HT.out.sep n hnm
  have hdl := HT.out.E.lt
  have FIN : Hid (TwoIns d kb L1 n L2 j e w (.returned (.pointer (some ⟨d.b, 0, none⟩))) w2) := by
    have hMb : ∀ m ∈ [n'], (blkOf [n] m.b ∨ w.heap.size ≤ m.b) ∧ (blkOf [n] m.eb ∨ w.heap.size ≤ m.eb) := by
      intro m hm
      have : m = n' := by simpa using hm
      subst this
      exact ⟨.inl (hb' ▸ hN1), heb''.elim (fun h => .inl (h ▸ hN2)) .inr⟩
    have hd1 : ¬ (d.b = n.b ∨ d.b = n.eb) := by omega
    have hd2 : ¬ (d.eb = n.b ∨ d.eb = n.eb) := by omega
    have hk1 : ¬ (kb = n.b ∨ kb = n.eb) := by omega
    have hmap : (L1 ++ ([n'] ++ L2)).map Nd.b = (L1 ++ ([n] ++ L2)).map Nd.b := by simp [hb']
    refine ⟨d, [n'], rfl, rfl, two_replace HT.out rfl (.inl rfl) (HT.out.E.kept hO12 hd1 hd2) ?_ ?_ (hO12.mono (fun k _ h => ?_)) ?_ (by simp) ?_, .inl ⟨n', rfl, hl, rfl, hx'⟩, foot_replace rfl (.inl rfl) hMb, hO12.mono (fun k _ h => ?_)⟩
    · rw [hmap]; exact HT.out.K.kept hO12 hd1 hk1
    · have := HT.out.len; simpa using this
    · exact .inr (.inr (.inr (h.elim (fun h => h ▸ hN1) (fun h => h ▸ hN2))))
    · intro m hm
      have : m = n' := by simpa using hm
      subst this
      exact ⟨hE', by rw [hb']; exact h02, hMb m (by simp)⟩
    · intro m hm
      have : m = n' := by simpa using hm
      subst this
      exact ⟨by rw [hb']; exact hs.2.1, heb''.elim (fun h => by rw [h]; exact hs.2.2.2.2.1) (fun h => by omega)⟩
    · exact .inr (.inr (.inr ⟨n, hnm, h⟩))
  have hl' : ((n.xs.length + 1 : Nat) : Int) ≤ 125 := by omega
  clear hO2 heb' hE' hx' hb' h02 hO1 pn pi g0 h22 hO12 heb'' hN1 hN2 hs p2 p3
  go_wp2
  go_ret
  exact FIN.out
end Go.Proofs.Ybulkcgwo.T
