import Derived.Test.YbulkcgwoTTree
namespace Go.Proofs.Ybulkcgwo.T
open Go.RowKit
set_option linter.unusedVariables false

theorem mid_flat {xs : List Int} (h : 62 < xs.length) : xs.take 62 ++ xs.getD 62 0 :: xs.drop 63 = xs := by
  have e1 : xs.getD 62 0 = xs[62] := by simp [List.getD_eq_getElem?_getD, h]
  rw [e1, ← List.drop_eq_getElem_cons h, List.take_append_drop]

/-- What insert makes of a tree. -/
structure InsT (o : Ords) (t : Tree) (e : Int) (w w' : World) (t' : Tree) : Prop where
  ok : TOK w' t'
  sor : Sor o.lt (flatT t')
  mem : ∀ y, y ∈ flatT t' ↔ y = e ∨ y ∈ flatT t
  len : (flatT t').length = (flatT t).length + 1
  foot : ∀ k, footT t' k → footT t k ∨ w.heap.size ≤ k
  only : Only (footT t) w w'

theorem ins_nil {lt : Int → Int → Prop} (W : Whole lt) {x : List Int} {e : Int} {j : Nat} (hs : Sor lt x) (hF : Found lt x e j false) : Sor lt (ins j e x) := by
  have := ins_sor W (A := []) (B := []) (x := x) (by simpa using hs) (by simp) (by simp) hF
  simpa using this

theorem insertT (o : Ords) (G : o.Good) (pb : Nat) (t : Tree) (e : Int) (w : World) (hF : Fits o w t) (hN : SeekNo o.lt pb e w t) (hp : ¬ footT t pb) :
    Calls Yba.prog 39 #[.pointer (some ⟨pb, 0, none⟩), .int .i64 e] w fun r w' => ∃ t', r = .returned (.pointer (rootT t')) ∧ InsT o t e w w' t' := by
  match t, hF, hN, hp with
  | none, hF, hN, hp =>
    refine (insert_nil pb e w hN).mono ?_
    rintro r w' ⟨rfl, rfl⟩
    have hO : Only (fun _ => False) w ((w.alloc (.cells #[.int .i64 e] 3)).alloc (.cells #[.pointer none, .slice (some ⟨w.heap.size, 0, none⟩) 1 1] 74)) := ((Only.refl _ _).alloc _).alloc _
    have hz : (w.alloc (.cells #[.int .i64 e] 3)).heap.size = w.heap.size + 1 := by simp
    have c1 : ∀ j, ((w.alloc (.cells #[.int .i64 e] 3)).alloc (.cells #[.pointer none, .slice (some ⟨w.heap.size, 0, none⟩) 1 1] 74)).cell? ⟨w.heap.size + 1, j, none⟩ = [Value.pointer none, Value.slice (some ⟨w.heap.size, 0, none⟩) 1 1][j]? := by
      intro j
      rw [← hz, cell_of_row _ _ _ _ _ _ (heap_alloc_new _ _)]; simp
    have f1 : ∀ j, ((w.alloc (.cells #[.int .i64 e] 3)).alloc (.cells #[.pointer none, .slice (some ⟨w.heap.size, 0, none⟩) 1 1] 74)).frozen? ⟨w.heap.size + 1, j, none⟩ = false := by
      intro j
      rw [← hz]; unfold World.frozen?; rw [heap_alloc_new]; simp
    have c2 : ((w.alloc (.cells #[.int .i64 e] 3)).alloc (.cells #[.pointer none, .slice (some ⟨w.heap.size, 0, none⟩) 1 1] 74)).cell? ⟨w.heap.size, 0, none⟩ = some (.int .i64 e) := by
      rw [World.cell?_alloc_past _ _ _ (by simp)]; simp
    have f2 : ((w.alloc (.cells #[.int .i64 e] 3)).alloc (.cells #[.pointer none, .slice (some ⟨w.heap.size, 0, none⟩) 1 1] 74)).frozen? ⟨w.heap.size, 0, none⟩ = false := by
      rw [World.frozen?_alloc_past _ _ _ (by simp)]; unfold World.frozen?; rw [heap_alloc_new]; simp
    refine ⟨some (.inl ⟨w.heap.size + 1, w.heap.size, 0, 1, [e]⟩), rfl, ⟨⟨⟨?_, f1 1, by simp, by unfold maxLen; simp, ?_, ?_, by simp, by simp⟩, ?_, by simp, by simp⟩, by simp [flatT, Sor], by simp [flatT], rfl, ?_, hO⟩⟩
    · rw [c1 1]; rfl
    · exact range_one c2
    · intro j hj
      have : j = 0 := by simpa using hj
      subst this
      exact ⟨by rw [Nat.add_zero, c2]; rfl, by rw [Nat.add_zero]; exact f2⟩
    · rw [c1 0]; rfl
    · intro k hk
      right
      rcases hk with h | h
      · simp only at h; omega
      · simp only at h; omega
  | some (.inl d), hF, hN, hp =>
    obtain ⟨i, hf, h1, h22⟩ := hN
    obtain ⟨hE, h0, hl, hne⟩ := hF.ok
    have hs : Sor o.lt d.xs := hF.sor
    have hp1 : pb ≠ d.b := fun h => hp (.inl h)
    have hp2 : pb ≠ d.eb := fun h => hp (.inr h)
    by_cases h125 : d.xs.length = 125
    · refine (insert_leaf_split pb d i e w h1 h22 hE h0 hf.le h125 hp1 hp2).mono ?_
      rintro r w' ⟨R, l, q, kb, rfl, hT, hR, hlx, hqx, hft, hO⟩
      have hlen : (ins i e d.xs).length = 126 := by rw [ins_length, h125]
      have hfl : flatT (some (.inr (R, kb, [l, q]))) = ins i e d.xs := by
        show flatF ([l, q].map Nd.xs) R.xs = _
        rw [hR]
        simp only [List.map_cons, List.map_nil, flatF, postF, List.append_nil, hlx, hqx]
        exact mid_flat (by omega)
      refine ⟨some (.inr (R, kb, [l, q])), rfl, ⟨⟨hT, ?_, by rw [hR]; simp⟩, by rw [hfl]; exact ins_nil G.W hs hf, fun y => by rw [hfl]; exact ins_mem _ _ _ _, by rw [hfl, ins_length]; rfl, ?_, hO⟩⟩
      · intro n hn
        rcases List.mem_cons.1 hn with rfl | hn
        · rw [hlx, List.length_take]; omega
        · have : n = q := by simpa using hn
          subst this
          rw [hqx, List.length_drop]; omega
      · intro k hk
        rcases hft k hk with h | h | h
        · exact .inl (.inl h)
        · exact .inl (.inr h)
        · exact .inr h
    · refine (insert_leaf pb d i e w h1 h22 hE h0 hf.le (by omega) hp1 hp2).mono ?_
      rintro r w' ⟨d', rfl, hb, hx, heb, hE', h0', hO⟩
      have hfl : flatT (some (.inl d')) = ins i e d.xs := hx
      refine ⟨some (.inl d'), by show _ = Ending.returned (.pointer (some ⟨d'.b, 0, none⟩)); rw [hb], ⟨⟨hE', by rw [hb]; exact h0', by rw [hx, ins_length]; omega, by rw [hx]; simp [ins]⟩, by rw [hfl]; exact ins_nil G.W hs hf, fun y => by rw [hfl]; exact ins_mem _ _ _ _, by rw [hfl, ins_length]; rfl, ?_, hO⟩⟩
      intro k hk
      rcases hk with h | h
      · exact .inl (.inl (h.trans hb))
      · rcases heb with h' | h'
        · exact .inl (.inr (h.trans h'))
        · exact .inr (by omega)
  | some (.inr (d, kb, L)), hF, hN, hp =>
    obtain ⟨L1, n, L2, j, rfl, hf0, hf, h1, h2, h3, h22⟩ := hN
    obtain ⟨hT, hsz, hne⟩ := hF.ok
    have hfl : Sor o.lt (flatF ((L1 ++ ([n] ++ L2)).map Nd.xs) d.xs) := hF.sor
    have hl := hT.len
    have hsm := two_small hT hsz hF.small
    have hnm : n ∈ L1 ++ ([n] ++ L2) := by simp
    have hl1 : L1.length ≤ d.xs.length := by simp at hl; omega
    rw [flat_at hl] at hfl
    have e1 : (d.xs.take L1.length).length = L1.length := by rw [List.length_take]; omega
    have hsd := sides G.W (K1 := L1.map Nd.xs) (K2 := L2.map Nd.xs) (S1 := d.xs.take L1.length) (S2 := d.xs.drop L1.length) (x := n.xs) (e := e) (by rw [e1, List.length_map]) (by simp at hl ⊢; omega) hfl (by rw [List.take_append_drop, e1]; exact hf0)
    have hcall : Calls Yba.prog 39 #[.pointer (some ⟨pb, 0, none⟩), .int .i64 e] w fun r w' => TwoIns d kb L1 n L2 j e w r w' := by
      by_cases h125 : n.xs.length = 125
      · exact insert_two_split pb d kb L1 n L2 j e w h1 h2 h3 h22 hT hf.le h125 (by omega) hp
      · exact insert_two pb d kb L1 n L2 j e w h1 h2 h3 h22 hT hf.le (by have := (hsz n hnm).2; omega) hp
    refine hcall.mono ?_
    rintro r w' ⟨d', M, rfl, hdb, hT', hM, hft, hO⟩
    have hfl' : flatF ((L1 ++ (M ++ L2)).map Nd.xs) d'.xs = preF (L1.map Nd.xs) (d.xs.take L1.length) ++ (ins j e n.xs ++ postF (d.xs.drop L1.length) (L2.map Nd.xs)) := by
      rcases hM with ⟨n', rfl, h124, hdx, hnx⟩ | ⟨l, q, rfl, h125, hdx, hlx, hqx⟩
      · have hl' := hT'.len
        rw [hdx] at hl' ⊢
        have := flat_at (d := d) (L1 := L1) (L2 := L2) (n := n') hl'
        rw [this, hnx]
      · rw [hdx]
        have h4 : (L1.map Nd.xs).length = (d.xs.take L1.length).length := by rw [e1, List.length_map]
        have := flat_zoom (L1.map Nd.xs) (d.xs.take L1.length) l.xs (q.xs :: L2.map Nd.xs) ((ins j e n.xs).getD 62 0 :: d.xs.drop L1.length) h4
        have e2 : (L1 ++ ([l, q] ++ L2)).map Nd.xs = L1.map Nd.xs ++ l.xs :: (q.xs :: L2.map Nd.xs) := by simp
        rw [e2]
        unfold ins at this ⊢
        rw [this]
        have hm := mid_flat (xs := ins j e n.xs) (by rw [ins_length, h125]; omega)
        simp only [postF]
        unfold ins at hm hlx hqx
        rw [hlx, hqx]
        conv => rhs; rw [← hm]
        simp
    have hflT : flatT (some (.inr (d', kb, L1 ++ (M ++ L2)))) = preF (L1.map Nd.xs) (d.xs.take L1.length) ++ (ins j e n.xs ++ postF (d.xs.drop L1.length) (L2.map Nd.xs)) := hfl'
    have hflO : flatT (some (.inr (d, kb, L1 ++ ([n] ++ L2)))) = preF (L1.map Nd.xs) (d.xs.take L1.length) ++ (n.xs ++ postF (d.xs.drop L1.length) (L2.map Nd.xs)) := flat_at hl
    refine ⟨some (.inr (d', kb, L1 ++ (M ++ L2))), by show _ = Ending.returned (.pointer (some ⟨d'.b, 0, none⟩)); rw [hdb], ⟨⟨hT', ?_, ?_⟩, ?_, ?_, ?_, hft, hO⟩⟩
    · intro m hm
      rcases List.mem_append.1 hm with h | h
      · exact hsz m (by simp [h])
      · rcases List.mem_append.1 h with h | h
        · have hb := hsz n hnm
          rcases hM with ⟨n', rfl, h124, hdx, hnx⟩ | ⟨l, q, rfl, h125, hdx, hlx, hqx⟩
          · have : m = n' := by simpa using h
            subst this
            rw [hnx, ins_length]; omega
          · rcases List.mem_cons.1 h with rfl | h
            · rw [hlx, List.length_take, ins_length]; omega
            · have : m = q := by simpa using h
              subst this
              rw [hqx, List.length_drop, ins_length]; omega
        · exact hsz m (by simp [h])
    · rcases hM with ⟨n', rfl, h124, hdx, hnx⟩ | ⟨l, q, rfl, h125, hdx, hlx, hqx⟩
      · rw [hdx]; exact hne
      · rw [hdx]; simp [ins]
    · rw [hflT]; exact ins_sor G.W hfl hsd.1 hsd.2 hf
    · intro y; rw [hflT, hflO]; exact ins_mem3 _ _ _ _ _ _
    · rw [hflT, hflO]; simp only [List.length_append, ins_length]; omega
end Go.Proofs.Ybulkcgwo.T
