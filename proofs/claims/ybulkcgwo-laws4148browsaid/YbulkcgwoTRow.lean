import Derived.Test.YbulkcgwoTOrd
namespace Go.Proofs.Ybulkcgwo.T
open Go.RowKit
set_option linter.unusedVariables false
set_option linter.unusedSimpArgs false

/-- A row of leaves, as it lies. -/
structure Rw (w : World) (rb nb no nc eb eo ec : Nat) (ns : List Nat) (ss : List Int) : Prop where
  c0 : w.cell? ⟨rb, 0, none⟩ = some (.slice (some ⟨nb, no, none⟩) ns.length nc)
  c1 : w.cell? ⟨rb, 1, none⟩ = some (.slice (some ⟨eb, eo, none⟩) ss.length ec)
  c2 : w.cell? ⟨rb, 2, none⟩ = some (.slice none 0 0)
  f0 : w.frozen? ⟨rb, 0, none⟩ = false
  f1 : w.frozen? ⟨rb, 1, none⟩ = false
  nl : ns.length ≤ nc
  nm : nc ≤ maxLen
  nr : w.rangeAt nb no (ptrs ns)
  nt : w.there nb no nc
  el : ss.length ≤ ec
  em : ec ≤ maxLen
  er : w.rangeAt eb eo (ints ss)
  et : w.there eb eo ec
  d1 : nb ≠ rb
  d2 : eb ≠ rb
  d3 : nb ≠ eb
  n1 : nb < w.heap.size
  n2 : eb < w.heap.size

theorem Rw.kept {w w' : World} {rb nb no nc eb eo ec : Nat} {ns : List Nat} {ss : List Int} (h : Rw w rb nb no nc eb eo ec ns ss) {F : Nat → Prop} (hO : Only F w w') (h1 : ¬ F rb) (h2 : ¬ F nb) (h3 : ¬ F eb) : Rw w' rb nb no nc eb eo ec ns ss := by
  have hl := World.block_lt_of_cell? w _ h.c0
  exact ⟨hO.cell h.c0 h1, hO.cell h.c1 h1, hO.cell h.c2 h1, (hO.frozen (p := ⟨rb, 0, none⟩) hl h1).trans h.f0, (hO.frozen (p := ⟨rb, 1, none⟩) hl h1).trans h.f1, h.nl, h.nm, hO.range h.nr h2, hO.there h.nt h2, h.el, h.em, hO.range h.er h3, hO.there h.et h3, h.d1, h.d2, h.d3, Nat.lt_of_lt_of_le h.n1 hO.size, Nat.lt_of_lt_of_le h.n2 hO.size⟩

theorem rw_push_n {w w1 : World} {rb nb no nc eb eo ec : Nat} {ns : List Nat} {ss : List Int} (h : Rw w rb nb no nc eb eo ec ns ss) {ob : Obj} {b nb' no' nc' : Nat} (hA : App (w.alloc ob) nb no nc (ptrs ns ++ [ptr b]) nb' no' nc' w1) :
    Rw (w1.setCell ⟨rb, 0, none⟩ (.slice (some ⟨nb', no', none⟩) (ns.length + 1) nc')) rb nb' no' nc' eb eo ec (ns ++ [b]) ss ∧ (nb' = nb ∨ w.heap.size ≤ nb') ∧ Only (fun k => k = rb ∨ k = nb) w (w1.setCell ⟨rb, 0, none⟩ (.slice (some ⟨nb', no', none⟩) (ns.length + 1) nc')) := by
  have hl := World.block_lt_of_cell? w _ h.c0
  simp only at hl
  have hO : Only (fun k => k = nb) w w1 := ((Only.refl (fun k => k = nb) w).alloc ob).trans hA.only (fun i h => .inl h)
  have hz : (w.alloc ob).heap.size = w.heap.size + 1 := by simp
  have hp : nb' = nb ∨ w.heap.size ≤ nb' := hA.place.elim (fun h => .inl h.1) (fun h => .inr (by omega))
  have hrn : ¬ (rb = nb) := fun e => h.d1 e.symm
  have hen : ¬ (eb = nb) := fun e => h.d3 e.symm
  have q1 : nb' ≠ rb := by rcases hp with e | e; (· rw [e]; exact h.d1); (· omega)
  have q3 : nb' ≠ eb := by have := h.n2; rcases hp with e | e; (· rw [e]; exact h.d3); (· omega)
  have hpt : ptrs ns ++ [ptr b] = ptrs (ns ++ [b]) := by simp [ptrs]
  have hlt : nb' < w1.heap.size := by
    rcases hA.place with e | e
    · rw [e.1]; exact Nat.lt_of_lt_of_le h.n1 hO.size
    · refine there_lt hA.room ?_
      have := hA.le; simp at this; omega
  have hO2 : Only (fun k => k = rb) w1 (w1.setCell ⟨rb, 0, none⟩ (.slice (some ⟨nb', no', none⟩) (ns.length + 1) nc')) := (Only.refl (fun k => k = rb) w1).setCell (p := ⟨rb, 0, none⟩) (.inl rfl) _
  have kc0 := hO.cell h.c0 hrn
  have kc1 := hO.cell h.c1 hrn
  have kc2 := hO.cell h.c2 hrn
  refine ⟨⟨?_, ?_, ?_, ?_, ?_, ?_, hA.max, ?_, hO2.there hA.room q1, h.el, h.em, hO2.range (hO.range h.er hen) h.d2, hO2.there (hO.there h.et hen) h.d2, q1, h.d2, q3, Nat.lt_of_lt_of_le hlt hO2.size, Nat.lt_of_lt_of_le h.n2 (Nat.le_trans hO.size hO2.size)⟩, hp, ?_⟩
  · rw [World.cell?_setCell_same _ _ _ kc0]; simp
  · rw [World.cell?_setCell_other _ _ _ _ (by simp)]; exact kc1
  · rw [World.cell?_setCell_other _ _ _ _ (by simp)]; exact kc2
  · rw [World.frozen?_setCell]; exact (hO.frozen (p := ⟨rb, 0, none⟩) hl hrn).trans h.f0
  · rw [World.frozen?_setCell]; exact (hO.frozen (p := ⟨rb, 1, none⟩) hl hrn).trans h.f1
  · have := hA.le; rw [hpt, ptrs_length] at this; exact this
  · rw [← hpt]; exact hO2.range hA.row q1
  · exact (hO.mono (fun k _ h => (.inr h : k = rb ∨ k = nb))).trans hO2 (fun i h => .inl (.inl h))

theorem rw_push_s {w w1 : World} {rb nb no nc eb eo ec : Nat} {ns : List Nat} {ss : List Int} (h : Rw w rb nb no nc eb eo ec ns ss) {w0 : World} {v : Int} {eb' eo' ec' : Nat} (hA : App w0 eb eo ec (ints ss ++ [.int .i64 v]) eb' eo' ec' w1) (h0 : Only (fun _ => False) w w0) (hz : w.heap.size ≤ w0.heap.size) :
    Rw (w1.setCell ⟨rb, 1, none⟩ (.slice (some ⟨eb', eo', none⟩) (ss.length + 1) ec')) rb nb no nc eb' eo' ec' ns (ss ++ [v]) ∧ (eb' = eb ∨ w.heap.size ≤ eb') ∧ Only (fun k => k = rb ∨ k = eb) w (w1.setCell ⟨rb, 1, none⟩ (.slice (some ⟨eb', eo', none⟩) (ss.length + 1) ec')) := by
  have hl := World.block_lt_of_cell? w _ h.c0
  simp only at hl
  have hO : Only (fun k => k = eb) w w1 := (h0.mono (fun _ _ h => False.elim h)).trans hA.only (fun i h => .inl h)
  have hp : eb' = eb ∨ w.heap.size ≤ eb' := hA.place.elim (fun h => .inl h.1) (fun h => .inr (by omega))
  have hrn : ¬ (rb = eb) := fun e => h.d2 e.symm
  have hen : ¬ (nb = eb) := h.d3
  have q1 : eb' ≠ rb := by rcases hp with e | e; (· rw [e]; exact h.d2); (· omega)
  have q3 : nb ≠ eb' := by have := h.n1; rcases hp with e | e; (· rw [e]; exact h.d3); (· omega)
  have hpt : ints ss ++ [.int .i64 v] = ints (ss ++ [v]) := by simp [ints]
  have hlt : eb' < w1.heap.size := by
    rcases hA.place with e | e
    · rw [e.1]; exact Nat.lt_of_lt_of_le h.n2 hO.size
    · refine there_lt hA.room ?_
      have := hA.le; simp at this; omega
  have hO2 : Only (fun k => k = rb) w1 (w1.setCell ⟨rb, 1, none⟩ (.slice (some ⟨eb', eo', none⟩) (ss.length + 1) ec')) := (Only.refl (fun k => k = rb) w1).setCell (p := ⟨rb, 1, none⟩) (.inl rfl) _
  have kc0 := hO.cell h.c0 hrn
  have kc1 := hO.cell h.c1 hrn
  have kc2 := hO.cell h.c2 hrn
  refine ⟨⟨?_, ?_, ?_, ?_, ?_, h.nl, h.nm, hO2.range (hO.range h.nr hen) h.d1, hO2.there (hO.there h.nt hen) h.d1, ?_, hA.max, ?_, hO2.there hA.room q1, h.d1, q1, q3, Nat.lt_of_lt_of_le h.n1 (Nat.le_trans hO.size hO2.size), Nat.lt_of_lt_of_le hlt hO2.size⟩, hp, ?_⟩
  · rw [World.cell?_setCell_other _ _ _ _ (by simp)]; exact kc0
  · rw [World.cell?_setCell_same _ _ _ kc1]; simp
  · rw [World.cell?_setCell_other _ _ _ _ (by simp)]; exact kc2
  · rw [World.frozen?_setCell]; exact (hO.frozen (p := ⟨rb, 0, none⟩) hl hrn).trans h.f0
  · rw [World.frozen?_setCell]; exact (hO.frozen (p := ⟨rb, 1, none⟩) hl hrn).trans h.f1
  · have := hA.le; rw [hpt, ints_length] at this; exact this
  · rw [← hpt]; exact hO2.range hA.row q1
  · exact (hO.mono (fun k _ h => (.inr h : k = rb ∨ k = eb))).trans hO2 (fun i h => .inl (.inl h))

theorem rw_app_n {w w0 w1 : World} {rb nb no nc eb eo ec : Nat} {ns : List Nat} {ss : List Int} (h : Rw w rb nb no nc eb eo ec ns ss) (h0 : Only (fun _ => False) w w0) {cells : List Value} {nb' no' nc' : Nat} (hA : App w0 nb no nc cells nb' no' nc' w1) :
    w1.cell? ⟨rb, 0, none⟩ = some (.slice (some ⟨nb, no, none⟩) ns.length nc) ∧ w1.frozen? ⟨rb, 0, none⟩ = false := by
  have hO : Only (fun k => k = nb) w w1 := (h0.mono (fun _ _ h => False.elim h)).trans hA.only (fun i h => .inl h)
  have hrn : ¬ (rb = nb) := fun e => h.d1 e.symm
  exact ⟨hO.cell h.c0 hrn, (hO.frozen (p := ⟨rb, 0, none⟩) (World.block_lt_of_cell? w _ h.c0) hrn).trans h.f0⟩
theorem rw_app_s {w w0 w1 : World} {rb nb no nc eb eo ec : Nat} {ns : List Nat} {ss : List Int} (h : Rw w rb nb no nc eb eo ec ns ss) (h0 : Only (fun _ => False) w w0) {cells : List Value} {eb' eo' ec' : Nat} (hA : App w0 eb eo ec cells eb' eo' ec' w1) :
    w1.cell? ⟨rb, 1, none⟩ = some (.slice (some ⟨eb, eo, none⟩) ss.length ec) ∧ w1.frozen? ⟨rb, 1, none⟩ = false := by
  have hO : Only (fun k => k = eb) w w1 := (h0.mono (fun _ _ h => False.elim h)).trans hA.only (fun i h => .inl h)
  have hrn : ¬ (rb = eb) := fun e => h.d2 e.symm
  exact ⟨hO.cell h.c1 hrn, (hO.frozen (p := ⟨rb, 1, none⟩) (World.block_lt_of_cell? w _ h.c1) hrn).trans h.f1⟩

/-- A row that only blocks from B on hold. -/
def RowAt (w : World) (B rb : Nat) (ns : List Nat) (ss : List Int) : Prop := ∃ nb no nc eb eo ec, Rw w rb nb no nc eb eo ec ns ss ∧ B ≤ rb ∧ B ≤ nb ∧ B ≤ eb

set_option maxHeartbeats 1000000 in
set_option maxRecDepth 100000 in
theorem gather_leaf (B rb b : Nat) (ns : List Nat) (ss : List Int) (w : World) (h : RowAt w B rb ns ss) (hB : B ≤ w.heap.size) (hleaf : w.cell? ⟨b, 0, none⟩ = some (.pointer none)) (hn : ns.length ≤ 1000) :
    Calls Yba.prog 43 #[.pointer (some ⟨rb, 0, none⟩), .pointer (some ⟨b, 0, none⟩)] w fun r w' => r = .returned (.tuple #[]) ∧ RowAt w' B rb (ns ++ [b]) ss ∧ Only (fun k => B ≤ k) w w' := by
  obtain ⟨nb, no, nc, eb, eo, ec, hR, b1, b2, b3⟩ := h
  have c0 := hR.c0
  have f0 := hR.f0
  have n1 := hR.nl
  have n2 := hR.nm
  have HR := hide hR
  have hbl := World.block_lt_of_cell? w _ c0
  clear hR
  have hd1 := HR.out.d1
  go_enter Yba.func43, Yba.ntmps43
  go_wp2_with (first
    | (at_builtin; refine wpList_app one87 rfl (.tmp 15) (.tmp 17) rfl nb no ns.length nc (ptrs ns) rfl (ptrs_length _) (World.rangeAt_alloc HR.out.nr _) (World.there_alloc HR.out.nt _) n1 n2 ⟨w.heap.size, 0, none⟩ 1 1 [.pointer (some ⟨b, 0, none⟩)] rfl rfl (new_one _ _ _) (by simp [Value.oneCell']) (by omega) ?_; intro nb1 no1 nc1 w1 hA; obtain ⟨k0, kf⟩ := rw_app_n HR.out ((Only.refl _ _).alloc _) hA)
    | fail)
  (try simp only [Exit.inBlock, Exit.then])
  refine bodyPost_ret (results_none rfl _ _ _) rfl ?_
  obtain ⟨hR2, hp, hO⟩ := rw_push_n HR.out hA
  exact ⟨rfl, ⟨nb1, no1, nc1, eb, eo, ec, hR2, b1, hp.elim (fun h => h ▸ b2) (fun h => Nat.le_trans hB h), b3⟩, hO.mono (fun k _ h => h.elim (fun h => h ▸ b1) (fun h => h ▸ b2))⟩

theorem RowAt.kept {w w' : World} {B rb : Nat} {ns : List Nat} {ss : List Int} (h : RowAt w B rb ns ss) {F : Nat → Prop} (hO : Only F w w') (hF : ∀ k, B ≤ k → ¬ F k) : RowAt w' B rb ns ss := by
  obtain ⟨nb, no, nc, eb, eo, ec, hR, b1, b2, b3⟩ := h
  exact ⟨nb, no, nc, eb, eo, ec, hR.kept hO (hF _ b1) (hF _ b2) (hF _ b3), b1, b2, b3⟩

set_option maxHeartbeats 1000000 in
set_option maxRecDepth 100000 in
theorem gather_two (B rb : Nat) (d : Nd) (kb : Nat) (L : List Nd) (w : World) (h : RowAt w B rb [] []) (hB : B ≤ w.heap.size) (hT : Two w d kb L) (hlt : ∀ k, twoFoot d kb L k → k < B) (hn : d.xs.length ≤ 125) :
    Calls Yba.prog 43 #[.pointer (some ⟨rb, 0, none⟩), .pointer (some ⟨d.b, 0, none⟩)] w fun r w' => r = .returned (.tuple #[]) ∧ RowAt w' B rb (L.map Nd.b) d.xs ∧ Only (fun k => B ≤ k) w w' := by
  obtain ⟨b, eb, eo, cap, xs⟩ := d
  have c1 := hT.E.cell
  have c0 := hT.K.cell
  have hL := hT.len
  simp only at c1 c0 hL hn
  have HT := hide hT
  have HR := hide h
  clear hT h
  have s1 := run_acutTo kb (xs.length + 1) ((xs.length : Int) + 1) (by omega) (by omega)
  have hw1 : IntKind.i64.wrap ((xs.length : Int) + 1) = (xs.length : Int) + 1 := by simp only [IntKind.wrap_i64]; omega
  go_enter Yba.func43, Yba.ntmps43
  go_wp2
  go_region
  go_wp2
  go_loopw [34] (fun i wr => ∃ k : Nat, k ≤ L.length ∧ i = .int .i64 k ∧ RowAt wr B rb ((L.map Nd.b).take k) (xs.take k) ∧ Only (fun k => B ≤ k) w wr) (fun i _ => L.length - (intOf i).toNat)
  case atStart => exact ⟨0, Nat.zero_le _, rfl, HR.out.kept ((Only.refl (fun _ => False) w).drew) (fun _ _ h => h), (Only.refl _ _).drew⟩
  case round =>
    obtain ⟨k, hk, rfl, hRk, hOk⟩ := hrel
    have HRk := hide hRk
    have HOk := hide hOk
    clear hRk hOk
    have HTk : Hid (Two wr ⟨b, eb, eo, cap, xs⟩ kb L) := HT.out.kept HOk.out (fun k h => by have := hlt k h; omega)
    by_cases hkl : k < L.length
    · have hq : L[k]? = some L[k] := List.getElem?_eq_getElem hkl
      have hmem : L[k] ∈ L := List.getElem_mem hkl
      have hmk : (L.map Nd.b).take (k + 1) = (L.map Nd.b).take k ++ [L[k].b] := by
        rw [List.take_add_one, List.getElem?_map, hq]; rfl
      have hck : wr.cell? ⟨kb, 0 + k, none⟩ = some (.pointer (some ⟨L[k].b, 0, none⟩)) := HTk.out.K.row k _ (by simp [ptrs, ptr, hq])
      rw [Nat.zero_add] at hck
      have hleaf := (HTk.out.leaf _ hmem).2
      generalize L[k].b = q at hck hleaf hmk
      have HMK := hide hmk
      clear hmk hq hmem
      have i1 : (k : Int) < (xs.length : Int) + 1 := by omega
      have hBk : B ≤ wr.heap.size := Nat.le_trans hB HOk.out.size
      have hbB := hlt b (.inl rfl)
      have hebB := hlt eb (.inr (.inl rfl))
      go_wp2_with (first
        | (go_at_call 43; refine (gather_leaf B rb q _ _ wr HRk.out hBk hleaf (by simp; omega)).mono ?_; rintro r w5 ⟨rfl, hR5, hO5⟩; have HR5 := hide hR5; have HO5 := hide hO5; have c15 : w5.cell? ⟨b, 1, none⟩ = some (.slice (some ⟨eb, eo, none⟩) xs.length cap) := hO5.cell HTk.out.E.cell (show ¬ B ≤ b by omega); clear hR5 hO5)
        | fail)
      · have hkx : k < xs.length := by omega
        obtain ⟨nb, no, nc, tb, to, tc, hR6, b1, b2, b3⟩ := HR5.out
        have HR6 := hide hR6
        have t1 := hR6.c1
        have tf := hR6.f1
        have tl := hR6.el
        have tm := hR6.em
        have hrb := World.block_lt_of_cell? w5 _ t1
        clear hR6
        have hlk : (xs.take k).length = k := by rw [List.length_take]; omega
        rw [hlk] at t1 tl
        have hek : w5.cell? ⟨eb, eo + k, none⟩ = some (.int .i64 (xs.getD k 0)) := HO5.out.cell (range_at HTk.out.E.row (k := k) hkx) (show ¬ B ≤ eb by omega)
        have hxk : xs.take (k + 1) = xs.take k ++ [xs.getD k 0] := by
          rw [List.take_add_one, List.getD_eq_getElem?_getD, List.getElem?_eq_getElem hkx]; rfl
        generalize xs.getD k 0 = y at hek hxk
        have HXK := hide hxk
        clear hxk
        have i2 : (k : Int) < (xs.length : Int) := by omega
        go_region_law ((refine step_app one23 rfl (.tmp 53) (.tmp 61) rfl tb to k tc (ints (xs.take k)) rfl (by rw [ints_length]; exact hlk) (World.rangeAt_alloc ((World.rangeAt_drew _ _ _ _).2 HR6.out.er) _) (World.there_alloc ((World.there_drew _ _ _ _).2 HR6.out.et) _) tl tm ⟨w5.heap.size, 0, none⟩ 1 1 [.int .i64 y] rfl rfl (new_one w5.drew _ _) (one_one _) (by omega) ?_; intro tb1 to1 tc1 w6 hA; obtain ⟨k0, kf⟩ := rw_app_s HR6.out (((Only.refl _ _).drew).alloc _) hA))
        all_goals
          have hw7 := hide (rw_push_s HR6.out hA (((Only.refl _ _).drew).alloc _) (by simp))
          rw [hlk] at hw7
          generalize (w6.setCell ⟨rb, 1, none⟩ (.slice (some ⟨tb1, to1, none⟩) (k + 1) tc1)) = w7 at hw7 ⊢
          clear hA k0 kf t1 tf tl tm
          go_wp2
          refine ⟨⟨k + 1, by omega, by simp, ?_, ?_⟩, by simp [intOf]; omega⟩
          · rw [HMK.out, HXK.out]
            obtain ⟨hR7, hp, hO7⟩ := hw7.out
            exact ⟨nb, no, nc, tb1, to1, tc1, hR7, b1, b2, hp.elim (fun h => h ▸ b3) (fun h => Nat.le_trans (by have := HO5.out.size; omega) h)⟩
          · exact (HOk.out.trans HO5.out (fun i h => .inl h)).trans hw7.out.2.2 (fun i h => .inl (h.elim (fun h => h ▸ b1) (fun h => h ▸ b3)))
      · have hkx : k = xs.length := by omega
        refine ⟨⟨k + 1, by omega, by simp, ?_, HOk.out.trans HO5.out (fun i h => .inl h)⟩, by simp [intOf]; omega⟩
        rw [HMK.out, List.take_of_length_le (l := xs) (i := k + 1) (by omega)]
        have := HR5.out
        rwa [List.take_of_length_le (l := xs) (i := k) (by omega)] at this
    · go_wp2
      go_end0
      have := HRk.out
      rw [List.take_of_length_le (by simp; omega), List.take_of_length_le (by omega)] at this
      exact ⟨rfl, this, HOk.out⟩

def madeObj (z : Value) (c : Nat) (e : TypeId) : Obj := .cells (madeCells z.cells (c * 1)) e
theorem run_mk {t e : TypeId} {z : Value} (T : OneT t e z) (c : Nat) (C : Int) (hC : C = c) (hc : c ≤ 1000000) (w : World) :
    (Instr.makeSlice t (.int .i64 0) (.int .i64 C)).run Yba.prog w = .ok (.slice (some ⟨w.heap.size, 0, none⟩) 0 c) (w.alloc (madeObj z c e)) := by
  subst hC
  obtain ⟨i, hi, hz0, hz1, hz2⟩ := info_parts T.info
  have := run_make (P := Yba.prog) w t e i z T.und hi hz0 .i64 .i64 0 c (Int.le_refl _) (by omega) (by rw [hz2]; omega) (by omega)
  rw [this, hz1]
  simp [madeObj]
theorem made_there {t e : TypeId} {z : Value} (T : OneT t e z) (c : Nat) (w : World) : (w.alloc (madeObj z c e)).there w.heap.size 0 c := by
  intro j hj
  rw [Nat.zero_add]
  have hs : (madeCells z.cells (c * 1)).size = c := by rw [size_madeCells]; omega
  refine ⟨?_, ?_⟩
  · unfold madeObj; rw [cell_of_row _ _ _ _ _ _ (heap_alloc_new w _), Array.getElem?_eq_getElem (by omega)]; rfl
  · unfold World.frozen?; rw [heap_alloc_new]; simp [madeObj]

/-- The leaves of a tree, and its separators. -/
def leafsT : Tree → List Nd
  | none => []
  | some (.inl d) => [d]
  | some (.inr (_, _, L)) => L
def sepsT : Tree → List Int
  | none => []
  | some (.inl _) => []
  | some (.inr (d, _, _)) => d.xs

theorem gatherT (B rb : Nat) (t : Tree) (w : World) (h : RowAt w B rb [] []) (hB : B ≤ w.heap.size) (hT : TOK w t) (hlt : ∀ k, footT t k → k < B) (hne : t ≠ none) (hn : (flatT t).length ≤ 5000) :
    ∃ a, rootT t = some a ∧ Calls Yba.prog 43 #[.pointer (some ⟨rb, 0, none⟩), .pointer (rootT t)] w fun r w' => r = .returned (.tuple #[]) ∧ RowAt w' B rb ((leafsT t).map Nd.b) (sepsT t) ∧ Only (fun k => B ≤ k) w w' := by
  match t, hT, hlt, hne, hn with
  | none, _, _, hne, _ => exact absurd rfl hne
  | some (.inl d), hT, hlt, _, _ =>
    exact ⟨_, rfl, gather_leaf B rb d.b [] [] w h hB hT.2.1 (by simp)⟩
  | some (.inr (d, kb, L)), hT, hlt, _, hn =>
    exact ⟨_, rfl, gather_two B rb d kb L w h hB hT.1 hlt (by have := two_small hT.1 hT.2.1 hn; omega)⟩

end Go.Proofs.Ybulkcgwo.T
