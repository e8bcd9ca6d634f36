import Derived.Test.YbulkcgwoTLaws
namespace Go.Proofs.Ybulkcgwo.T
open Go.RowKit
set_option linter.unusedVariables false

/-- A node's elements, as they lie. -/
structure Nd where
  b : Nat
  eb : Nat
  eo : Nat
  cap : Nat
  xs : List Int

def ints (xs : List Int) : List Value := xs.map (Value.int .i64)
theorem ints_length (xs : List Int) : (ints xs).length = xs.length := by simp [ints]
theorem ints_one (xs : List Int) : ∀ u ∈ ints xs, u.oneCell' = true := ints_oneCell _ _
theorem ints_get {xs : List Int} {j : Nat} (h : j < xs.length) : (ints xs)[j]? = some (.int .i64 (xs.getD j 0)) := by simp [ints, List.getD_eq_getElem?_getD, h]
theorem range_ints {w : World} {b o : Nat} {xs : List Int} (h : w.rangeAt b o (ints xs)) {k : Nat} (hk : k < xs.length) : w.cell? ⟨b, o + k, none⟩ = some (.int .i64 (xs.getD k 0)) := h k _ (ints_get hk)

/-- The elements of a node lie well. -/
structure EOK (w : World) (d : Nd) : Prop where
  cell : w.cell? ⟨d.b, 1, none⟩ = some (.slice (some ⟨d.eb, d.eo, none⟩) d.xs.length d.cap)
  free : w.frozen? ⟨d.b, 1, none⟩ = false
  len : d.xs.length ≤ d.cap
  max : d.cap ≤ maxLen
  row : w.rangeAt d.eb d.eo (ints d.xs)
  room : w.there d.eb d.eo d.cap
  apart : d.eb = d.b → 2 ≤ d.eo
  pos : 0 < d.cap

theorem EOK.kept {w w' : World} {d : Nd} (h : EOK w d) {F : Nat → Prop} (hO : Only F w w') (h1 : ¬ F d.b) (h2 : ¬ F d.eb) : EOK w' d :=
  ⟨hO.cell h.cell h1, by rw [hO.frozen (World.block_lt_of_cell? w _ h.cell) h1]; exact h.free, h.len, h.max, hO.range h.row h2, hO.there h.room h2, h.apart, h.pos⟩
theorem EOK.lt {w : World} {d : Nd} (h : EOK w d) : d.b < w.heap.size ∧ d.eb < w.heap.size := ⟨World.block_lt_of_cell? w _ h.cell, there_lt h.room h.pos⟩

/-- insertion at a place -/
def ins (i : Nat) (e : Int) (xs : List Int) : List Int := xs.take i ++ e :: xs.drop i
theorem ins_length (i : Nat) (e : Int) (xs : List Int) : (ins i e xs).length = xs.length + 1 := by simp [ins]; omega

theorem sh_ins (xs : List Int) (e : Int) (i : Nat) (hi : i ≤ xs.length) : ∀ j, (ints (ins i e xs))[j]? = if j < i then (ints xs)[j]? else if j = i then some (.int .i64 e) else (ints xs)[j - 1]? := by
  intro j
  simp only [ints, ins, List.map_append, List.map_cons, List.getElem?_append, List.getElem?_map, List.length_map, List.length_take, Nat.min_eq_left hi]
  split
  · rw [List.getElem?_take, if_pos (by assumption)]
  · split
    · subst_vars; simp
    · rw [List.getElem?_cons, if_neg (by omega), List.getElem?_map, List.getElem?_drop]
      rw [show i + (j - i - 1) = j - 1 by omega]

theorem new_one (w : World) (v : Value) (t : TypeId) : ∀ j u, [v][j]? = some u → (w.alloc (.cells #[v] t)).cell? ((⟨w.heap.size, 0, none⟩ : Addr).add j) = some u := by
  intro j u hj
  match j, hj with
  | 0, hj => simp at hj; subst hj; simp [Addr.add]
theorem one_one (x : Int) : ∀ u ∈ [Value.int .i64 x], u.oneCell' = true := by intro u hu; simp at hu; subst hu; rfl

/-- What an append to a node's elements leaves of the node itself. -/
theorem app_node {w : World} {o : Obj} {b eb eo cap eb1 eo1 cap1 : Nat} {cells : List Value} {w1 : World} {v1 v0 : Value} (hA : App (w.alloc o) eb eo cap cells eb1 eo1 cap1 w1)
    (hc : w.cell? ⟨b, 1, none⟩ = some v1) (hf : w.frozen? ⟨b, 1, none⟩ = false) (h0 : w.cell? ⟨b, 0, none⟩ = some v0) (hap : eb = b → 2 ≤ eo) :
    w1.cell? ⟨b, 1, none⟩ = some v1 ∧ w1.cell? ⟨b, 0, none⟩ = some v0 ∧ w1.frozen? ⟨b, 1, none⟩ = false ∧ (eb1 = b → 2 ≤ eo1) := by
  have hb := World.block_lt_of_cell? w _ hc
  have hb' : b < (w.alloc o).heap.size := by simp at hb ⊢; omega
  refine ⟨?_, ?_, ?_, ?_⟩
  · rw [hA.out b 1 hb' (fun h => by have := hap h.symm; omega), World.cell?_alloc_past _ _ _ hb]; exact hc
  · rw [hA.out b 0 hb' (fun h => by have := hap h.symm; omega), World.cell?_alloc_past _ _ _ hb]; exact h0
  · rw [hA.fz b 1 hb', World.frozen?_alloc_past _ _ _ hb]; exact hf
  · intro h
    rcases hA.place with ⟨h1, h2, _⟩ | ⟨h1, _⟩
    · rw [h2]; exact hap (h1 ▸ h)
    · simp only at hb; omega

theorem ints_drop (xs : List Int) (i : Nat) : ints (xs.drop i) = (ints xs).drop i := by simp [ints, List.map_drop]
theorem ins_hn (xs : List Int) {i : Nat} (hi : i ≤ xs.length) : (ints (xs.drop i)).length = Nat.min (xs.length - i) (xs.length + 1 - (i + 1)) := by
  rw [ints_length, List.length_drop, show xs.length + 1 - (i + 1) = xs.length - i by omega]; exact (Nat.min_self _).symm
theorem ins_hn2 (xs : List Int) (i : Nat) : (ints (xs.drop i)).length = Nat.min (xs.length - i) (xs.length - i) := by
  rw [ints_length, List.length_drop]; exact (Nat.min_self _).symm
theorem ins_hpos {W : World} {eb eo cap : Nat} {xs : List Int} {e : Int} (hr : W.rangeAt eb eo (ints xs ++ [.int .i64 e])) (hle : xs.length + 1 ≤ cap) {i : Nat} (hi : i ≤ xs.length) :
    0 < (ints (xs.drop i)).length → cutA (some ⟨eb, eo, none⟩) cap (i + 1) = some ⟨eb, eo + (i + 1), none⟩ ∧ ∃ ad, cutA (some ⟨eb, eo, none⟩) cap i = some ad ∧ ∀ j v, (ints (xs.drop i))[j]? = some v → W.cell? (ad.add j) = some v := by
  intro h0
  rw [ints_length, List.length_drop] at h0
  refine ⟨cutA_some (by omega), _, cutA_some (by omega), fun j v hv => ?_⟩
  rw [Addr.add_lit, Nat.add_assoc]
  rw [ints_drop, List.getElem?_drop] at hv
  refine hr (i + j) v ?_
  rw [List.getElem?_append, if_pos (List.getElem?_eq_some_iff.1 hv).1]; exact hv
theorem ins_hth {W : World} {eb eo cap : Nat} {xs : List Int} (ht : W.there eb eo cap) (hle : xs.length + 1 ≤ cap) {i : Nat} (hi : i ≤ xs.length) : W.there eb (eo + (i + 1)) (ints (xs.drop i)).length := by
  rw [ints_length, List.length_drop]; exact there_from ht _ _ (by omega)

/-- A node whose slice has just been stored. -/
def Upd (w : World) (b eb eb1 eo1 cap1 n : Nat) (cells : List Value) (v0 : Value) (w2 : World) : Prop :=
  w2.cell? ⟨b, 1, none⟩ = some (.slice (some ⟨eb1, eo1, none⟩) n cap1) ∧ w2.cell? ⟨b, 0, none⟩ = some v0 ∧ w2.frozen? ⟨b, 1, none⟩ = false ∧ w2.rangeAt eb1 eo1 cells ∧ w2.there eb1 eo1 cap1 ∧ (eb1 = b → 2 ≤ eo1) ∧ Only (fun k => k = b ∨ k = eb) w w2
theorem upd_stored {w w1 : World} {b eb eb1 eo1 cap1 n : Nat} {cells : List Value} {v0 v1 : Value} (hr : w1.rangeAt eb1 eo1 cells) (ht : w1.there eb1 eo1 cap1) (k1 : w1.cell? ⟨b, 1, none⟩ = some v1) (k0 : w1.cell? ⟨b, 0, none⟩ = some v0) (kf : w1.frozen? ⟨b, 1, none⟩ = false) (kap : eb1 = b → 2 ≤ eo1)
    (hO : Only (fun k => k = b ∨ k = eb) w w1) : Upd w b eb eb1 eo1 cap1 n cells v0 (w1.setCell ⟨b, 1, none⟩ (.slice (some ⟨eb1, eo1, none⟩) n cap1)) := by
  refine ⟨World.cell?_setCell_same _ _ _ k1, ?_, ?_, ?_, ?_, kap, hO.setCell (.inl (.inl rfl)) _⟩
  · rw [World.cell?_setCell_other _ _ _ _ (by simp)]; exact k0
  · rw [World.frozen?_setCell]; exact kf
  · exact World.rangeAt_setCells_apart hr b 1 [_] ((Decidable.em (eb1 = b)).elim (fun h => .inr (.inr (by have := kap h; simpa using this))) .inl)
  · exact World.there_setCells ht b 1 [_]

theorem cell_cells {w : World} {x : Addr} {v : Value} (h : w.cell? x = some v) (b o : Nat) (vs : List Value) (hne : x.block = b → x.off < o ∨ o + vs.length ≤ x.off) : (w.setCells b o vs).cell? x = some v := by
  rw [World.cell?_setCells_out b vs o w x (fun h _ => hne h)]; exact h
/-- .. and the tail has been moved up by one. -/
def Ups (w : World) (b eb eb1 eo1 cap1 n i : Nat) (e : Int) (xs : List Int) (v0 : Value) (w3 : World) : Prop :=
  w3.cell? ⟨b, 1, none⟩ = some (.slice (some ⟨eb1, eo1, none⟩) n cap1) ∧ w3.cell? ⟨b, 0, none⟩ = some v0 ∧ w3.frozen? ⟨b, 1, none⟩ = false ∧ (∃ u, w3.cell? ⟨eb1, eo1 + i, none⟩ = some u) ∧ w3.frozen? ⟨eb1, eo1 + i, none⟩ = false ∧ w3.rangeAt eb1 eo1 (ints (xs.take i)) ∧ w3.rangeAt eb1 (eo1 + (i + 1)) (ints (xs.drop i)) ∧ w3.there eb1 eo1 cap1 ∧ (eb1 = b → 2 ≤ eo1) ∧ Only (fun k => k = b ∨ k = eb) w w3 ∧ ((eb1 = b ∨ eb1 = eb) ∨ w.heap.size ≤ eb1)
theorem ints_take (xs : List Int) (i : Nat) : ints (xs.take i) = (ints xs).take i := by simp [ints, List.map_take]
theorem ups_copied {w w2 : World} {b eb eb1 eo1 cap1 i : Nat} {e : Int} {xs : List Int} {v0 : Value} (h : Upd w b eb eb1 eo1 cap1 (xs.length + 1) (ints xs ++ [.int .i64 e]) v0 w2) (hi : i ≤ xs.length) (hle : xs.length + 1 ≤ cap1) (hp : (eb1 = b ∨ eb1 = eb) ∨ w.heap.size ≤ eb1) :
    Ups w b eb eb1 eo1 cap1 (xs.length + 1) i e xs v0 (w2.drew.setCells eb1 (eo1 + (i + 1)) (ints (xs.drop i))) := by
  obtain ⟨c1, c0, cf, cr, ct, cap, cO⟩ := h
  have ht : (w2.drew.setCells eb1 (eo1 + (i + 1)) (ints (xs.drop i))).there eb1 eo1 cap1 := World.there_setCells ((World.there_drew _ _ _ _).2 ct) _ _ _
  obtain ⟨u, hu⟩ := Option.isSome_iff_exists.1 (ht i (by omega)).1
  have e1 : (xs.drop i).length = xs.length - i := List.length_drop
  refine ⟨cell_cells (by simpa using c1) _ _ _ (fun h => .inl (by have := cap h.symm; simp; omega)), cell_cells (by simpa using c0) _ _ _ (fun h => .inl (by have := cap h.symm; simp; omega)), by rw [World.frozen?_setCells]; simpa using cf, ⟨u, hu⟩, (ht i (by omega)).2, ?_, ?_, ht, cap, Only.setCells (by simpa using hp) _ _ cO.drew, hp⟩
  · refine World.rangeAt_setCells_apart ((World.rangeAt_drew _ _ _ _).2 ?_) _ _ _ (.inr (.inl ?_))
    · have := range_take cr i
      rw [List.take_append_of_le_length (by rw [ints_length]; exact hi), ← ints_take] at this; exact this
    · rw [ints_length, List.length_take]; omega
  · exact World.rangeAt_setCells_same _ _ _ _ (there_from ((World.there_drew _ _ _ _).2 ct) _ _ (by rw [ints_length]; omega))

theorem range_one {w : World} {b o : Nat} {v : Value} (h : w.cell? ⟨b, o, none⟩ = some v) : w.rangeAt b o [v] := by
  intro j u hj
  match j, hj with
  | 0, hj => simp at hj; subst hj; exact h
theorem upt_stored {w w3 : World} {b eb eb1 eo1 cap1 n i : Nat} {e : Int} {xs : List Int} {v0 : Value} (h : Ups w b eb eb1 eo1 cap1 n i e xs v0 w3) (hi : i ≤ xs.length) :
    Upd w b eb eb1 eo1 cap1 n (ints (ins i e xs)) v0 (w3.setCell ⟨eb1, eo1 + i, none⟩ (.int .i64 e)) := by
  obtain ⟨d1, d0, df, ⟨u, du⟩, duf, r1, r2, ht, cap, hO, hp⟩ := h
  refine ⟨?_, ?_, ?_, ?_, World.there_setCells ht eb1 (eo1 + i) [_], cap, hO.setCell (by simpa using hp) _⟩
  · rw [World.cell?_setCell_other _ _ _ _ (fun e => by injection e with e1 e2 _; have := cap e1; omega)]; exact d1
  · rw [World.cell?_setCell_other _ _ _ _ (fun e => by injection e with e1 e2 _; have := cap e1; omega)]; exact d0
  · rw [World.frozen?_setCell]; exact df
  · have hl : (ints (xs.take i)).length = i := by rw [ints_length, List.length_take]; omega
    have e1 : ints (ins i e xs) = ints (xs.take i) ++ ([.int .i64 e] ++ ints (xs.drop i)) := by simp [ints, ins]
    rw [e1]
    refine range_append (World.rangeAt_setCells_apart r1 eb1 (eo1 + i) [_] (.inr (.inl (by omega)))) (range_append ?_ ?_)
    · rw [hl]; exact range_one (World.cell?_setCell_same _ _ _ du)
    · rw [hl, Nat.add_assoc]
      exact World.rangeAt_setCells_apart r2 eb1 (eo1 + i) [_] (.inr (.inr (by simp; omega)))

set_option maxHeartbeats 1000000 in
set_option maxRecDepth 100000 in
theorem insertAt_leaf (d : Nd) (i : Nat) (e : Int) (kid : Value) (w : World) (hE : EOK w d) (hleaf : w.cell? ⟨d.b, 0, none⟩ = some (.pointer none)) (hi : i ≤ d.xs.length) (hl : d.xs.length ≤ 1000) :
    Calls Yba.prog 53 #[.pointer (some ⟨d.b, 0, none⟩), .int .i64 i, .int .i64 e, kid] w fun r w' => r = .returned (.tuple #[]) ∧ ∃ d' : Nd, d'.b = d.b ∧ d'.xs = ins i e d.xs ∧ (d'.eb = d.eb ∨ w.heap.size ≤ d'.eb) ∧ EOK w' d' ∧ Only (fun k => k = d.b ∨ k = d.eb) w w' ∧ w'.cell? ⟨d.b, 0, none⟩ = some (.pointer none) := by
  obtain ⟨b, eb, eo, cap, xs⟩ := d
  obtain ⟨hc, hf, hlen, hmax, hrow, hroom, hap, hpos⟩ := hE
  simp only at hc hf hlen hmax hrow hroom hap hpos hleaf hi hl ⊢
  have HR := hide hrow
  have HT := hide hroom
  clear hrow hroom
  have hb := World.block_lt_of_cell? w _ hc
  go_enter Yba.func53, Yba.ntmps53
  go_wp2_with (first
    | (at_builtin; refine wpList_app one23 rfl (.tmp 18) (.tmp 20) rfl eb eo xs.length cap (ints xs) rfl (ints_length _) (World.rangeAt_alloc HR.out _) (World.there_alloc HT.out _) hlen hmax ⟨w.heap.size, 0, none⟩ 1 1 [.int .i64 e] rfl rfl (new_one _ _ _) (one_one _) (by omega) ?_; intro eb1 eo1 cap1 w1 hA; obtain ⟨k1, k0, kf, kap⟩ := app_node hA hc hf hleaf hap)
    | fail)
  have hw2 : Hid (Upd w b eb eb1 eo1 cap1 (xs.length + 1) (ints xs ++ [.int .i64 e]) (.pointer none) (w1.setCell ⟨b, 1, none⟩ (.slice (some ⟨eb1, eo1, none⟩) (xs.length + 1) cap1))) := upd_stored (by simpa using hA.row) hA.room k1 k0 kf kap ((((Only.refl _ _).alloc _).trans hA.only (fun k hk => .inl (.inr hk))))
  generalize (w1.setCell ⟨b, 1, none⟩ (.slice (some ⟨eb1, eo1, none⟩) (xs.length + 1) cap1)) = w2 at hw2 ⊢
  obtain ⟨c1, c0, cf, -, -, cap2, -⟩ := hw2.out

  have hle1 : xs.length + 1 ≤ cap1 := by have := hA.le; rw [List.length_append, ints_length] at this; exact this
  have hle2 : cap1 ≤ maxLen := hA.max
  have HA := hide hA
  clear hA k1 k0 kf kap hc hf hleaf hlen hmax
  unfold maxLen at hle2
  have hwr : IntKind.i64.wrap ((i : Int) + 1) = (i : Int) + 1 := by simp only [IntKind.wrap_i64]; omega
  have s1 := run_cut one23 (some ⟨eb1, eo1, none⟩) (xs.length + 1) cap1 (i + 1) ((i : Int) + 1) (by omega) (by omega)
  have s2 := run_cut2 one23 (some ⟨eb1, eo1, none⟩) (xs.length + 1) cap1 i xs.length (i : Int) (xs.length : Int) rfl rfl (by omega) (by omega)
  go_region_held3 (fun w' => w'.cell? ⟨b, 1, none⟩ = some (.slice (some ⟨eb1, eo1, none⟩) (xs.length + 1) cap1)) (first | exact (by simpa using c1) | exact cell_cells (by simpa using c1) _ _ _ (fun h => .inl (by have := cap2 h.symm; simp; omega))) ((refine step_cpy (t2 := 23) one23 rfl (.tmp 30) (.tmp 37) rfl _ _ _ _ _ _ eb1 (eo1 + (i + 1)) (ints (xs.drop i)) rfl rfl ?_ ?_ ?_ (ints_one _) ?_; (first | exact ins_hn xs hi | exact ins_hn2 xs i); (exact ins_hpos ((World.rangeAt_drew _ _ _ _).2 hw2.out.2.2.2.1) hle1 hi); (exact ins_hth ((World.there_drew _ _ _ _).2 hw2.out.2.2.2.2.1) hle1 hi)))
  have hw3 : Hid (Ups w b eb eb1 eo1 cap1 (xs.length + 1) i e xs (.pointer none) (w2.drew.setCells eb1 (eo1 + (i + 1)) (ints (xs.drop i)))) := ups_copied hw2.out hi hle1 (HA.out.place.elim (fun h => .inl (.inr h.1)) (fun h => .inr (by have := h.1; simp at this; omega)))
  generalize (w2.drew.setCells eb1 (eo1 + (i + 1)) (ints (xs.drop i))) = w3 at hw3 ⊢
  obtain ⟨d1, d0, df, ⟨u, du⟩, duf, -⟩ := hw3.out
  have hw4 := hide (upt_stored hw3.out hi)
  have n0 := hw4.out.2.1
  have i1 : (i : Int) < ((xs.length + 1 : Nat) : Int) := by omega
  clear s1 s2 hwr c1 c0 cf
  go_wp2
  go_end0
  obtain ⟨f1, f0, ff, fr, ft, fap, fO⟩ := hw4.out
  exact ⟨rfl, ⟨b, eb1, eo1, cap1, ins i e xs⟩, rfl, rfl, HA.out.place.elim (fun h => .inl h.1) (fun h => .inr (Nat.le_trans (by simp) h.1)), ⟨by rw [ins_length]; exact f1, ff, by rw [ins_length]; exact hle1, by unfold maxLen; exact hle2, fr, ft, fap, Nat.lt_of_lt_of_le (Nat.succ_pos _) hle1⟩, fO, f0⟩
end Go.Proofs.Ybulkcgwo.T
