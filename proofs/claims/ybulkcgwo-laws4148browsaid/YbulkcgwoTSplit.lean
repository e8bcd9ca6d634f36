import Derived.Test.YbulkcgwoTInner
namespace Go.Proofs.Ybulkcgwo.T
open Go.RowKit
set_option linter.unusedVariables false

def zeros (n : Nat) : List Value := List.replicate n (Value.int .i64 0)
theorem zeros_get (n j : Nat) : (zeros n)[j]? = if j < n then some (Value.int .i64 0) else none := by unfold zeros; rw [List.getElem?_replicate]
/-- A new 'full': a node with its room. -/
def fullCells : List Value := Value.pointer none :: Value.slice none 0 0 :: zeros 126
theorem zero122 : Yba.zeroCells122 = fullCells.toArray := by kernel_rfl
/-- What newNode lays. -/
def newObj (B : Nat) : Obj := Obj.cells (fullCells.set 1 (Value.slice (some ⟨B, 2, none⟩) 0 126)).toArray 122
theorem newObj_eq (B : Nat) : Obj.cells (Yba.zeroCells122.setIfInBounds 1 (.slice (some ⟨B, 2, none⟩) 0 126)) 122 = newObj B := by rw [zero122, List.setIfInBounds_toArray]; rfl
theorem new_heap (w : World) (B : Nat) : (w.alloc (newObj B)).heap[w.heap.size]? = some (.cells (fullCells.set 1 (.slice (some ⟨B, 2, none⟩) 0 126)).toArray 122 (0, 0)) := by
  rw [heap_alloc_new, newObj]
theorem new_cell (w : World) (B j : Nat) : (w.alloc (newObj B)).cell? ⟨w.heap.size, j, none⟩ = (fullCells.set 1 (.slice (some ⟨B, 2, none⟩) 0 126))[j]? := by
  rw [cell_of_row _ _ _ _ _ _ (new_heap w B), List.getElem?_toArray]
theorem new_free (w : World) (B j : Nat) : (w.alloc (newObj B)).frozen? ⟨w.heap.size, j, none⟩ = false := by
  unfold World.frozen?
  rw [new_heap]
  simp
theorem full_room (B j : Nat) : (fullCells.set 1 (Value.slice (some ⟨B, 2, none⟩) 0 126))[2 + j]? = (zeros 126)[j]? := by
  rw [List.getElem?_set_ne (by omega)]
  unfold fullCells
  rw [Nat.add_comm, List.getElem?_cons_succ, List.getElem?_cons_succ]
theorem new_ok (w : World) : EOK (w.alloc (newObj w.heap.size)) ⟨w.heap.size, w.heap.size, 2, 126, []⟩ ∧ (w.alloc (newObj w.heap.size)).cell? ⟨w.heap.size, 0, none⟩ = some (.pointer none) ∧ (w.alloc (newObj w.heap.size)).frozen? ⟨w.heap.size, 0, none⟩ = false := by
  refine ⟨⟨?_, new_free _ _ _, by simp, by unfold maxLen; simp, fun j v hv => by simp [ints] at hv, fun j hj => ⟨?_, new_free _ _ _⟩, fun _ => Nat.le_refl _, by simp⟩, ?_, new_free _ _ _⟩
  · rw [new_cell]; rfl
  · simp only at hj
    rw [new_cell, full_room, zeros_get, if_pos hj]; rfl
  · rw [new_cell]; rfl

theorem arr120 : Yba.prog.underlying 120 = some (.array (Yba.prog.arrayLen 120) (Yba.prog.elem 120)) := by kernel_rfl
theorem len120 : Yba.prog.arrayLen 120 = 126 := by kernel_rfl
theorem size120 (w : World) : (sizeOf (Yba.prog.elem 120)).run Yba.prog w = .ok 1 w := by kernel_rfl
theorem run_room (b : Nat) (w : World) : (Instr.sliceAt 120 (.pointer (some ⟨b, 2, none⟩)) none (some (.int .i64 0)) none).run Yba.prog w = .ok (.slice (some ⟨b, 2, none⟩) 0 126) w := by
  rw [run_sliceAt_array_h (P := Yba.prog) w 120 _ arr120 .i64 0 (by omega) (by rw [len120]; omega), size120, len120, Result.andThen_ok]
  rfl

theorem newNode_any (w : World) : Calls Yba.prog 55 #[] w fun r w' => r = .returned (.pointer (some ⟨w.heap.size, 0, none⟩)) ∧ w' = w.alloc (newObj w.heap.size) := by
  have hs := run_room
  go_enter Yba.func55, Yba.ntmps55
  go_wp2
  go_ret
  exact ⟨rfl, by rw [newObj_eq]⟩

/-- A node with more than 125 elements, split in two. -/
structure Parted (w : World) (d : Nd) (w' : World) (l r : Nd) (mid : Int) : Prop where
  lb : l.b = d.b
  leb : l.eb = d.eb
  lx : l.xs = d.xs.take 62
  mx : mid = d.xs.getD 62 0
  rx : r.xs = d.xs.drop 63
  rb : w.heap.size ≤ r.b
  reb : w.heap.size ≤ r.eb
  lE : EOK w' l
  rE : EOK w' r
  lk : w'.cell? ⟨l.b, 0, none⟩ = some (.pointer none)
  rk : w'.cell? ⟨r.b, 0, none⟩ = some (.pointer none)
  only : Only (fun k => k = d.b ∨ k = d.eb) w w'

theorem drop_src {W : World} {eb eo k : Nat} {xs : List Int} (h : W.rangeAt eb eo (ints xs)) : ∀ j u, (ints (xs.drop k))[j]? = some u → W.cell? ((⟨eb, eo + k, none⟩ : Addr).add j) = some u := by
  intro j u hu
  rw [Addr.add_lit, Nat.add_assoc]
  rw [ints_drop, List.getElem?_drop] at hu
  exact h (k + j) u hu

/-- Behind 'r.elems = append(r.elems, n.elems[63:]...)'. -/
structure Sp (w : World) (b eb eo cap : Nat) (xs : List Int) (q : Nd) (w3 : World) : Prop where
  qE : EOK w3 q
  qx : q.xs = xs.drop 63
  q0 : w3.cell? ⟨q.b, 0, none⟩ = some (.pointer none)
  qb : w.heap.size ≤ q.b
  qeb : w.heap.size ≤ q.eb
  n1 : w3.cell? ⟨b, 1, none⟩ = some (.slice (some ⟨eb, eo, none⟩) 126 cap)
  n0 : w3.cell? ⟨b, 0, none⟩ = some (.pointer none)
  nf : w3.frozen? ⟨b, 1, none⟩ = false
  nr : w3.rangeAt eb eo (ints xs)
  nt : w3.there eb eo cap
  only : Only (fun k => k = b ∨ k = eb) w w3
theorem sp_stored {w w1 w2 : World} {R b eb eo cap eb2 eo2 cap2 : Nat} {xs : List Int} (hR : R = w.heap.size) (hsz : R < w1.heap.size) (hbe : eb < w.heap.size) (hb : b < w.heap.size) (hRb : R ≠ b) (hReb : R ≠ eb) (hO1 : Only (fun _ => False) w w1)
    (hA : App w1.drew R 2 126 ([] ++ ints (xs.drop 63)) eb2 eo2 cap2 w2) (q1 : w1.drew.cell? ⟨R, 1, none⟩ = some (.slice (some ⟨R, 2, none⟩) 0 126)) (qf : w1.drew.frozen? ⟨R, 1, none⟩ = false) (q4 : w1.drew.cell? ⟨R, 0, none⟩ = some (.pointer none)) (a1 : w1.drew.cell? ⟨b, 1, none⟩ = some (.slice (some ⟨eb, eo, none⟩) 126 cap)) (a0 : w1.drew.cell? ⟨b, 0, none⟩ = some (.pointer none)) (af : w1.drew.frozen? ⟨b, 1, none⟩ = false)
    (ar : w1.drew.rangeAt eb eo (ints xs)) (at' : w1.drew.there eb eo cap) (hx : xs.length = 126) : Sp w b eb eo cap xs ⟨R, eb2, eo2, cap2, xs.drop 63⟩ (w2.setCell ⟨R, 1, none⟩ (.slice (some ⟨eb2, eo2, none⟩) 63 cap2)) := by
  have hl : (xs.drop 63).length = 63 := by rw [List.length_drop]; omega
  have hs1 : w.heap.size ≤ w1.heap.size := hO1.size
  have hp : R ≤ eb2 := by
    rcases hA.place with h | h
    · omega
    · have := h.1; simp at this; omega
  have hap : eb2 = R → 2 ≤ eo2 := by
    intro h
    rcases hA.place with h' | h'
    · omega
    · have := h'.1; simp at this; omega
  have hO2 : Only (fun k => k = R) w1.drew (w2.setCell ⟨R, 1, none⟩ (.slice (some ⟨eb2, eo2, none⟩) 63 cap2)) := hA.only.setCell (.inl rfl) _
  have hg1 := hA.keep q1 (fun _ => by omega)
  have hg0 := hA.keep q4 (fun _ => by omega)
  have hrow : w2.rangeAt eb2 eo2 (ints (xs.drop 63)) := by simpa using hA.row
  refine ⟨⟨by rw [hl]; exact World.cell?_setCell_same _ _ _ hg1, ?_, ?_, hA.max, ?_, World.there_setCells hA.room R 1 [_], hap, ?_⟩, rfl, ?_, by show w.heap.size ≤ R; omega, by show w.heap.size ≤ eb2; omega, ?_, ?_, ?_, ?_, ?_, ?_⟩
  · rw [World.frozen?_setCell]; exact hA.keepf (by simpa using hsz) qf
  · have := hA.le; simpa [ints_length] using this
  · exact World.rangeAt_setCells_apart hrow R 1 [_] ((Decidable.em (eb2 = R)).elim (fun h => .inr (.inr (by have := hap h; simpa using this))) .inl)
  · have := hA.le
    show 0 < cap2
    simp [ints_length] at this; omega
  · rw [World.cell?_setCell_other _ _ _ _ (by simp)]; exact hg0
  · exact hO2.cell a1 (fun h => hRb h.symm)
  · exact hO2.cell a0 (fun h => hRb h.symm)
  · rw [hO2.frozen (by simp; omega) (fun h => hRb h.symm)]; exact af
  · exact hO2.range ar (fun h => hReb h.symm)
  · exact hO2.there at' (fun h => hReb h.symm)
  · exact ((hO1.mono (G := fun k => k = b ∨ k = eb) (fun _ _ h => h.elim)).drew).trans hO2 (fun k h => .inr (by omega))

/-- Behind 'clear(n.elems[62:])'. -/
def Sq (b eb eo cap : Nat) (xs : List Int) (w3 w4 : World) : Prop :=
  w4.cell? ⟨b, 1, none⟩ = some (.slice (some ⟨eb, eo, none⟩) 126 cap) ∧ w4.cell? ⟨b, 0, none⟩ = some (.pointer none) ∧ w4.frozen? ⟨b, 1, none⟩ = false ∧ w4.rangeAt eb eo (ints (xs.take 62)) ∧ w4.there eb eo cap ∧ Only (fun k => k = eb) w3 w4
theorem sp_cleared {w w3 : World} {b eb eo cap : Nat} {xs : List Int} {q : Nd} (h : Sp w b eb eo cap xs q w3) (hap : eb = b → 2 ≤ eo) (hle : 126 ≤ cap) : Sq b eb eo cap xs w3 (w3.setCells eb (eo + 62) (List.replicate 64 (Value.int .i64 0))) := by
  refine ⟨cell_cells h.n1 _ _ _ (fun e => .inl (show 1 < eo + 62 by omega)), cell_cells h.n0 _ _ _ (fun e => .inl (show 0 < eo + 62 by omega)), by rw [World.frozen?_setCells]; exact h.nf, ?_, World.there_setCells h.nt _ _ _, Only.setCells (F := fun k => k = eb) (.inl rfl) _ _ (Only.refl _ _)⟩
  have := range_take h.nr 62
  rw [← ints_take] at this
  exact World.rangeAt_setCells_apart this _ _ _ (.inr (.inl (by rw [ints_length, List.length_take]; omega)))
theorem sp_done {w w3 w4 : World} {b eb eo cap : Nat} {xs : List Int} {q : Nd} {mid : Int} (h : Sp w b eb eo cap xs q w3) (h4 : Sq b eb eo cap xs w3 w4) (hE : EOK w ⟨b, eb, eo, cap, xs⟩) (hl : xs.length = 126) (hm : xs.getD 62 0 = mid) (hb : b < w.heap.size) (hbe : eb < w.heap.size) :
    Parted w ⟨b, eb, eo, cap, xs⟩ (w4.setCell ⟨b, 1, none⟩ (.slice (some ⟨eb, eo, none⟩) 62 cap)) ⟨b, eb, eo, cap, xs.take 62⟩ q mid := by
  obtain ⟨m1, m0, mf, mr, mt, mO⟩ := h4
  have ht : (xs.take 62).length = 62 := by rw [List.length_take]; omega
  have hqb := h.qb
  have hqeb := h.qeb
  have hO5 : Only (fun k => k = b ∨ k = eb) w3 (w4.setCell ⟨b, 1, none⟩ (.slice (some ⟨eb, eo, none⟩) 62 cap)) := (mO.mono (fun k _ h => .inr h)).setCell (.inl (.inl rfl)) _
  have hcap := hE.len
  simp only at hcap
  refine ⟨rfl, rfl, rfl, hm.symm, h.qx, h.qb, h.qeb, ⟨?_, ?_, ?_, hE.max, ?_, World.there_setCells mt b 1 [_], hE.apart, hE.pos⟩, h.qE.kept hO5 (fun h => by omega) (fun h => by omega), ?_, hO5.cell h.q0 (fun h => by simp only at h; omega), h.only.trans hO5 (fun k h => .inl h)⟩
  · simp only; rw [ht]; exact World.cell?_setCell_same _ _ _ m1
  · simp only; rw [World.frozen?_setCell]; exact mf
  · simp only; omega
  · exact World.rangeAt_setCells_apart mr b 1 [_] ((Decidable.em (eb = b)).elim (fun h => .inr (.inr (by have := hE.apart h; simpa using this))) .inl)
  · simp only; rw [World.cell?_setCell_other _ _ _ _ (by simp)]; exact m0

set_option maxHeartbeats 2000000 in
set_option maxRecDepth 100000 in
theorem split_leaf (d : Nd) (w : World) (hE : EOK w d) (hleaf : w.cell? ⟨d.b, 0, none⟩ = some (.pointer none)) (hl : d.xs.length = 126) :
    Calls Yba.prog 54 #[.pointer (some ⟨d.b, 0, none⟩)] w fun r w' => ∃ l q mid, r = .returned (.tuple #[.int .i64 mid, .pointer (some ⟨q.b, 0, none⟩)]) ∧ Parted w d w' l q mid := by
  obtain ⟨b, eb, eo, cap, xs⟩ := d
  have HE := hide hE
  obtain ⟨hc, hf, hlen, hmax, hrow, hroom, hap, hpos⟩ := hE
  simp only at hc hf hlen hmax hrow hroom hap hpos hleaf hl ⊢
  have HR := hide hrow
  have HT := hide hroom
  have hb := World.block_lt_of_cell? w _ hc
  have hx62 := range_ints hrow (k := 62) (by omega)
  have hbe := there_lt hroom hpos
  clear hrow hroom
  rw [hl] at hc
  have HL := hide hl
  generalize hm : xs.getD 62 0 = mid at hx62
  have HM := hide hm
  clear hm hl
  have hn := hide (new_ok w)
  go_enter Yba.func54, Yba.ntmps54
  go_wp2_with (first | (go_at_call 55; refine (newNode_any _).mono ?_; rintro e w1 ⟨rfl, rfl⟩) | fail)
  have hO1 : Hid (Only (fun _ => False) w (w.alloc (newObj w.heap.size))) := (Only.refl _ _).alloc _
  have hsz : w.heap.size < (w.alloc (newObj w.heap.size)).heap.size := by simp
  obtain ⟨R, hR⟩ : ∃ R, R = w.heap.size := ⟨_, rfl⟩
  rw [← hR] at hn hO1 hsz ⊢
  generalize (w.alloc (newObj R)) = w1 at hn hO1 hsz ⊢
  obtain ⟨⟨q1, q2, -, -, -, q3, -, -⟩, q4, q5⟩ := hn.out
  simp only [List.length_nil] at q1 q2 q3
  have Q3 := hide q3
  have a1 := hO1.out.cell hc (fun h => h)
  have a0 := hO1.out.cell hleaf (fun h => h)
  have af : w1.frozen? ⟨b, 1, none⟩ = false := by rw [hO1.out.frozen hb (fun h => h)]; exact hf
  have AR := hide (hO1.out.range HR.out (fun h => h))
  have AT := hide (hO1.out.there HT.out (fun h => h))
  have hle : 126 ≤ cap := by have := HL.out; omega
  have hcm := hmax
  unfold maxLen at hcm
  have hRb : R ≠ b := by omega
  have hReb : R ≠ eb := by omega
  have HRR := hide hR
  clear hR
  clear q3 hc hleaf hf hlen hn hmax
  have s1 := run_cut one23 (some ⟨eb, eo, none⟩) 126 cap 63 63 (by omega) (by omega)
  rw [cutA_some (by omega)] at s1
  simp only [Nat.reduceSub] at s1
  go_region_law ((refine step_app one23 rfl (.tmp 17) (.tmp 22) rfl R 2 0 126 [] rfl rfl (fun j v hv => by simp at hv) ((World.there_drew _ _ _ _).2 Q3.out) (by omega) (by unfold maxLen; omega) _ 63 _ (ints (xs.drop 63)) rfl ?_ ?_ (ints_one _) (by omega) ?_; (rw [ints_length, List.length_drop, HL.out]); (exact drop_src ((World.rangeAt_drew _ _ _ _).2 AR.out)); intro eb2 eo2 cap2 w2 hA; have g1 := hA.keep (by simpa using q1) (fun _ => by omega); have g2 := hA.keepf (b' := R) (o' := 1) (by simpa using hsz) (by simpa using q2)))
  all_goals
    have hw3 := hide (sp_stored HRR.out hsz hbe hb hRb hReb hO1.out hA (by simpa using q1) (by simpa using q2) (by simpa using q4) (by simpa using a1) (by simpa using a0) (by simpa using af) ((World.rangeAt_drew _ _ _ _).2 AR.out) ((World.there_drew _ _ _ _).2 AT.out) HL.out)
    generalize (w2.setCell ⟨R, 1, none⟩ (.slice (some ⟨eb2, eo2, none⟩) 63 cap2)) = w3 at hw3 ⊢
    obtain ⟨-, -, -, -, -, n1, n0, nf, -, -, -⟩ := hw3.out
    have s2 := run_cut one23 (some ⟨eb, eo, none⟩) 126 cap 62 62 (by omega) (by omega)
    rw [cutA_some (by omega)] at s2
    simp only [Nat.reduceSub] at s2
    have s3 := run_cutTo one23 eb eo 126 cap 62 62 (by omega) (by omega)
    have hw4 := hide (sp_cleared hw3.out HE.out.apart hle)
    clear g1 g2 q1 q2 q4 q5 a1 a0 af hA s1
    go_wp2_with (first
      | (refine wpList_clr one23 rfl (.tmp 70) rfl (some ⟨eb, eo + 62, none⟩) 64 _ eb (eo + 62) rfl (fun _ => rfl) (there_from hw3.out.nt 62 64 (by omega)) ?_; generalize (w3.setCells eb (eo + 62) (List.replicate 64 (Value.int .i64 0))) = w4 at hw4 ⊢; have m1 := hw4.out.1; have m0 := hw4.out.2.1; have mf := hw4.out.2.2.1; clear n1 n0 nf s2)
      | fail)
    go_ret2
    exact ⟨⟨b, eb, eo, cap, xs.take 62⟩, ⟨R, eb2, eo2, cap2, xs.drop 63⟩, mid, rfl, sp_done hw3.out hw4.out HE.out HL.out HM.out hb hbe⟩
end Go.Proofs.Ybulkcgwo.T
