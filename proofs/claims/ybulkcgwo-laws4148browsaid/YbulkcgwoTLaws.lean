import Derived.Test.YbulkcgwoTFrame
import Derived.Deep.RegionLaw
import Derived.Lib.SliceRun
namespace Go.Proofs.Ybulkcgwo.T
open Go.RowKit
set_option linter.unusedVariables false

theorem info3 : (Yba.prog.info? 3).map (fun i => (i.zero, i.size, i.bytes)) = some (some (.int .i64 0), 1, 8) := by kernel_rfl
theorem info28 : (Yba.prog.info? 28).map (fun i => (i.zero, i.size, i.bytes)) = some (some (.pointer none), 1, 8) := by kernel_rfl
theorem size3 : (Yba.prog.info? 3).map (·.size) = some 1 := by kernel_rfl
theorem size28 : (Yba.prog.info? 28).map (·.size) = some 1 := by kernel_rfl

/-- A slice type with elements of one cell. -/
structure OneT (t e : TypeId) (z : Value) : Prop where
  und : Yba.prog.underlying t = some (.slice e)
  info : (Yba.prog.info? e).map (fun i => (i.zero, i.size, i.bytes)) = some (some z, 1, 8)
  zc : z.cells = #[z]
  zo : z.oneCell' = true
  zv : ∀ w, (zeroValue e).run Yba.prog w = .ok z w
  sz : (Yba.prog.info? e).map (·.size) = some 1
  el : Yba.prog.elem t = e
theorem one23 : OneT 23 3 (.int .i64 0) := ⟨Yba.underlying23, info3, rfl, rfl, fun w => by kernel_rfl, size3, by kernel_rfl⟩
theorem one87 : OneT 87 28 (.pointer none) := ⟨Yba.underlying87, info28, rfl, rfl, fun w => by kernel_rfl, size28, by kernel_rfl⟩

theorem there_lt {w : World} {b o n : Nat} (h : w.there b o n) (hn : 0 < n) : b < w.heap.size := by
  obtain ⟨u, hu⟩ := Option.isSome_iff_exists.1 (h 0 hn).1
  exact World.block_lt_of_cell? w _ hu
theorem there_mono {w : World} {b o n m : Nat} (h : w.there b o n) (hm : m ≤ n) : w.there b o m := fun j hj => h j (by omega)
theorem there_from {w : World} {b o n : Nat} (h : w.there b o n) (k m : Nat) (hm : k + m ≤ n) : w.there b (o + k) m := fun j hj => by rw [Nat.add_assoc]; exact h (k + j) (by omega)
theorem range_take {w : World} {b o : Nat} {cs : List Value} (h : w.rangeAt b o cs) (k : Nat) : w.rangeAt b o (cs.take k) := fun j v hv => h j v (by rw [List.getElem?_take] at hv; split at hv <;> simp_all)
theorem range_drop {w : World} {b o : Nat} {cs : List Value} (h : w.rangeAt b o cs) (k : Nat) : w.rangeAt b (o + k) (cs.drop k) := fun j v hv => by
  rw [Nat.add_assoc]; exact h (k + j) v (by rw [List.getElem?_drop] at hv; exact hv)
theorem range_append {w : World} {b o : Nat} {cs ds : List Value} (h : w.rangeAt b o cs) (k : w.rangeAt b (o + cs.length) ds) : w.rangeAt b o (cs ++ ds) := fun j v hv => by
  rw [List.getElem?_append] at hv
  split at hv
  · exact h j v hv
  · have := k (j - cs.length) v hv
    rw [show o + cs.length + (j - cs.length) = o + j by omega] at this; exact this
theorem Only.range {F : Nat → Prop} {w w' : World} (h : Only F w w') {b o : Nat} {cs : List Value} (hr : w.rangeAt b o cs) (hb : ¬ F b) : w'.rangeAt b o cs := fun j v hv => h.cell (hr j v hv) hb
theorem Only.there {F : Nat → Prop} {w w' : World} (h : Only F w w') {b o n : Nat} (hr : w.there b o n) (hb : ¬ F b) : w'.there b o n := fun j hj => by
  obtain ⟨h1, h2⟩ := hr j hj
  obtain ⟨u, hu⟩ := Option.isSome_iff_exists.1 h1
  exact ⟨by rw [h.cell hu hb]; rfl, by rw [h.frozen (World.block_lt_of_cell? w _ hu) hb]; exact h2⟩

/-- The address of 'a[l:]'. -/
def cutA (a : Option Addr) (cap l : Nat) : Option Addr := if cap = l then a else a.map (·.add l)
theorem cutA_some {b o cap l : Nat} (h : l < cap) : cutA (some ⟨b, o, none⟩) cap l = some ⟨b, o + l, none⟩ := by
  unfold cutA; rw [if_neg (by omega)]; simp [Addr.add_lit]
theorem run_size {t e : TypeId} {z : Value} (T : OneT t e z) (w : World) : (sizeOf (Yba.prog.elem t)).run Yba.prog w = .ok 1 w := by
  obtain ⟨i, hi, hz0, hz1, hz2⟩ := info_parts T.info
  rw [T.el]
  simp [sizeOf, typeInfo, hi, hz1]
theorem run_cut {t e : TypeId} {z : Value} (T : OneT t e z) (a : Option Addr) (len cap l : Nat) (I : Int) (hI : I = l) (h : l ≤ len) (w : World) :
    (Instr.slice t (.slice a len cap) (some (.int .i64 I)) none none).run Yba.prog w = .ok (.slice (cutA a cap l) (len - l) (cap - l)) w := by
  subst hI
  rw [run_slice_l (P := Yba.prog) w t a len cap (by rw [T.el]; exact T.und) .i64 l (by omega) (by omega), run_size T]
  simp [sliced, cutA, Result.andThen]
theorem run_cut2 {t e : TypeId} {z : Value} (T : OneT t e z) (a : Option Addr) (len cap l h : Nat) (I J : Int) (hI : I = l) (hJ : J = h) (h1 : l ≤ h) (h2 : h ≤ cap) (w : World) :
    (Instr.slice t (.slice a len cap) (some (.int .i64 I)) (some (.int .i64 J)) none).run Yba.prog w = .ok (.slice (cutA a cap l) (h - l) (cap - l)) w := by
  subst hI; subst hJ
  rw [run_slice_lh (P := Yba.prog) w t a len cap (by rw [T.el]; exact T.und) .i64 .i64 l h (by omega) (by omega) (by omega), run_size T]
  simp [sliced, cutA, Result.andThen]
theorem run_cutTo {t e : TypeId} {z : Value} (T : OneT t e z) (b o len cap h : Nat) (J : Int) (hJ : J = h) (h2 : h ≤ cap) (w : World) :
    (Instr.slice t (.slice (some ⟨b, o, none⟩) len cap) none (some (.int .i64 J)) none).run Yba.prog w = .ok (.slice (some ⟨b, o, none⟩) h cap) w := by
  subst hJ
  rw [run_slice_h (P := Yba.prog) w t _ len cap (by rw [T.el]; exact T.und) .i64 h (by omega) (by omega), run_size T]
  simp [sliced, Result.andThen, Addr.add_lit]

/-- What an append leaves. -/
structure App (w : World) (eb eo cap : Nat) (cells : List Value) (eb' eo' cap' : Nat) (w' : World) : Prop where
  row : w'.rangeAt eb' eo' cells
  room : w'.there eb' eo' cap'
  le : cells.length ≤ cap'
  max : cap' ≤ maxLen
  place : (eb' = eb ∧ eo' = eo ∧ cap' = cap) ∨ (w.heap.size ≤ eb' ∧ eo' = 0)
  only : Only (fun k => k = eb) w w'
  out : ∀ b' o', b' < w.heap.size → (b' = eb → o' < eo ∨ eo + cap ≤ o') → w'.cell? ⟨b', o', none⟩ = w.cell? ⟨b', o', none⟩
  fz : ∀ b' o', b' < w.heap.size → w'.frozen? ⟨b', o', none⟩ = w.frozen? ⟨b', o', none⟩

theorem App.keep {w : World} {eb eo cap : Nat} {cells : List Value} {eb' eo' cap' : Nat} {w' : World} (hA : App w eb eo cap cells eb' eo' cap' w') {b' o' : Nat} {v : Value} (h : w.cell? ⟨b', o', none⟩ = some v) (ho : b' = eb → o' < eo) : w'.cell? ⟨b', o', none⟩ = some v := by
  rw [hA.out b' o' (World.block_lt_of_cell? w _ h) (fun e => .inl (ho e))]; exact h
theorem App.keepf {w : World} {eb eo cap : Nat} {cells : List Value} {eb' eo' cap' : Nat} {w' : World} (hA : App w eb eo cap cells eb' eo' cap' w') {b' o' : Nat} (hb : b' < w.heap.size) (h : w.frozen? ⟨b', o', none⟩ = false) : w'.frozen? ⟨b', o', none⟩ = false := by
  rw [hA.fz b' o' hb]; exact h

theorem run_app {t e : TypeId} {z : Value} (T : OneT t e z) (ty : TypeId) (w : World) (eb eo n cap : Nat) (olds : List Value) (hn : olds.length = n) (hr : w.rangeAt eb eo olds) (hth : w.there eb eo cap) (hnc : n ≤ cap) (hcm : cap ≤ maxLen)
    (ad : Addr) (m c : Nat) (news : List Value) (hm : news.length = m) (hsrc : ∀ j u, news[j]? = some u → w.cell? (ad.add j) = some u) (h1 : ∀ u ∈ news, u.oneCell' = true) (hb : n + m ≤ 1000000000) :
    ∃ eb' eo' cap' w', (Builtin.append_ #[t, t] ty #[.slice (some ⟨eb, eo, none⟩) n cap, .slice (some ad) m c]).run Yba.prog w = .ok (.slice (some ⟨eb', eo', none⟩) (n + m) cap') w' ∧ App w eb eo cap (olds ++ news) eb' eo' cap' w' := by
  obtain ⟨i, hi, hz0, hz1, hz2⟩ := info_parts T.info
  by_cases hroom : n + m ≤ cap
  · have hrun := run_append_room_cells (P := Yba.prog) w t ty e i T.und hi eb eo n cap ad m c news (by rw [hz1]; omega) hsrc h1 hroom (fun j hj => by rw [hz1, Nat.mul_one, Nat.add_assoc]; exact (hth (n + j) (by omega)).1) (fun j hj => by rw [hz1, Nat.mul_one, Nat.add_assoc]; exact (hth (n + j) (by omega)).2)
    rw [hz1, Nat.mul_one] at hrun
    refine ⟨eb, eo, cap, _, hrun, ⟨?_, World.there_setCells hth _ _ _, by rw [List.length_append]; omega, hcm, .inl ⟨rfl, rfl, rfl⟩, Only.setCells (F := fun k => k = eb) (.inl rfl) _ _ (Only.refl _ _), fun b' o' hb' ho' => World.cell?_setCells_out eb news (eo + n) w _ (fun h _ => by rcases ho' h with h | h <;> simp <;> omega), fun b' o' _ => World.frozen?_setCells _ _ _ _ _⟩⟩
    refine range_append (World.rangeAt_setCells_apart hr _ _ _ (.inr (.inl (by omega)))) ?_
    rw [hn]
    exact World.rangeAt_setCells_same _ _ _ _ (there_from hth n _ (by omega))
  · obtain ⟨v', w', hrun, hown, hg⟩ := run_append_arg_grows (P := Yba.prog) w t ty e i z 1 8 T.und hi hz0 hz1 hz2 (by rw [T.zc]; rfl) (by omega) ⟨eb, eo, none⟩ n cap olds (by omega) (fun j u hj => by rw [Addr.add_lit]; exact hr j u hj) ad m c news (by omega) hsrc (by omega) (by unfold maxLen; omega) (by omega)
    have hown' := hown
    obtain ⟨_, h2⟩ := hown'
    rcases h2 with ⟨_, h0⟩ | ⟨g, cap', cur, rfl, hg0, hblk, hnc', hcm', hcs, htk⟩
    · omega
    · refine ⟨g, 0, cap', w', hrun, ⟨fun j v hv => ?_, fun j hj => ?_, by rw [List.length_append]; omega, hcm', .inr ⟨hg0, rfl⟩, (Only.refl _ _).grown hg (by simp), fun b' o' hb' _ => World.cell?_of_block (hg.block b' hb' (by simp)), fun b' o' hb' => World.frozen?_of_block (hg.block b' hb' (by simp))⟩⟩
      · have := hown.cells rfl j v hv
        rw [Addr.add_lit] at this; exact this
      · rw [Nat.zero_add]
        have hsz : j < cur.size := by omega
        refine ⟨?_, ?_⟩
        · rw [cell_of_row w' g j cur e (0, 0) hblk]; simp [hsz]
        · simp [World.frozen?, hblk]

section
variable {ops : Array Oper} {rest : List Oper} {o : Oper} {a : Act} {w : World} {K : Act → World → Prop} {Q : Exit → Act → World → Prop} {E : Prop}

/-- append at a plain region's list. -/
theorem wpList_app {t e : TypeId} {z : Value} (T : OneT t e z) (hg : o.guard = none) (s x : Operand) (hop : o.op = Op.call { callee := Callee.builtin Builtin.append, args := #[s, x], argTypes := #[t, t] })
    (eb eo n cap : Nat) (olds : List Value) (hs : a.eval s = .slice (some ⟨eb, eo, none⟩) n cap) (hn : olds.length = n) (hr : w.rangeAt eb eo olds) (hth : w.there eb eo cap) (hnc : n ≤ cap) (hcm : cap ≤ maxLen)
    (ad : Addr) (m c : Nat) (news : List Value) (hx : a.eval x = .slice (some ad) m c) (hm : news.length = m) (hsrc : ∀ j u, news[j]? = some u → w.cell? (ad.add j) = some u) (h1 : ∀ u ∈ news, u.oneCell' = true) (hb : n + m ≤ 1000000000)
    (hK : ∀ eb' eo' cap' w', App w eb eo cap (olds ++ news) eb' eo' cap' w' → wpList Yba.prog ops Q rest (a.put o.dst (.slice (some ⟨eb', eo', none⟩) (n + m) cap')) w') :
    wpList Yba.prog ops Q (o :: rest) a w := by
  refine wpList_plain hg fun K hK' => ?_
  obtain ⟨eb', eo', cap', w', hrun, hA⟩ := run_app T o.type w eb eo n cap olds hn hr hth hnc hcm ad m c news hm hsrc h1 hb
  unfold Oper.wp
  simp [execOp, hop, resolve, invoke, builtin, hs, hx, hrun, Result.andThen]
  exact hK' _ _ (hK eb' eo' cap' w' hA)

/-- append at a step of a region that draws. -/
theorem step_app {t e : TypeId} {z : Value} (T : OneT t e z) (hg : o.guard = none) (s x : Operand) (hop : o.op = Op.call { callee := Callee.builtin Builtin.append, args := #[s, x], argTypes := #[t, t] })
    (eb eo n cap : Nat) (olds : List Value) (hs : a.eval s = .slice (some ⟨eb, eo, none⟩) n cap) (hn : olds.length = n) (hr : w.rangeAt eb eo olds) (hth : w.there eb eo cap) (hnc : n ≤ cap) (hcm : cap ≤ maxLen)
    (ad : Addr) (m c : Nat) (news : List Value) (hx : a.eval x = .slice (some ad) m c) (hm : news.length = m) (hsrc : ∀ j u, news[j]? = some u → w.cell? (ad.add j) = some u) (h1 : ∀ u ∈ news, u.oneCell' = true) (hb : n + m ≤ 1000000000)
    (hK : ∀ eb' eo' cap' w', App w eb eo cap (olds ++ news) eb' eo' cap' w' → K (a.put o.dst (.slice (some ⟨eb', eo', none⟩) (n + m) cap')) w') :
    if Region.wanted o (yielded ops a.tmps) = true then Oper.wp Yba.prog o a w K Q else E := by
  have hw : Region.wanted o (yielded ops a.tmps) = true := by simp [Region.wanted, hg]
  rw [if_pos hw]
  obtain ⟨eb', eo', cap', w', hrun, hA⟩ := run_app T o.type w eb eo n cap olds hn hr hth hnc hcm ad m c news hm hsrc h1 hb
  unfold Oper.wp
  simp [execOp, hop, resolve, invoke, builtin, hs, hx, hrun, Result.andThen]
  exact hK eb' eo' cap' w' hA

theorem run_cpy {t t2 e : TypeId} {z : Value} (T : OneT t e z) (ty : TypeId) (w : World) (dp sp : Option Addr) (dLen dCap sLen sCap b off : Nat) (cs : List Value) (hn : cs.length = Nat.min sLen dLen)
    (hpos : 0 < cs.length → dp = some ⟨b, off, none⟩ ∧ ∃ ad, sp = some ad ∧ ∀ j v, cs[j]? = some v → w.cell? (ad.add j) = some v) (hth : w.there b off cs.length) (h1 : ∀ v ∈ cs, v.oneCell' = true) :
    (Builtin.copy_ #[t, t2] ty #[.slice dp dLen dCap, .slice sp sLen sCap]).run Yba.prog w = .ok (goInt cs.length) (w.setCells b off cs) := by
  by_cases h0 : cs.length = 0
  · obtain rfl : cs = [] := List.eq_nil_of_length_eq_zero h0
    exact run_copy_none (P := Yba.prog) w t t2 ty e dp sp dLen dCap sLen sCap T.und T.sz (by simpa using hn.symm)
  · obtain ⟨rfl, ad, rfl, hsrc⟩ := hpos (by omega)
    exact run_copy_cells (P := Yba.prog) w t t2 ty e b off dLen dCap ad sLen sCap cs T.und T.sz hn hsrc (fun j hj => (hth j hj).1) (fun j hj => (hth j hj).2) h1

/-- copy at a step of a region that draws. -/
theorem step_cpy {t t2 e : TypeId} {z : Value} (T : OneT t e z) (hg : o.guard = none) (d s : Operand) (hop : o.op = Op.call { callee := Callee.builtin Builtin.copy, args := #[d, s], argTypes := #[t, t2] })
    (dp sp : Option Addr) (dLen dCap sLen sCap b off : Nat) (cs : List Value) (hd : a.eval d = .slice dp dLen dCap) (hs : a.eval s = .slice sp sLen sCap) (hn : cs.length = Nat.min sLen dLen)
    (hpos : 0 < cs.length → dp = some ⟨b, off, none⟩ ∧ ∃ ad, sp = some ad ∧ ∀ j v, cs[j]? = some v → w.cell? (ad.add j) = some v) (hth : w.there b off cs.length) (h1 : ∀ v ∈ cs, v.oneCell' = true)
    (hK : K (a.put o.dst (goInt cs.length)) (w.setCells b off cs)) :
    if Region.wanted o (yielded ops a.tmps) = true then Oper.wp Yba.prog o a w K Q else E := by
  have hw : Region.wanted o (yielded ops a.tmps) = true := by simp [Region.wanted, hg]
  rw [if_pos hw]
  have hrun := run_cpy (t2 := t2) T o.type w dp sp dLen dCap sLen sCap b off cs hn hpos hth h1
  unfold Oper.wp
  simp [execOp, hop, resolve, invoke, builtin, hd, hs, hrun, Result.andThen]
  exact hK

theorem wpList_cpy {t t2 e : TypeId} {z : Value} (T : OneT t e z) (hg : o.guard = none) (d s : Operand) (hop : o.op = Op.call { callee := Callee.builtin Builtin.copy, args := #[d, s], argTypes := #[t, t2] })
    (dp sp : Option Addr) (dLen dCap sLen sCap b off : Nat) (cs : List Value) (hd : a.eval d = .slice dp dLen dCap) (hs : a.eval s = .slice sp sLen sCap) (hn : cs.length = Nat.min sLen dLen)
    (hpos : 0 < cs.length → dp = some ⟨b, off, none⟩ ∧ ∃ ad, sp = some ad ∧ ∀ j v, cs[j]? = some v → w.cell? (ad.add j) = some v) (hth : w.there b off cs.length) (h1 : ∀ v ∈ cs, v.oneCell' = true)
    (hK : wpList Yba.prog ops Q rest (a.put o.dst (goInt cs.length)) (w.setCells b off cs)) :
    wpList Yba.prog ops Q (o :: rest) a w := by
  refine wpList_plain hg fun K hK' => ?_
  have hrun := run_cpy (t2 := t2) T o.type w dp sp dLen dCap sLen sCap b off cs hn hpos hth h1
  unfold Oper.wp
  simp [execOp, hop, resolve, invoke, builtin, hd, hs, hrun, Result.andThen]
  exact hK' _ _ hK

/-- clear: the cells of the slice. -/
theorem run_clr {t e : TypeId} {z : Value} (T : OneT t e z) (ty : TypeId) (w : World) (dp : Option Addr) (n c b off : Nat) (hpos : 0 < n → dp = some ⟨b, off, none⟩) (hth : w.there b off n) :
    (Builtin.clear_ #[t] ty #[.slice dp n c]).run Yba.prog w = .ok (.tuple #[]) (w.setCells b off (List.replicate n z)) := by
  have hst := run_storeCells_cells (P := Yba.prog) b off (List.replicate n z) 0 w (fun j hj => by simpa using (hth j (by simpa using hj)).1) (fun j hj => by simpa using (hth j (by simpa using hj)).2) (fun v hv => by rw [(List.mem_replicate.1 hv).2]; exact T.zo)
  by_cases h0 : n = 0
  · subst h0
    cases dp <;> simp [Builtin.clear_, run_underlying T.und, World.setCells, Result.andThen]
  · rw [hpos (by omega)]
    obtain ⟨n', rfl⟩ : ∃ n', n = n' + 1 := ⟨n - 1, by omega⟩
    have hz : (Builtin.zeroCells z.cells (n' + 1)).toList = List.replicate (n' + 1) z := by
      rw [T.zc]
      apply List.ext_getElem?
      intro i
      by_cases hi : i < n' + 1
      · simp [Builtin.zeroCells, hi, Nat.mod_one]
      · simp [Builtin.zeroCells, hi]
    simp only [Nat.add_zero] at hst
    simp [Builtin.clear_, run_underlying T.und, T.zv, hz, hst, Result.andThen]

theorem wpList_clr {t e : TypeId} {z : Value} (T : OneT t e z) (hg : o.guard = none) (d : Operand) (hop : o.op = Op.call { callee := Callee.builtin Builtin.clear, args := #[d], argTypes := #[t] })
    (dp : Option Addr) (n c b off : Nat) (hd : a.eval d = .slice dp n c) (hpos : 0 < n → dp = some ⟨b, off, none⟩) (hth : w.there b off n)
    (hK : wpList Yba.prog ops Q rest (a.put o.dst (.tuple #[])) (w.setCells b off (List.replicate n z))) :
    wpList Yba.prog ops Q (o :: rest) a w := by
  refine wpList_plain hg fun K hK' => ?_
  have hrun := run_clr T o.type w dp n c b off hpos hth
  unfold Oper.wp
  simp [execOp, hop, resolve, invoke, builtin, hd, hrun, Result.andThen]
  exact hK' _ _ hK

theorem step_clr {t e : TypeId} {z : Value} (T : OneT t e z) (hg : o.guard = none) (d : Operand) (hop : o.op = Op.call { callee := Callee.builtin Builtin.clear, args := #[d], argTypes := #[t] })
    (dp : Option Addr) (n c b off : Nat) (hd : a.eval d = .slice dp n c) (hpos : 0 < n → dp = some ⟨b, off, none⟩) (hth : w.there b off n)
    (hK : K (a.put o.dst (.tuple #[])) (w.setCells b off (List.replicate n z))) :
    if Region.wanted o (yielded ops a.tmps) = true then Oper.wp Yba.prog o a w K Q else E := by
  have hw : Region.wanted o (yielded ops a.tmps) = true := by simp [Region.wanted, hg]
  rw [if_pos hw]
  have hrun := run_clr T o.type w dp n c b off hpos hth
  unfold Oper.wp
  simp [execOp, hop, resolve, invoke, builtin, hd, hrun, Result.andThen]
  exact hK
end

end Go.Proofs.Ybulkcgwo.T
