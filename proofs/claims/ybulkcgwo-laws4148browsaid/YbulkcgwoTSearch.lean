import Derived.Test.YbulkcgwoTFrame
namespace Go.Proofs.Ybulkcgwo.T
open Go.RowKit
set_option linter.unusedVariables false

/-- cmp.Less, cmp.Compare. -/
theorem less_any (x y : Int) (w : World) : Calls Yba.prog 48 #[.int .i64 x, .int .i64 y] w fun e w' => e = .returned (.bool (decide (x < y))) ∧ w' = w := by
  go_enter Yba.func48, Yba.ntmps48
  go_wp2
  go_ret
  exact ⟨rfl, rfl⟩

def cmpI (x y : Int) : Int := if x < y then -1 else if y < x then 1 else 0
theorem compare_any (x y : Int) (w : World) : Calls Yba.prog 16 #[.int .i64 x, .int .i64 y] w fun e w' => e = .returned (.int .i64 (cmpI x y)) ∧ w' = w := by
  unfold cmpI
  by_cases h1 : x < y
  · rw [if_pos h1]
    go_enter Yba.func16, Yba.ntmps16
    go_wp2
    go_ret
    exact ⟨rfl, rfl⟩
  · by_cases h2 : y < x
    · rw [if_neg h1, if_pos h2]
      go_enter Yba.func16, Yba.ntmps16
      go_wp2
      go_ret
      exact ⟨rfl, rfl⟩
    · rw [if_neg h1, if_neg h2]
      go_enter Yba.func16, Yba.ntmps16
      go_wp2
      go_ret
      exact ⟨rfl, rfl⟩

/-- What a search answers. -/
structure Found (lt : Int → Int → Prop) (xs : List Int) (x : Int) (lo : Nat) (f : Bool) : Prop where
  le : lo ≤ xs.length
  pre : ∀ j, j < lo → lt (xs.getD j 0) x
  post : ∀ j, lo ≤ j → j < xs.length → ¬ lt (xs.getD j 0) x
  hit : f = true ↔ lo < xs.length ∧ xs.getD lo 0 = x

/-- How a search ends. -/
def Answer (lt : Int → Int → Prop) (xs : List Int) (x : Int) (e : Ending) : Prop := ∃ (lo : Nat) (f : Bool), e = .returned (.tuple #[.int .i64 lo, .bool f]) ∧ Found lt xs x lo f

/-- Strictly in order. -/
def Sor (lt : Int → Int → Prop) (xs : List Int) : Prop := xs.Pairwise lt
theorem Sor.at {lt : Int → Int → Prop} {xs : List Int} (h : Sor lt xs) {i j : Nat} (hij : i < j) (hj : j < xs.length) : lt (xs.getD i 0) (xs.getD j 0) := by
  have := List.pairwise_iff_getElem.1 h i j (by omega) hj hij
  simpa [List.getD_eq_getElem?_getD, List.getElem?_eq_getElem, hj, show i < xs.length by omega] using this

theorem range_at {w : World} {eb eo : Nat} {xs : List Int} (h : w.rangeAt eb eo (xs.map (Value.int .i64))) {k : Nat} (hk : k < xs.length) : w.cell? ⟨eb, eo + k, none⟩ = some (.int .i64 (xs.getD k 0)) := by
  refine h k _ ?_
  simp [List.getD_eq_getElem?_getD, hk]

theorem ret_two {a b : Int} {c d : Bool} (h : a = b) (h2 : c = d) : Ending.returned (.tuple #[.int .i64 a, .bool c]) = .returned (.tuple #[.int .i64 b, .bool d]) := by rw [h, h2]

set_option maxHeartbeats 1000000 in
set_option maxRecDepth 100000 in
theorem searchOrdered_any (eb eo cap : Nat) (xs : List Int) (x : Int) (w : World) (hs : Sor (· < ·) xs) (hr : w.rangeAt eb eo (xs.map (Value.int .i64))) (hl : xs.length ≤ 100000) :
    Calls Yba.prog 31 #[.slice (some ⟨eb, eo, none⟩) xs.length cap, .int .i64 x] w fun e w' => Answer (· < ·) xs x e ∧ w' = w := by
  have HR := hide hr
  have HS := hide hs
  clear hr hs
  go_enter Yba.func31, Yba.ntmps31
  go_wp2
  go_loop [6, 7] (fun a b => ∃ lo hi : Nat, lo ≤ hi ∧ hi ≤ xs.length ∧ a = .int .i64 lo ∧ b = .int .i64 hi ∧ Hid ((∀ j, j < lo → xs.getD j 0 < x) ∧ (∀ j, hi ≤ j → j < xs.length → ¬ xs.getD j 0 < x)))
    (fun a b => ((intOf b).toNat - (intOf a).toNat))
  case atStart => exact ⟨0, xs.length, Nat.zero_le _, Nat.le_refl _, rfl, rfl, fun j hj => by omega, fun j h1 h2 => by omega⟩
  case round =>
    obtain ⟨lo, hi, hlh, hhn, rfl, rfl, HI⟩ := hrel
    by_cases hlt : lo < hi
    · have hcell := range_at HR.out (k := (lo + hi) / 2) (by omega)
      have e0 : xs.getD ((lo + hi) / 2) 0 = xs[(lo + hi) / 2]?.getD 0 := List.getD_eq_getElem?_getD
      have HE := hide e0
      clear e0
      go_wp2
      · have hy : xs[(lo + hi) / 2]?.getD 0 < x := by assumption
        go_round
        case rel =>
          refine ⟨(lo + hi) / 2 + 1, hi, by omega, hhn, by go_num, rfl, fun j hj => ?_, HI.out.2⟩
          by_cases e : j = (lo + hi) / 2
          · subst e; rw [HE.out]; exact hy
          · have := HS.out.at (i := j) (j := (lo + hi) / 2) (by omega) (by omega)
            rw [HE.out] at this
            omega
        case measure => simp [intOf]; omega
      · have hy : ¬ xs[(lo + hi) / 2]?.getD 0 < x := by assumption
        go_round
        case rel =>
          refine ⟨lo, (lo + hi) / 2, by omega, by omega, rfl, by go_num, HI.out.1, fun j h1 h2 => ?_⟩
          by_cases e : j = (lo + hi) / 2
          · subst e; rw [HE.out]; exact hy
          · have := HS.out.at (i := (lo + hi) / 2) (j := j) (by omega) h2
            rw [HE.out] at this
            omega
        case measure => simp [intOf]; omega
    · have e : lo = hi := by omega
      subst e
      by_cases hn : lo < xs.length
      · have hcell := range_at HR.out (k := lo) hn
        generalize hy : xs.getD lo 0 = y at hcell
        have HY := hide hy
        clear hy
        go_wp2
        go_ret2
        refine ⟨⟨lo, _, rfl, ⟨hhn, HI.out.1, (fun j a b => by have := HI.out.2 j a b; omega), ?_⟩⟩, rfl⟩
        have h1 := HI.out.2 lo (Nat.le_refl _) hn
        rw [HY.out] at h1 ⊢
        simp [hn]
        omega
      · go_wp2
        go_ret2
        exact ⟨⟨lo, _, rfl, ⟨hhn, HI.out.1, (fun j a b => by have := HI.out.2 j a b; omega), by simp [hn]⟩⟩, rfl⟩

/-- The closure of LawS4148BNoCmp: it counts its calls. -/
theorem nocmp_any (kb : Nat) (c : Int) (x y : Int) (w : World) (hc : w.cell? ⟨kb, 0, none⟩ = some (.int .i64 c)) (hf : w.frozen? ⟨kb, 0, none⟩ = false) :
    Calls Yba.prog 26 #[.int .i64 x, .int .i64 y, .pointer (some ⟨kb, 0, none⟩)] w fun e w' => e = .returned (.int .i64 (cmpI y x)) ∧ w' = w.setCell ⟨kb, 0, none⟩ (.int .i64 (wrap64 (c + 1))) := by
  go_enter Yba.func26, Yba.ntmps26
  go_wp2_with (first | (go_at_call 16; refine (compare_any _ _ _).mono ?_; rintro e w' ⟨rfl, rfl⟩) | fail)
  go_ret
  exact ⟨rfl, rfl⟩

/-- What the loop of searchBy knows. -/
def Bis (lt : Int → Int → Prop) (xs : List Int) (x : Int) (lo hi : Nat) : Prop := (∀ j, j < lo → lt (xs.getD j 0) x) ∧ (∀ j, hi ≤ j → j < xs.length → lt x (xs.getD j 0))

section
variable {lt : Int → Int → Prop}
/-- A strict order that is whole. -/
structure Whole (lt : Int → Int → Prop) : Prop where
  irr : ∀ a, ¬ lt a a
  tr : ∀ a b c, lt a b → lt b c → lt a c
  tri : ∀ a b, lt a b ∨ a = b ∨ lt b a
theorem whole_lt : Whole (fun a b : Int => a < b) := ⟨fun a => by omega, fun a b c => by omega, fun a b => by omega⟩
theorem whole_gt : Whole (fun a b : Int => b < a) := ⟨fun a => by omega, fun a b c => by omega, fun a b => by omega⟩
theorem bis_hi' (W : Whole lt) {xs : List Int} {x : Int} {lo hi m : Nat} {y : Int} (hs : Sor lt xs) (h : Bis lt xs x lo hi) (h2 : m < hi) (h3 : hi ≤ xs.length) (hy : xs.getD m 0 = y) (hxy : lt x y) : Bis lt xs x lo m := by
  refine ⟨h.1, fun j hj hl => ?_⟩
  by_cases e : j = m
  · subst e; rw [hy]; exact hxy
  · have := hs.at (i := m) (j := j) (by omega) hl
    rw [hy] at this
    exact W.tr _ _ _ hxy this
theorem bis_lo' (W : Whole lt) {xs : List Int} {x : Int} {lo hi m : Nat} {y : Int} (hs : Sor lt xs) (h : Bis lt xs x lo hi) (h1 : lo ≤ m) (h3 : m < xs.length) (hy : xs.getD m 0 = y) (hxy : lt y x) : Bis lt xs x (m + 1) hi := by
  refine ⟨fun j hj => ?_, h.2⟩
  by_cases e : j = m
  · subst e; rw [hy]; exact hxy
  · have := hs.at (i := j) (j := m) (by omega) h3
    rw [hy] at this
    exact W.tr _ _ _ this hxy
theorem bis_eq' (W : Whole lt) {xs : List Int} {x : Int} {m : Nat} (hs : Sor lt xs) (h3 : m < xs.length) (hy : xs.getD m 0 = x) : Found lt xs x m true := by
  refine ⟨by omega, fun j hj => by rw [← hy]; exact hs.at hj h3, fun j h1 h2 hh => ?_, ⟨fun _ => ⟨h3, hy⟩, fun _ => rfl⟩⟩
  by_cases e : j = m
  · subst e; rw [hy] at hh; exact W.irr _ hh
  · have := hs.at (i := m) (j := j) (by omega) h2
    rw [hy] at this
    exact W.irr _ (W.tr _ _ _ hh this)
theorem bis_end' (W : Whole lt) {xs : List Int} {x : Int} {lo : Nat} (h : Bis lt xs x lo lo) (hl : lo ≤ xs.length) : Found lt xs x lo false := by
  refine ⟨hl, h.1, fun j h1 h2 hh => W.irr _ (W.tr _ _ _ hh (h.2 j h1 h2)), ?_⟩
  constructor
  · intro h; cases h
  · rintro ⟨h1, h2⟩
    have := h.2 lo (Nat.le_refl _) h1
    rw [h2] at this
    exact absurd this (W.irr _)
end

set_option maxHeartbeats 1000000 in
set_option maxRecDepth 100000 in
theorem searchBy_cmp (cb eb eo cap : Nat) (xs : List Int) (x : Int) (w : World) (hs : Sor (· < ·) xs) (hr : w.rangeAt eb eo (xs.map (Value.int .i64))) (hl : xs.length ≤ 100000) (hcb : w.cell? ⟨cb, 0, none⟩ = some (.func (.func 16) #[] #[])) :
    Calls Yba.prog 50 #[.slice (some ⟨eb, eo, none⟩) xs.length cap, .int .i64 x, .pointer (some ⟨cb, 0, none⟩)] w fun e w' => Answer (· < ·) xs x e ∧ ∃ n, w' = w.drewN n := by
  have HR := hide hr
  have HS := hide hs
  clear hr hs
  go_enter Yba.func50, Yba.ntmps50
  go_wp2
  go_loopw [7, 8] (fun a b wr => ∃ lo hi nn : Nat, lo ≤ hi ∧ hi ≤ xs.length ∧ a = .int .i64 lo ∧ b = .int .i64 hi ∧ Bis (· < ·) xs x lo hi ∧ wr = w.drewN nn)
    (fun a b _ => ((intOf b).toNat - (intOf a).toNat))
  case atStart => exact ⟨0, xs.length, 0, Nat.zero_le _, Nat.le_refl _, rfl, rfl, ⟨fun j hj => by omega, fun j h1 h2 => by omega⟩, rfl⟩
  case round =>
    obtain ⟨lo, hi, nn, hlh, hhn, rfl, rfl, hI, rfl⟩ := hrel
    have HI := hide hI
    clear hI
    by_cases hlt : lo < hi
    · obtain ⟨m, hm⟩ : ∃ m, m = (lo + hi) / 2 := ⟨_, rfl⟩
      have HM : Hid (((lo : Int) + hi) / 2 = (m : Int)) := by subst hm; show ((lo : Int) + hi) / 2 = _; omega
      have h1 : lo ≤ m := by omega
      have h2 : m < hi := by omega
      have hcell := range_at HR.out (k := m) (by omega)
      generalize hy : xs.getD m 0 = y at hcell
      have HY := hide hy
      clear hy hm
      have i0 : (0 : Int) ≤ (m : Int) := by omega
      have i1 : (m : Int) < (xs.length : Int) := by omega
      go_wp2
      rw [HM.out]
      go_region_held3 (fun w' => w'.cell? ⟨cb, 0, none⟩ = some (.func (.func 16) #[] #[]) ∧ w'.cell? ⟨eb, eo + m, none⟩ = some (.int .i64 y)) (go_keep) ((go_at_call 16; refine (compare_any _ _ _).mono ?_; rintro e w' ⟨rfl, rfl⟩))
      rcases Int.lt_trichotomy x y with hxy | hxy | hxy
      · have e1 : cmpI x y = -1 := by simp [cmpI, hxy]
        rw [e1]
        go_wp2
        go_roundw
        case rel => exact ⟨lo, m, _, h1, by omega, rfl, rfl, bis_hi' whole_lt HS.out HI.out h2 (by omega) HY.out hxy, rfl⟩
        case measure => simp [intOf]; omega
      · have e1 : cmpI x y = 0 := by simp [cmpI, hxy]
        rw [e1]
        go_wp2
        go_ret2
        exact ⟨⟨m, true, rfl, bis_eq' whole_lt HS.out (by omega) (by rw [HY.out]; omega)⟩, _, rfl⟩
      · have e1 : cmpI x y = 1 := by simp [cmpI, hxy]; omega
        rw [e1]
        go_wp2
        go_roundw
        case rel => exact ⟨m + 1, hi, _, by omega, by omega, by go_num, rfl, bis_lo' whole_lt HS.out HI.out h1 (by omega) HY.out hxy, rfl⟩
        case measure => simp [intOf]; omega
    · have e : lo = hi := by omega
      subst e
      go_wp2
      go_ret2
      exact ⟨⟨lo, false, rfl, bis_end' whole_lt HI.out hhn⟩, _, rfl⟩

theorem cell_kept {w : World} {a b : Addr} {v u : Value} (h : w.cell? b = some v) (hne : b.block ≠ a.block) : (w.setCell a u).drew.cell? b = some v := by
  rw [World.cell?_drew, World.cell?_setCell_other _ _ _ _ (fun e => hne (by rw [e]))]; exact h
theorem Cnt.next {kb : Nat} {w : World} {c d : Int} (h : w.cell? ⟨kb, 0, none⟩ = some (.int .i64 c)) (hf : w.frozen? ⟨kb, 0, none⟩ = false) : (w.setCell ⟨kb, 0, none⟩ (.int .i64 d)).cell? ⟨kb, 0, none⟩ = some (.int .i64 d) ∧ (w.setCell ⟨kb, 0, none⟩ (.int .i64 d)).frozen? ⟨kb, 0, none⟩ = false :=
  ⟨World.cell?_setCell_same _ _ _ h, by rw [World.frozen?_setCell]; exact hf⟩
/-- The counter's box. -/
def Cnt (kb : Nat) (w : World) : Prop := ∃ c, w.cell? ⟨kb, 0, none⟩ = some (.int .i64 c) ∧ w.frozen? ⟨kb, 0, none⟩ = false

set_option maxHeartbeats 1000000 in
set_option maxRecDepth 100000 in
theorem searchBy_nocmp (cb kb eb eo cap : Nat) (xs : List Int) (x : Int) (w : World) (hs : Sor (fun a b => b < a) xs) (hr : w.rangeAt eb eo (xs.map (Value.int .i64))) (hl : xs.length ≤ 100000) (hcb : w.cell? ⟨cb, 0, none⟩ = some (.func (.func 26) #[] #[.pointer (some ⟨kb, 0, none⟩)])) (hk : Cnt kb w) (hne1 : cb ≠ kb) (hne2 : eb ≠ kb) :
    Calls Yba.prog 50 #[.slice (some ⟨eb, eo, none⟩) xs.length cap, .int .i64 x, .pointer (some ⟨cb, 0, none⟩)] w fun e w' => Answer (fun a b => b < a) xs x e ∧ Cnt kb w' ∧ Only (fun k => k = kb) w w' := by
  have HR := hide hr
  have HS := hide hs
  have HK := hide hk
  clear hr hs hk
  go_enter Yba.func50, Yba.ntmps50
  go_wp2
  go_loopw [7, 8] (fun a b wr => ∃ lo hi : Nat, lo ≤ hi ∧ hi ≤ xs.length ∧ a = .int .i64 lo ∧ b = .int .i64 hi ∧ Bis (fun a b => b < a) xs x lo hi ∧ Cnt kb wr ∧ Only (fun k => k = kb) w wr)
    (fun a b _ => ((intOf b).toNat - (intOf a).toNat))
  case atStart => exact ⟨0, xs.length, Nat.zero_le _, Nat.le_refl _, rfl, rfl, ⟨fun j hj => by omega, fun j h1 h2 => by omega⟩, HK.out, Only.refl _ _⟩
  case round =>
    obtain ⟨lo, hi, hlh, hhn, rfl, rfl, hI, ⟨c, hkc, hkf⟩, hO⟩ := hrel
    have HI := hide hI
    have HO := hide hO
    clear hI hO
    by_cases hlt : lo < hi
    · obtain ⟨m, hm⟩ : ∃ m, m = (lo + hi) / 2 := ⟨_, rfl⟩
      have HM : Hid (((lo : Int) + hi) / 2 = (m : Int)) := by subst hm; show ((lo : Int) + hi) / 2 = _; omega
      have h1 : lo ≤ m := by omega
      have h2 : m < hi := by omega
      have hcell := HO.out.cell (range_at HR.out (k := m) (by omega)) hne2
      have hcbr := HO.out.cell hcb hne1
      generalize hy : xs.getD m 0 = y at hcell
      have HY := hide hy
      clear hy hm
      have i0 : (0 : Int) ≤ (m : Int) := by omega
      have i1 : (m : Int) < (xs.length : Int) := by omega
      go_wp2
      rw [HM.out]
      go_region_held3 (fun w' => w'.cell? ⟨cb, 0, none⟩ = some (.func (.func 26) #[] #[.pointer (some ⟨kb, 0, none⟩)]) ∧ w'.cell? ⟨eb, eo + m, none⟩ = some (.int .i64 y)) (first | exact ⟨cell_kept hcbr hne1, cell_kept hcell hne2⟩ | go_keep) ((go_at_call 26; refine (nocmp_any kb c _ _ wr.drew (by simpa using hkc) (by simpa using hkf)).mono ?_; rintro e w' ⟨rfl, rfl⟩))
      have HW : Hid (Cnt kb (wr.setCell ⟨kb, 0, none⟩ (.int .i64 (wrap64 (c + 1)))).drew ∧ Only (fun k => k = kb) w (wr.setCell ⟨kb, 0, none⟩ (.int .i64 (wrap64 (c + 1)))).drew) := ⟨⟨_, Cnt.next hkc hkf⟩, (HO.out.setCell (.inl rfl) _).drew⟩
      generalize (wr.setCell ⟨kb, 0, none⟩ (.int .i64 (wrap64 (c + 1)))).drew = w5 at HW ⊢
      rcases Int.lt_trichotomy x y with hxy | hxy | hxy
      · have e1 : cmpI y x = 1 := by simp [cmpI, hxy]; omega
        rw [e1]
        go_wp2
        go_roundw
        case rel => exact ⟨m + 1, hi, by omega, by omega, by go_num, rfl, bis_lo' whole_gt HS.out HI.out h1 (by omega) HY.out hxy, HW.out⟩
        case measure => simp [intOf]; omega
      · have e1 : cmpI y x = 0 := by simp [cmpI, hxy]
        rw [e1]
        go_wp2
        go_ret2
        exact ⟨⟨m, true, rfl, bis_eq' whole_gt HS.out (by omega) (by rw [HY.out]; omega)⟩, HW.out⟩
      · have e1 : cmpI y x = -1 := by simp [cmpI, hxy]
        rw [e1]
        go_wp2
        go_roundw
        case rel => exact ⟨lo, m, h1, by omega, rfl, rfl, bis_hi' whole_gt HS.out HI.out h2 (by omega) HY.out hxy, HW.out⟩
        case measure => simp [intOf]; omega
    · have e : lo = hi := by omega
      subst e
      go_wp2
      go_ret2
      exact ⟨⟨lo, false, rfl, bis_end' whole_gt HI.out hhn⟩, ⟨c, hkc, hkf⟩, HO.out⟩
end Go.Proofs.Ybulkcgwo.T
