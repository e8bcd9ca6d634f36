import Derived.Test.YbulkcgwoTRaise
namespace Go.Proofs.Ybulkcgwo.T
open Go.RowKit
set_option linter.unusedVariables false
set_option linter.unusedSimpArgs false

/-- What buildTree leaves. -/
structure Built (xs : List Int) (w w' : World) (t : Tree) : Prop where
  ok : TOK w' t
  flat : flatT t = xs
  new : ∀ k, footT t k → w.heap.size ≤ k
  only : Only (fun _ => False) w w'

theorem build_nil (a : Option Addr) (cap : Nat) (w : World) :
    Calls Yba.prog 73 #[.slice a 0 cap] w fun r w' => r = .returned (.pointer none) ∧ w' = w := by
  go_enter Yba.func73, Yba.ntmps73
  go_wp2
  go_ret
  exact ⟨rfl, rfl⟩

theorem own_parts {w w' : World} {v : Value} {n : Nat} {cs : List Value} (hown : w'.ownsRow w.heap.size 3 1 v n cs) (hl : cs.length = n) (hpos : 0 < n) :
    ∃ g cap, v = .slice (some ⟨g, 0, none⟩) n cap ∧ w.heap.size ≤ g ∧ g < w'.heap.size ∧ n ≤ cap ∧ cap ≤ maxLen ∧ w'.rangeAt g 0 cs ∧ w'.there g 0 cap := by
  have hown' := hown
  obtain ⟨_, h2⟩ := hown'
  rcases h2 with ⟨_, h0⟩ | ⟨g, cap', cur, rfl, hg0, hblk, hnc', hcm', hcs, htk⟩
  · omega
  · have hth : w'.there g 0 cap' := fun j hj => by
      rw [Nat.zero_add]
      have hsz : j < cur.size := by omega
      refine ⟨?_, ?_⟩
      · rw [cell_of_row w' g j cur 3 (0, 0) hblk]; simp [hsz]
      · simp [World.frozen?, hblk]
    refine ⟨g, cap', rfl, hg0, there_lt hth (by omega), hnc', hcm', fun j v hv => ?_, hth⟩
    have := hown.cells rfl j v hv
    rw [Addr.add_lit] at this; exact this

set_option maxHeartbeats 1000000 in
theorem build_small (eb eo cap : Nat) (xs : List Int) (w : World) (hr : w.rangeAt eb eo (ints xs)) (h0 : 0 < xs.length) (h1 : xs.length ≤ 125) :
    Calls Yba.prog 73 #[.slice (some ⟨eb, eo, none⟩) xs.length cap] w fun r w' => ∃ t, r = .returned (.pointer (rootT t)) ∧ Built xs w w' t := by
  have HC := hide (Yba.slices_Clone_int eb eo xs.length cap xs w (Nat.le_refl _) (by omega) (cells_of hr))
  have i1 : ¬ ((xs.length : Int) = 0) := by omega
  have i2 : (xs.length : Int) ≤ 125 := by omega
  clear hr
  go_enter Yba.func73, Yba.ntmps73
  go_wp2_with (first
    | (go_at_call 19; refine HC.out.mono ?_; rintro r w1 ⟨v1, rfl, hown, hv, hbel⟩; rw [List.take_length] at hown; obtain ⟨g, c1, rfl, p1, p2, p3, p4, p5, p6⟩ := own_parts hown (by simp) h0; have HR := hide p5; have HT := hide p6; have HB := hide hbel; clear hown hv hbel p5 p6)
    | fail)
  go_ret
  have hO : Only (fun _ => False) w w1 := (Only.of_below HB.out).mono (fun k hk h => by omega)
  have hO2 : Only (fun _ => False) w1 (w1.alloc (.cells #[.pointer none, .slice (some ⟨g, 0, none⟩) xs.length c1] 74)) := (Only.refl _ _).alloc _
  have hc : ∀ j, (w1.alloc (.cells #[.pointer none, .slice (some ⟨g, 0, none⟩) xs.length c1] 74)).cell? ⟨w1.heap.size, j, none⟩ = (#[.pointer none, .slice (some ⟨g, 0, none⟩) xs.length c1] : Array Value)[j]? := fun j => cell_of_row _ _ _ _ _ _ (heap_alloc_new w1 _)
  have hf : (w1.alloc (.cells #[.pointer none, .slice (some ⟨g, 0, none⟩) xs.length c1] 74)).frozen? ⟨w1.heap.size, 1, none⟩ = false := by
    unfold World.frozen?; rw [heap_alloc_new]; simp
  refine ⟨some (.inl ⟨w1.heap.size, g, 0, c1, xs⟩), rfl, ⟨⟨⟨hc 1, hf, p3, p4, hO2.range HR.out (fun h => h), hO2.there HT.out (fun h => h), fun e => by simp only at e; omega, by show 0 < c1; omega⟩, hc 0, h1, fun e => (by have e' : xs = [] := e; rw [e'] at h0; simp at h0)⟩, rfl, fun k hk => ?_, hO.trans hO2 (fun _ h => False.elim h)⟩⟩
  have hs := hO.size
  rcases hk with e | e
  · simp only at e; omega
  · simp only at e; omega

theorem flat_ge : ∀ (L : List Nd) (ss : List Int), (∀ n ∈ L, 62 ≤ n.xs.length ∧ n.xs.length ≤ 125) → L.length = ss.length + 1 → 62 * L.length + ss.length ≤ (flatF (L.map Nd.xs) ss).length
  | [], _, _, h => by simp at h
  | [n], [], hs, _ => by have := (hs n (by simp)).1; simp [flatF, postF]; omega
  | [_], _ :: _, _, h => by simp at h
  | _ :: _ :: _, [], _, h => by simp at h
  | n :: m :: L, s :: ss, hs, h => by
    have ih := flat_ge (m :: L) ss (fun x hx => hs x (by simp at hx ⊢; right; exact hx)) (by simp at h ⊢; omega)
    have h1 := (hs n (by simp)).1
    have e : flatF ((n :: m :: L).map Nd.xs) (s :: ss) = n.xs ++ s :: flatF ((m :: L).map Nd.xs) ss := by simp [flatF, postF]
    rw [e]
    simp at ih ⊢
    omega

set_option maxHeartbeats 1000000 in
theorem build_big (eb eo cap : Nat) (xs : List Int) (w : World) (hr : w.rangeAt eb eo (ints xs)) (heb : eb < w.heap.size) (hle : xs.length ≤ cap) (hcm : cap ≤ maxLen) (h1 : 125 < xs.length) (h2 : xs.length ≤ 5000) :
    Calls Yba.prog 73 #[.slice (some ⟨eb, eo, none⟩) xs.length cap] w fun r w' => ∃ t, r = .returned (.pointer (rootT t)) ∧ Built xs w w' t := by
  have HR := hide hr
  have i1 : ¬ ((xs.length : Int) = 0) := by omega
  have i2 : ¬ ((xs.length : Int) ≤ 125) := by omega
  clear hr
  go_enter Yba.func73, Yba.ntmps73
  go_wp2_with fail
  have HRow : Hid (Row0 (w.alloc (.cells #[.slice none 0 0, .slice none 0 0, .slice none 0 0] 89)) w.heap.size) := by
    have hc : ∀ j, (w.alloc (.cells #[.slice none 0 0, .slice none 0 0, .slice none 0 0] 89)).cell? ⟨w.heap.size, j, none⟩ = (#[.slice none 0 0, .slice none 0 0, .slice none 0 0] : Array Value)[j]? := fun j => cell_of_row _ _ _ _ _ _ (heap_alloc_new w _)
    have hf : ∀ j, (w.alloc (.cells #[.slice none 0 0, .slice none 0 0, .slice none 0 0] 89)).frozen? ⟨w.heap.size, j, none⟩ = false := fun j => by
      unfold World.frozen?; rw [heap_alloc_new]; simp
    exact ⟨hc 0, hc 1, hc 2, hf 0, hf 1, hf 2⟩
  have hO1 : Hid (Only (fun _ => False) w (w.alloc (.cells #[.slice none 0 0, .slice none 0 0, .slice none 0 0] 89))) := (Only.refl _ _).alloc _
  generalize (w.alloc (.cells #[.slice none 0 0, .slice none 0 0, .slice none 0 0] 89)) = w1 at HRow hO1 ⊢
  refine (lay_any w.heap.size w.heap.size eb eo cap xs w1 HRow.out (Nat.le_refl _) hO1.out.size heb (hO1.out.range HR.out (fun h => h)) hle hcm h1 h2).mono ?_
  rintro r w2 ⟨rfl, L, ss, nb, no, nc, tb, t0, tc, hS, hsz, hl, hl2, hfl, hO2⟩
  have h41 : L.length ≤ 100 := by
    have := flat_ge L ss hsz hl
    rw [hfl] at this
    omega
  have HRa := hide (raise_any w.heap.size w.heap.size nb no nc tb t0 tc L ss w2 hS (Nat.le_trans hO1.out.size hO2.size) hl hl2 h41)
  have HSz := hide hsz
  have HFl := hide hfl
  have HO2 := hide hO2
  have HL := hide hl
  clear hS hsz hl hfl hO2
  go_wp2_with (first
    | (go_at_call 87; refine HRa.out.mono ?_; rintro r w3 ⟨d, kb, rfl, hRd⟩; have HRd := hide hRd; clear hRd)
    | fail)
  go_ret
  refine ⟨some (.inr (d, kb, L)), rfl, ⟨⟨HRd.out.two, HSz.out, ?_⟩, ?_, HRd.out.new, ?_⟩⟩
  · intro e
    have := HRd.out.xs
    rw [e] at this
    have h := HL.out
    rw [← this] at h
    simp at h
    omega
  · show flatF (L.map Nd.xs) d.xs = xs
    rw [HRd.out.xs]; exact HFl.out
  · exact (hO1.out.trans HO2.out (fun i h => .inr h)).trans HRd.out.only (fun i h => .inr h)

/-- buildTree. -/
theorem build_any (eb eo cap : Nat) (xs : List Int) (w : World) (hr : w.rangeAt eb eo (ints xs)) (heb : eb < w.heap.size) (hle : xs.length ≤ cap) (hcm : cap ≤ maxLen) (h2 : xs.length ≤ 5000) :
    Calls Yba.prog 73 #[.slice (some ⟨eb, eo, none⟩) xs.length cap] w fun r w' => ∃ t, r = .returned (.pointer (rootT t)) ∧ Built xs w w' t := by
  by_cases h0 : xs.length = 0
  · obtain rfl : xs = [] := List.eq_nil_of_length_eq_zero h0
    refine (build_nil _ cap w).mono ?_
    rintro r w' ⟨rfl, rfl⟩
    exact ⟨none, rfl, ⟨trivial, rfl, fun k hk => False.elim hk, Only.refl _ _⟩⟩
  · by_cases h1 : xs.length ≤ 125
    · exact build_small eb eo cap xs w hr (by omega) h1
    · exact build_big eb eo cap xs w hr heb hle hcm (by omega) h2
end Go.Proofs.Ybulkcgwo.T
