import Derived.Test.YbulkcgwoTEnd
namespace Go.Proofs.Ybulkcgwo.T
open Go.RowKit
set_option linter.unusedVariables false
set_option linter.unusedSimpArgs false

set_option maxHeartbeats 1000000 in
set_option maxRecDepth 100000 in
theorem awalk_leaf (B : Nat) (d : Nd) (v : Value) (U : List Int) (n : Nat) (w : World) (hE : EOK w d) (h0 : w.cell? ⟨d.b, 0, none⟩ = some (.pointer none)) (hB : Buf B w v U) (hBw : B ≤ w.heap.size) (hn : n ≤ 20) (hl : U.length ≤ 100000) (hx : d.xs.length ≤ 125) :
    Calls Yba.prog 12 #[.pointer (some ⟨d.b, 0, none⟩), v, .int .i64 n] w fun r w' => ∃ v', r = .returned v' ∧ Buf B w' v' (U ++ d.xs) ∧ Only (fun k => B ≤ k) w w' := by
  obtain ⟨b, eb, eo, cap, xs⟩ := d
  obtain ⟨gb, go, gc, rfl, hrow, hroom, hle, hmax, hgb⟩ := hB
  have c1 := hE.cell
  simp only at c1 h0 hx
  have HE := hide hE
  have HR := hide hrow
  have HT := hide hroom
  clear hE hrow hroom
  have i1 : ¬ (20 : Int) < (n : Int) := by omega
  go_enter Yba.func12, Yba.ntmps12
  go_wp2_with (first
    | (at_builtin; refine wpList_app one23 rfl (.tmp 20) (.tmp 24) rfl gb go U.length gc (ints U) rfl (ints_length _) HR.out HT.out hle hmax ⟨eb, eo, none⟩ xs.length cap (ints xs) rfl (ints_length _) (src_of HE.out.row) (ints_one _) (by omega) ?_; intro g1 o1 k1 w1 hA; have HA := hide hA; clear hA)
    | fail)
  go_ret
  exact ⟨_, rfl, buf_app HA.out (by rw [ints_append]) hgb hBw _ (by simp), HA.out.only.mono (fun k _ h => by rw [h]; exact hgb)⟩

set_option maxHeartbeats 4000000 in
set_option maxRecDepth 100000 in
theorem awalk_two (B : Nat) (d : Nd) (kb : Nat) (L : List Nd) (v : Value) (w : World) (hT : Two w d kb L) (hlt : ∀ k, twoFoot d kb L k → k < B) (hB : Buf B w v []) (hBw : B ≤ w.heap.size) (hx : d.xs.length ≤ 125) (hs : ∀ n ∈ L, n.xs.length ≤ 125) :
    Calls Yba.prog 12 #[.pointer (some ⟨d.b, 0, none⟩), v, .int .i64 0] w fun r w' => ∃ v', r = .returned v' ∧ Buf B w' v' (flatF (L.map Nd.xs) d.xs) ∧ Only (fun k => B ≤ k) w w' := by
  obtain ⟨b, eb, eo, cap, xs⟩ := d
  have c1 := hT.E.cell
  have c0 := hT.K.cell
  have hL := hT.len
  simp only at c1 c0 hL hx
  have HT := hide hT
  have HB := hide hB
  have HS := hide hs
  have hbB := hlt b (.inl rfl)
  have hebB := hlt eb (.inr (.inl rfl))
  have hkbB := hlt kb (.inr (.inr (.inl rfl)))
  clear hT hB hs
  go_enter Yba.func12, Yba.ntmps12
  go_wp2
  go_loopw [7, 1] (fun i g wr => ∃ k : Nat, k ≤ xs.length ∧ i = .int .i64 k ∧ Buf B wr g (upF (L.map Nd.xs) xs k) ∧ (upF (L.map Nd.xs) xs k).length ≤ 126 * k ∧ Only (fun k => B ≤ k) w wr) (fun i _ _ => xs.length - (intOf i).toNat)
  case atStart => exact ⟨0, Nat.zero_le _, rfl, HB.out, by simp [upF], Only.refl _ _⟩
  case round =>
    obtain ⟨k, hk, rfl, hBk, hlen, hO⟩ := hrel
    have HBk := hide hBk
    have HO := hide hO
    clear hBk hO HB
    have HTk : Hid (Two wr ⟨b, eb, eo, cap, xs⟩ kb L) := HT.out.kept HO.out (fun k h => by have := hlt k h; omega)
    have hkl : k < L.length := by omega
    have hq : L[k]? = some L[k] := List.getElem?_eq_getElem hkl
    have hmem : L[k] ∈ L := List.getElem_mem hkl
    have hck : wr.cell? ⟨kb, 0 + k, none⟩ = some (.pointer (some ⟨L[k].b, 0, none⟩)) := HTk.out.K.row k _ (by simp [ptrs, ptr, hq])
    rw [Nat.zero_add] at hck
    obtain ⟨e1, e2⟩ := HTk.out.leaf _ hmem
    have e3 := HS.out _ hmem
    have c1k : wr.cell? ⟨b, 1, none⟩ = some (.slice (some ⟨eb, eo, none⟩) xs.length cap) := HTk.out.E.cell
    have c0k : wr.cell? ⟨b, 0, none⟩ = some (.pointer (some ⟨kb, 0, none⟩)) := HTk.out.K.cell
    have hBr : B ≤ wr.heap.size := Nat.le_trans hBw HO.out.size
    have hU : upF (L.map Nd.xs) xs (k + 1) = upF (L.map Nd.xs) xs k ++ (L[k].xs ++ (if k < xs.length then [xs.getD k 0] else [])) := by
      rw [upF]; simp [List.getD_eq_getElem?_getD, hq]
    have HU := hide hU
    have HBd : Hid (Buf B wr.drew _ (upF (L.map Nd.xs) xs k)) := HBk.out
    have HAW2 := hide (fun hl => awalk_leaf B L[k] _ _ 1 wr.drew (e1.kept ((Only.refl (fun _ => False) wr).drew) (fun h => h) (fun h => h)) (by simpa using e2) HBd.out hBr (by omega) hl e3)
    have HAW := hide (fun n hn hl => awalk_leaf B L[k] _ _ n wr e1 e2 HBk.out hBr hn hl e3)
    generalize L[k] = q at hck HU HAW HAW2 e1 e2 e3
    clear hU hq hmem e1 e2
    have i3 : (k : Int) < 127 := by omega
    by_cases hkx : k < xs.length
    · have i1 : (k : Int) < (xs.length : Int) := by omega
      have hsk : wr.cell? ⟨eb, eo + k, none⟩ = some (.int .i64 (xs.getD k 0)) := range_at HTk.out.E.row (k := k) hkx
      have hU2 := HU.out
      rw [if_pos hkx] at hU2
      generalize xs.getD k 0 = y at hsk hU2
      have HU2 := hide hU2
      clear hU2
      go_wp2_with (first
        | (go_at_call 12; refine (HAW.out 1 (by omega) (by omega)).mono ?_; rintro r w5 ⟨v5, rfl, hB5, hO5⟩; obtain ⟨g5, o5, c5, rfl, r5, t5, l5, m5, n5⟩ := hB5; have HR5 := hide r5; have HT5 := hide t5; have HO5 := hide hO5; have d1 := hO5.cell c1k (show ¬ B ≤ b by omega); have d2 := hO5.cell hsk (show ¬ B ≤ eb by omega); rw [List.length_append] at l5; clear r5 t5 hO5)
        | (at_builtin; refine wpList_app one23 rfl (.tmp 47) (.tmp 55) rfl g5 o5 ((upF (L.map Nd.xs) xs k).length + q.xs.length) c5 (ints (upF (L.map Nd.xs) xs k ++ q.xs)) rfl (by rw [ints_length, List.length_append]) (World.rangeAt_alloc HR5.out _) (World.there_alloc HT5.out _) l5 m5 ⟨w5.heap.size, 0, none⟩ 1 1 [.int .i64 y] rfl rfl (new_one _ _ _) (one_one _) (by omega) ?_; intro g6 o6 c6 w6 hA; have HA6 := hide hA; clear hA)
        | fail)
      refine ⟨⟨k + 1, by omega, by simp, ?_, ?_, ?_⟩, by simp [intOf]; omega⟩
      · rw [HU2.out]
        exact buf_app HA6.out (by rw [ints_append, ints_append, ints_append, List.append_assoc]; rfl) n5 (by have := HO5.out.size; simp; omega) _ (by simp; omega)
      · rw [HU2.out]; simp; omega
      · refine ((HO.out.trans HO5.out (fun i h => .inl h)).alloc _).trans HA6.out.only (fun i h => .inl (by rw [h]; exact n5))
    · have ekx : k = xs.length := by omega
      subst ekx
      have i1 : ¬ (xs.length : Int) < (xs.length : Int) := by omega
      have hU2 := HU.out
      rw [if_neg (by omega), List.append_nil] at hU2
      have HF := hide (up_flat (L.map Nd.xs) xs (by simpa using hL))
      rw [List.length_map, hL, hU2] at HF
      clear hU2
      go_wp2
      go_region_with (first
        | (go_at_call 12; refine (HAW2.out (by omega)).mono ?_; rintro r w5 ⟨v5, rfl, hB5, hO5⟩; have HB5 := hide hB5; have HO5 := hide hO5; clear hB5 hO5))
      all_goals
        go_wp2
        go_ret
        rw [← HF.out]
        exact ⟨v5, rfl, HB5.out, (HO.out.drew).trans HO5.out (fun i h => .inl h)⟩
end Go.Proofs.Ybulkcgwo.T
