import Derived.Test.YbulkcgwoTColl2
import Derived.Test.YbulkcgwoTSorted
import Derived.Test.YbulkcgwoTNoCmp
namespace Go.Proofs.Ybulkcgwo.T
open Go.RowKit
set_option linter.unusedVariables false
set_option linter.unusedSimpArgs false

/-- The run of the first loop. -/
def runU (a : Int) : Nat → List Int
  | 0 => []
  | k + 1 => runU a k ++ [a + 3 * (k : Int)]
theorem runU_length (a : Int) : ∀ k, (runU a k).length = k
  | 0 => rfl
  | k + 1 => by simp [runU, runU_length a k]

theorem clone_at (b off c : Nat) (zs : List Int) (w : World) (hr : w.rangeAt b off (ints zs)) (hp : 0 < zs.length) (hb : zs.length ≤ 100000) :
    Calls Yba.prog 19 #[.slice (some ⟨b, off, none⟩) zs.length c] w fun e w' => ∃ gb gc, e = .returned (.slice (some ⟨gb, 0, none⟩) zs.length gc) ∧ w'.rangeAt gb 0 (ints zs) ∧ w'.there gb 0 gc ∧ zs.length ≤ gc ∧ gc ≤ maxLen ∧ w.heap.size ≤ gb ∧ Only (fun _ => False) w w' := by
  refine (Yba.slices_Clone_int b off zs.length c zs w (Nat.le_refl _) (by omega) (cells_of hr)).mono ?_
  rintro e w' ⟨v', rfl, hown, _, hB⟩
  rw [List.take_length] at hown
  have hO : Only (fun _ => False) w w' := ⟨hB.os, hB.tape, hB.output, hB.size, fun k hk _ => hB.block k hk⟩
  rcases hown.2 with ⟨_, h0⟩ | ⟨gb, gc, cur, rfl, hg0, hblk, hnc, hcm, hcs, htk⟩
  · omega
  · refine ⟨gb, gc, rfl, fun j u hj => ?_, fun j hj => ?_, hnc, hcm, hg0, hO⟩
    · have := hown.cells rfl j u hj
      rw [Addr.add_lit] at this; exact this
    · rw [Nat.zero_add]
      have hsz : j < cur.size := by omega
      refine ⟨?_, ?_⟩
      · rw [cell_of_row w' gb j cur 3 (0, 0) hblk]; simp [hsz]
      · simp [World.frozen?, hblk]

/-- The slice of elements, as it is filled. -/
def El (w wr : World) (M : List Int) (v : Value) : Prop := Buf w.heap.size wr v M ∧ Only (fun _ => False) w wr

set_option maxHeartbeats 4000000 in
set_option maxRecDepth 100000 in
theorem brow_walk (a0 a1 : Int) (av : Option Addr) (cap : Nat) (es : List Int) (w : World) (h0 : -2147483648 ≤ a0 ∧ a0 ≤ 2147483647) (h1 : 0 ≤ a1 ∧ a1 ≤ 65535) (hes : es.length ≤ 1024) (hE : Sx w av es) (hwf : ∀ n ∈ es, -2147483648 ≤ n ∧ n ≤ 2147483647) :
    Calls Yba.prog 5 #[.int .i32 a0, .int .u16 a1, .slice av es.length cap] w fun r w' => r = .returned (.bool true) ∧ Only (fun _ => False) w w' := by
  have HE := hide hE
  have HW := hide hwf
  clear hE hwf
  obtain ⟨k, hk⟩ : ∃ k : Nat, (k : Int) = a1 % 1500 := ⟨(a1 % 1500).toNat, by omega⟩
  have hk7 : k < 1500 := by omega
  have s1 := run_mk one23 (k + es.length) ((k : Int) + es.length) (by omega) (by omega)
  have e1 : ¬ (1024 : Int) < es.length := by omega
  have hk2 : a1 % 1500 = (k : Int) := hk.symm
  clear hk
  go_enter Yba.func5, Yba.ntmps5
  go_wp2_with fail
  have HI1 : Hid (El w (w.alloc (madeObj (.int .i64 0) (k + es.length) 3)) (runU a0 0) (.slice (some ⟨w.heap.size, 0, none⟩) 0 (k + es.length))) := ⟨⟨w.heap.size, 0, k + es.length, rfl, fun j v hv => by simp [runU, ints] at hv, made_there one23 _ w, Nat.zero_le _, by unfold maxLen; omega, Nat.le_refl _⟩, (Only.refl _ _).alloc _⟩
  clear s1 hk2
  generalize (w.alloc (madeObj (.int .i64 0) (k + es.length) 3)) = w3 at HI1 ⊢
  generalize Value.slice (some ⟨w.heap.size, 0, none⟩) 0 (k + es.length) = v3 at HI1 ⊢
  go_loopw [9, 8] (fun i g wr => ∃ j : Nat, j ≤ k ∧ i = .int .i64 j ∧ El w wr (runU a0 j) g) (fun i _ _ => k - (intOf i).toNat)
  case atStart => exact ⟨0, Nat.zero_le _, rfl, HI1.out⟩
  case round =>
    obtain ⟨j, hj, rfl, ⟨gb, go, gc, rfl, hr, ht, hle, hmax, hgb⟩, hO⟩ := hrel
    have HR := hide hr
    have HT := hide ht
    have HO := hide hO
    clear hr ht hO HI1
    have hl := runU_length a0 j
    by_cases hjk : j < k
    · have i1 : (j : Int) < (k : Int) := by omega
      have p1 : IntKind.i64.wrap (3 * (j : Int)) = 3 * (j : Int) := by simp only [IntKind.wrap_i64]; omega
      have p2 : IntKind.i64.wrap (a0 + 3 * (j : Int)) = a0 + 3 * (j : Int) := by simp only [IntKind.wrap_i64]; omega
      have p3 : IntKind.i64.wrap a0 = a0 := by simp only [IntKind.wrap_i64]; omega
      rw [hl] at hle ⊢
      have HL := hide hl
      clear hl
      have hsz := HO.out.size
      go_wp2_with (first
        | (at_builtin; refine wpList_app one23 rfl (.tmp 33) (.tmp 39) rfl gb go j gc (ints (runU a0 j)) rfl ((ints_length _).trans HL.out) (World.rangeAt_alloc HR.out _) (World.there_alloc HT.out _) hle hmax ⟨wr.heap.size, 0, none⟩ 1 1 [.int .i64 (a0 + 3 * (j : Int))] rfl rfl (new_one _ _ _) (one_one _) (by omega) ?_; intro g6 o6 c6 w6 hA; have HA := hide hA; clear hA)
        | fail)
      refine ⟨⟨j + 1, by omega, by simp, buf_app (xs := runU a0 (j + 1)) HA.out (by rw [runU, ints_append]; rfl) hgb (by simp; omega) _ (by rw [runU_length]), only_app (HO.out.alloc _) HA.out hgb⟩, by simp [intOf]; omega⟩
    · have ejk : j = k := by omega
      subst ejk
      have i1 : ¬ (j : Int) < (j : Int) := by omega
      generalize runU a0 j = R at HR hl hle ⊢
      have HI2 : Hid (El w wr (R ++ es.take 0) (.slice (some ⟨gb, go, none⟩) R.length gc)) := by
        rw [List.take_zero, List.append_nil]
        exact ⟨⟨gb, go, gc, rfl, HR.out, HT.out, hle, hmax, hgb⟩, HO.out⟩
      clear HR HT HO
      generalize Value.slice (some ⟨gb, go, none⟩) R.length gc = v4 at HI2 ⊢
      go_wp2
      go_loopw [43, 8] (fun i g wq => ∃ q : Nat, q ≤ es.length ∧ i = .int .i64 q ∧ El w wq (R ++ es.take q) g) (fun i _ _ => es.length - (intOf i).toNat)
      case atStart => exact ⟨0, Nat.zero_le _, rfl, HI2.out⟩
      case round =>
        obtain ⟨q, hq, rfl, ⟨gb, go, gc, rfl, hr, ht, hle, hmax, hgb⟩, hO⟩ := hrel
        have HR := hide hr
        have HT := hide ht
        have HO := hide hO
        clear hr ht hO HI2
        have hlq : (R ++ es.take q).length = j + q := by simp; omega
        by_cases hqe : q < es.length
        · have i2 : (q : Int) < (es.length : Int) := by omega
          obtain ⟨eb, eo, hav, hcs⟩ := HE.out
          have hav := hav (by omega)
          subst hav
          have hce := HO.out.cell (hcs q hqe) (fun h => h)
          have hin := HW.out (es.getD q 0) (by simp [List.getD_eq_getElem?_getD, hqe])
          have htk : es.take (q + 1) = es.take q ++ [es.getD q 0] := by
            rw [List.take_add_one, List.getD_eq_getElem?_getD, List.getElem?_eq_getElem hqe]; rfl
          have HTK := hide htk
          clear htk hcs
          generalize es.getD q 0 = y at hce hin HTK
          have p3 : IntKind.i64.wrap y = y := by simp only [IntKind.wrap_i64]; omega
          rw [hlq] at hle ⊢
          have HLQ := hide hlq
          clear hlq
          have hsz := HO.out.size
          generalize es.take q = T at HR HLQ HTK ⊢
          go_wp2_with (first
            | (at_builtin; refine wpList_app one23 rfl (.tmp 47) (.tmp 50) rfl gb go (j + q) gc (ints (R ++ T)) rfl ((ints_length _).trans HLQ.out) (World.rangeAt_alloc HR.out _) (World.there_alloc HT.out _) hle hmax ⟨wr.heap.size, 0, none⟩ 1 1 [.int .i64 y] rfl rfl (new_one _ _ _) (one_one _) (by omega) ?_; intro g6 o6 c6 w6 hA; have HA := hide hA; clear hA)
            | fail)
          refine ⟨⟨q + 1, by omega, by simp, ?_, only_app (HO.out.alloc _) HA.out hgb⟩, by simp [intOf]; omega⟩
          rw [HTK.out, ← List.append_assoc]
          exact buf_app (xs := (R ++ T) ++ [y]) HA.out (by rw [ints_append (R ++ T) [y]]; rfl) hgb (by simp; omega) _ (by rw [List.length_append, HLQ.out]; rfl)
        · have eq : q = es.length := by omega
          subst eq
          have i2 : ¬ (es.length : Int) < (es.length : Int) := by omega
          rw [List.take_length] at HR hlq hle ⊢
          generalize R ++ es = M at HR hlq hle ⊢
          clear hl
          by_cases hM : M.length = 0
          · have i3 : ((M.length : Nat) : Int) = 0 := by omega
            rw [hM] at i3 ⊢
            go_wp2
            go_ret
            exact ⟨rfl, HO.out⟩
          · have i3 : ¬ ((M.length : Nat) : Int) = 0 := by omega
            have hM1 : ¬ M = [] := fun e => hM (by rw [e]; rfl)
            have hM5 : M.length ≤ 3000 := by omega
            have hpos : 0 < M.length := by omega
            have HGL := hide (there_lt HT.out (show 0 < gc by omega))
            have HCl := hide (clone_at gb go gc M wr HR.out hpos (by omega))
            clear hlq
            go_wp2_with fail
            refine HCl.out.mono ?_
            rintro r w5 ⟨mb, mc, rfl, hr5, ht5, hle5, hmx5, hmb, hO5⟩
            have HO5 := hide hO5
            have HMB := hide hmb
            clear hO5 hmb HCl i3
            go_wp2_with fail
            refine (sort_at mb 0 mc M w5 hr5 ht5 hle5 (by omega) (by omega)).mono ?_
            rintro r w6 ⟨rfl, hr6, ht6, hO6⟩
            have HO6 := hide hO6
            clear hO6 hr5 ht5
            obtain ⟨S, hS⟩ : ∃ S, S = M.mergeSort (fun x y => decide (x ≤ y)) := ⟨_, rfl⟩
            rw [← hS] at hr6
            have hSl : S.length = M.length := by rw [hS, merge_len]
            have HS := hide hS
            have HSl := hide hSl
            have hS5 : S.length ≤ 3000 := by omega
            have hSc : S.length ≤ mc := by omega
            have HCp := hide (compact_at mb 0 mc S w6 hr6 ht6 hSc (by omega))
            rw [HSl.out] at HCp
            clear hr6 ht6 hS hSl
            go_wp2_with fail
            refine HCp.out.mono ?_
            rintro r w7 ⟨rfl, hr7, ht7, hO7⟩
            have HO7 := hide hO7
            have HR7 := hide hr7
            clear hO7 hr7 ht7 HCp
            have hcl := Lib.compact_length_le S
            obtain ⟨C, hC⟩ : ∃ C, C = Lib.compact S := ⟨_, rfl⟩
            rw [← hC] at HR7 hcl ⊢
            have HCC := hide hC
            have hC5 : C.length ≤ 3000 := by omega
            clear hC hcl hS5 hSc
            have HO57 : Hid (Only (fun k => k = mb) w5 w7) := HO6.out.trans HO7.out (fun k h => .inl h)
            have HGM : Hid (gb ≠ mb) := by have h1 := HGL.out; have h2 := HMB.out; show gb ≠ mb; omega
            have HGr7 := hide (HO57.out.range (HO5.out.range HR.out (fun h => h)) HGM.out)
            have HOw7 : Hid (Only (fun _ => False) w w7) := (HO.out.trans HO5.out (fun _ h => h.elim)).trans HO57.out (fun k h => .inr (by have h1 := HO.out.size; have h2 := HMB.out; omega))
            have HSo := hide (sortedOf_any (w := w7) HGr7.out (by have h1 := HGL.out; have h2 := HO5.out.size; have h3 := HO57.out.size; omega) hle hmax (by omega))
            clear HO6 HO7
            go_wp2_with fail
            refine HSo.out.mono ?_
            rintro r w8 ⟨sb, h', t, rfl, hI⟩
            have HI := hide hI
            clear hI HSo
            have HFA : Hid (flatT t = C) := by
              rw [HCC.out, HS.out]
              exact final_asc HI.out.st.sor HI.out.mem
            have htn : t ≠ none := by
              intro e
              subst e
              obtain ⟨y, hy⟩ := List.exists_mem_of_length_pos (l := M) hpos
              exact absurd ((HI.out.mem y).2 hy) (by simp [flatT])
            have hF5 : (flatT t).length ≤ 5000 := by have := HI.out.len; omega
            have HLV := hide (leavesS ordA ordA_good sb h' t w8 HI.out.st htn hF5)
            go_wp2_with (first
              | (go_at_call 22; refine HLV.out.mono ?_; rintro r w9 ⟨rb, rfl, hR9, hO9⟩; have HR9 := hide hR9; have HO9 := hide hO9; clear hR9 hO9 HLV)
              | fail)
            obtain ⟨L1, L2, L3⟩ := leafs_ok HI.out.st.ok htn hF5
            refine (bflat_any w8.heap.size rb (leafsT t) (sepsT t) C.length w9 HR9.out L1 L2 (by omega) (fun d hd => ⟨(L3 d hd).1.kept HO9.out (fun h => h) (fun h => h), HO9.out.cell (L3 d hd).2.1 (fun h => h), (L3 d hd).2.2⟩)).mono ?_
            rintro r w10 ⟨g9, o9, c9, rfl, hr9, ht9, hg9, hO10⟩
            rw [flat_leafs htn] at hr9 ⊢
            have hfl : (flatT t).length = C.length := by rw [HFA.out]
            rw [hfl]
            have O810 : Only (fun _ => False) w8 w10 := HO9.out.trans hO10 (fun _ h => False.elim h)
            obtain ⟨g7, hg7, hh7⟩ := HI.out.st.own
            have HOwn := hide (hg7.kept O810 (fun h => h))
            have HHol := hide ((hh7 h' rfl).kept O810 (fun h => h))
            have HTok := hide (HI.out.st.ok.kept O810 (fun _ _ h => h))
            have c39 := HOwn.out.c3
            rw [hfl] at c39
            have HRC := hide (O810.range (HI.out.only.range HR7.out (fun h => h)) (fun h => h))
            have he := equal_at g9 o9 c9 mb 0 mc (flatT t) C w10 hr9 HRC.out (by omega) (by omega) HFA.out
            rw [hfl] at he
            have HEq := hide he
            have HO10 : Hid (Only (fun _ => False) w w10) := (HOw7.out.trans HI.out.only (fun _ h => h.elim)).trans O810 (fun _ h => h.elim)
            clear he hr9 ht9 hg9 hO10 O810 hg7 hh7 hfl L1 L2 L3
            have HNE : Hid (flatT t ≠ []) := by
              obtain ⟨y, hy⟩ := List.exists_mem_of_length_pos (l := M) hpos
              have := (HI.out.mem y).2 hy
              intro e; rw [e] at this; simp at this
            have HFL : Hid ((flatT t).length = C.length) := by show _ = _; rw [HFA.out]
            clear HI HR7 HGr7 HR HT
            go_wp2_with (first
              | (go_at_call 13; refine HEq.out.mono ?_; rintro r w11 ⟨rfl, q, rfl⟩; clear HEq; have HO11 : Hid (Only (fun _ => False) w10 (w10.drewN q)) := (Only.refl _ _).drewN q; generalize (w10.drewN q) = w11 at HO11 ⊢; have c311 := HO11.out.cell c39 (fun h => h))
              | (go_at_call 14; refine (len_any sb _ _ c311).mono ?_; rintro r w12 ⟨rfl, rfl⟩)
              | (go_at_call 25; refine (all_any sb _).mono ?_; rintro r w13 ⟨p2, p3, rfl, hc2, hc3, hO13⟩; have HC2 := hide hc2; have HC3 := hide hc3; have HO13 := hide hO13; clear hc2 hc3 hO13)
              | (go_at_call 24; refine (collect_any p2 p3 sb h' ordA.cmpV ordA.searchV _ g7 t w13 ⟨htn, (HOwn.out.kept HO11.out (fun h => h)).kept HO13.out (fun h => h), (HHol.out.kept HO11.out (fun h => h)).kept HO13.out (fun h => h), (HTok.out.kept HO11.out (fun _ _ h => h)).kept HO13.out (fun _ _ h => h), hF5⟩ HC2.out HC3.out HNE.out).mono ?_; rintro r w14 ⟨cb, cc, rfl, hr14, hO14⟩; have HEq2 := hide (equal_at cb 0 cc mb 0 mc (flatT t) C w14 hr14 (hO14.range (HO13.out.range (HO11.out.range HRC.out (fun h => h)) (fun h => h)) (fun h => h)) (by omega) (by omega) HFA.out); have HO14 := hide hO14; clear hr14 hO14)
              | (go_at_call 13; refine HEq2.out.mono ?_; rintro r w15 ⟨rfl, q2, rfl⟩)
              | fail)
            go_ret
            exact ⟨rfl, (((HO10.out.trans HO11.out (fun _ h => h.elim)).trans HO13.out (fun _ h => h.elim)).trans HO14.out (fun _ h => h.elim)).drewN _⟩
end Go.Proofs.Ybulkcgwo.T
