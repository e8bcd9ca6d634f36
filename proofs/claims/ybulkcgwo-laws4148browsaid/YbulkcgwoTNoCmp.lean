import Derived.Test.YbulkcgwoTEnd
namespace Go.Proofs.Ybulkcgwo.T
open Go.RowKit
set_option linter.unusedVariables false
set_option linter.unusedSimpArgs false

/-- The run of the first loop. -/
def runD (a : Int) : Nat → List Int
  | 0 => []
  | k + 1 => runD a k ++ [a - 2 * (k : Int)]
theorem runD_length (a : Int) : ∀ k, (runD a k).length = k
  | 0 => rfl
  | k + 1 => by simp [runD, runD_length a k]

/-- What is known of a slice of int32 that came in. -/
def Sx (w : World) (av : Option Addr) (es : List Int) : Prop := ∃ b off, (0 < es.length → av = some ⟨b, off, none⟩) ∧ ∀ j, j < es.length → w.cell? ⟨b, off + j, none⟩ = some (.int .i32 (es.getD j 0))

theorem inv_start (o : Ords) (G : o.Good) (w0 w : World) (sb n : Nat) (hS : St o w sb none none) (hO : Only (fun _ => False) w0 w) (hsb : w0.heap.size ≤ sb) (hfo : ∀ k, o.foot k → w0.heap.size ≤ k) (hn : n ≤ 100000) :
    Inv o w0 (w.alloc (madeObj (.int .i64 0) n 3)) sb [] [] w.heap.size 0 n none none := by
  have hO2 : Only (fun _ => False) w (w.alloc (madeObj (.int .i64 0) n 3)) := (Only.refl _ _).alloc _
  have hsl := World.block_lt_of_cell? w _ hS.own.choose_spec.1.c0
  simp only at hsl
  exact ⟨hS.kept G hO2 (fun h => h) (fun _ _ h => h) (fun _ _ h => h) (fun _ _ h => h), fun y => by simp [flatT], by simp [flatT], fun j v hv => by simp [ints] at hv, made_there one23 n w, Nat.zero_le _, by unfold maxLen; omega, by simp, hO.size, by omega, by simp, fun h => h, fun h => (by have := G.lt w _ hS.inv h; omega), hO.trans hO2 (fun _ h => False.elim h), hsb, fun h hh => (by cases hh), fun k hk => False.elim hk, hfo⟩

/-- The set and the slice hold the same. -/
def Both (o : Ords) (w wr : World) (sb : Nat) (N : List Int) (g : Value) : Prop := ∃ gb go gc hb t, g = .slice (some ⟨gb, go, none⟩) N.length gc ∧ Inv o w wr sb N N gb go gc hb t

set_option maxHeartbeats 4000000 in
set_option maxRecDepth 100000 in
theorem nocmp_walk (a0 a1 : Int) (av : Option Addr) (cap : Nat) (es : List Int) (w : World) (h0 : -2147483648 ≤ a0 ∧ a0 ≤ 2147483647) (h1 : 0 ≤ a1 ∧ a1 ≤ 65535) (hes : es.length ≤ 1024) (hE : Sx w av es) (hwf : ∀ n ∈ es, -2147483648 ≤ n ∧ n ≤ 2147483647) :
    Calls Yba.prog 6 #[.int .i32 a0, .int .u16 a1, .slice av es.length cap] w fun r w' => r = .returned (.bool true) ∧ Only (fun _ => False) w w' := by
  have HE := hide hE
  have HW := hide hwf
  clear hE hwf
  obtain ⟨k, hk⟩ : ∃ k : Nat, (k : Int) = a1 % 700 := ⟨(a1 % 700).toNat, by omega⟩
  have hk7 : k < 700 := by omega
  have s1 := run_mk one23 (k + es.length) ((k : Int) + es.length) (by omega) (by omega)
  have e1 : ¬ (1024 : Int) < es.length := by omega
  have HK : Hid (a1 % 700 = (k : Int)) := hk.symm
  clear hk
  go_enter Yba.func6, Yba.ntmps6
  go_wp2_with fail
  rw [HK.out]
  have HC : Hid (Cnt w.heap.size (w.alloc (.cells #[.int .i64 0] 3))) := ⟨0, by rw [cell_of_row _ _ _ _ _ _ (heap_alloc_new w _)]; rfl, by unfold World.frozen?; rw [heap_alloc_new]; simp⟩
  have HO1 : Hid (Only (fun _ => False) w (w.alloc (.cells #[.int .i64 0] 3))) := (Only.refl _ _).alloc _
  generalize (w.alloc (.cells #[.int .i64 0] 3)) = w1 at HC HO1 ⊢
  obtain ⟨kb, hkb⟩ : ∃ kb, kb = w.heap.size := ⟨_, rfl⟩
  rw [← hkb] at HC ⊢
  have HKB := hide hkb
  clear hkb
  refine (newC kb w1 HC.out).mono ?_
  rintro r w2 ⟨rfl, hS2, hO2⟩
  have hsz1 := HO1.out.size
  have HI0 := hide (inv_start (ordC w1.heap.size kb) (ordC_good _ _) w w2 (w1.heap.size + 1) (k + es.length) hS2 (HO1.out.trans hO2 (fun _ h => False.elim h)) (by omega) (fun j hj => by have h2 : j = kb := hj; have := HKB.out; omega) (by omega))
  clear hS2 hO2 hsz1 HO1
  obtain ⟨cb, hcb⟩ : ∃ cb, cb = w1.heap.size := ⟨_, rfl⟩
  obtain ⟨sb, hsb⟩ : ∃ sb, sb = w1.heap.size + 1 := ⟨_, rfl⟩
  rw [← hsb, ← hcb] at HI0
  rw [← hsb]
  clear hcb hsb HC
  go_wp2
  have HI1 : Hid (Both (ordC cb kb) w (w2.alloc (madeObj (.int .i64 0) (k + es.length) 3)) sb (runD a0 0) (Value.slice (some ⟨w2.heap.size, 0, none⟩) 0 (k + es.length))) := ⟨_, _, _, _, _, rfl, HI0.out⟩
  clear HI0 s1
  generalize (w2.alloc (madeObj (.int .i64 0) (k + es.length) 3)) = w3 at HI1 ⊢
  generalize Value.slice (some ⟨w2.heap.size, 0, none⟩) 0 (k + es.length) = v3 at HI1 ⊢
  go_loopw [12, 11] (fun i g wr => ∃ j : Nat, j ≤ k ∧ i = .int .i64 j ∧ Both (ordC cb kb) w wr sb (runD a0 j) g) (fun i _ _ => k - (intOf i).toNat)
  case atStart => exact ⟨0, Nat.zero_le _, rfl, HI1.out⟩
  case round =>
    obtain ⟨j, hj, rfl, gb, go, gc, hb, t, rfl, hI⟩ := hrel
    have HI := hide hI
    clear hI HI1
    by_cases hjk : j < k
    · have i1 : (j : Int) < (k : Int) := by omega
      have p1 : IntKind.i64.wrap (2 * (j : Int)) = 2 * (j : Int) := by simp only [IntKind.wrap_i64]; omega
      have p2 : IntKind.i64.wrap (a0 - 2 * (j : Int)) = a0 - 2 * (j : Int) := by simp only [IntKind.wrap_i64]; omega
      have p3 : IntKind.i64.wrap a0 = a0 := by simp only [IntKind.wrap_i64]; omega
      have hl := runD_length a0 j
      have l1 := HI.out.le
      have l2 := HI.out.max
      rw [hl] at l1
      go_wp2_with (first
        | (go_at_call 17; refine (inv_add (ordC cb kb) (ordC_good _ _) HI.out (a0 - 2 * (j : Int)) (by omega)).mono ?_; rintro r w5 ⟨⟨v, rfl⟩, h5, t5, hI5⟩; have HI5 := hide hI5; clear hI5)
        | (at_builtin; refine wpList_app one23 rfl (.tmp 47) (.tmp 49) rfl gb go j gc (ints (runD a0 j)) rfl ((ints_length _).trans hl) (World.rangeAt_alloc HI5.out.row _) (World.there_alloc HI5.out.room _) l1 l2 ⟨w5.heap.size, 0, none⟩ 1 1 [.int .i64 (a0 - 2 * (j : Int))] rfl rfl (new_one _ _ _) (one_one _) (by omega) ?_; intro g6 o6 c6 w6 hA; have HI6 := hide (inv_app (ordC_good cb kb) HI5.out hA); have hlA := hA.le; clear hA)
        | fail)
      refine ⟨⟨j + 1, by omega, by simp, g6, o6, c6, _, _, by rw [runD_length], HI6.out⟩, by simp [intOf]; omega⟩
    · have ejk : j = k := by omega
      subst ejk
      have i1 : ¬ (j : Int) < (j : Int) := by omega
      have hl := runD_length a0 j
      generalize runD a0 j = R at HI hl ⊢
      go_wp2
      have HI2 : Hid (Both (ordC cb kb) w wr sb (R ++ es.take 0) (.slice (some ⟨gb, go, none⟩) j gc)) := by
        rw [List.take_zero, List.append_nil]
        exact ⟨gb, go, gc, hb, t, by rw [hl], HI.out⟩
      clear HI
      generalize Value.slice (some ⟨gb, go, none⟩) j gc = v4 at HI2 ⊢
      go_loopw [53, 11] (fun i g wq => ∃ q : Nat, q ≤ es.length ∧ i = .int .i64 q ∧ Both (ordC cb kb) w wq sb (R ++ es.take q) g) (fun i _ _ => es.length - (intOf i).toNat)
      case atStart => exact ⟨0, Nat.zero_le _, rfl, HI2.out⟩
      case round =>
        obtain ⟨q, hq, rfl, gb, go, gc, hb, t, rfl, hI⟩ := hrel
        have HI := hide hI
        clear hI HI2
        have hlq : (R ++ es.take q).length = j + q := by simp; omega
        by_cases hqe : q < es.length
        · have i2 : (q : Int) < (es.length : Int) := by omega
          obtain ⟨eb, eo, hav, hcs⟩ := HE.out
          have hav := hav (by omega)
          subst hav
          have hce := HI.out.only.cell (hcs q hqe) (fun h => h)
          have hin := HW.out (es.getD q 0) (by simp [List.getD_eq_getElem?_getD, hqe])
          have htk : es.take (q + 1) = es.take q ++ [es.getD q 0] := by
            rw [List.take_add_one, List.getD_eq_getElem?_getD, List.getElem?_eq_getElem hqe]; rfl
          have HTK := hide htk
          clear htk hcs
          generalize es.getD q 0 = y at hce hin HTK
          have p3 : IntKind.i64.wrap y = y := by simp only [IntKind.wrap_i64]; omega
          have l1 := HI.out.le
          have l2 := HI.out.max
          rw [hlq] at l1
          have HLQ := hide hlq
          generalize es.take q = T at HI HLQ HTK hlq ⊢
          go_wp2_with (first
            | (go_at_call 17; refine (inv_add (ordC cb kb) (ordC_good _ _) HI.out y (by omega)).mono ?_; rintro r w5 ⟨⟨v, rfl⟩, h5, t5, hI5⟩; have HI5 := hide hI5; clear hI5)
            | (at_builtin; refine wpList_app one23 rfl (.tmp 61) (.tmp 64) rfl gb go (j + q) gc (ints (R ++ T)) rfl ((ints_length _).trans HLQ.out) (World.rangeAt_alloc HI5.out.row _) (World.there_alloc HI5.out.room _) l1 l2 ⟨w5.heap.size, 0, none⟩ 1 1 [.int .i64 y] rfl rfl (new_one _ _ _) (one_one _) (by omega) ?_; intro g6 o6 c6 w6 hA; have HI6 := hide (inv_app (ordC_good cb kb) HI5.out hA); clear hA)
            | fail)
          refine ⟨⟨q + 1, by omega, by simp, g6, o6, c6, some h5, t5, ?_, ?_⟩, by simp [intOf]; omega⟩
          · rw [HTK.out, ← List.append_assoc, List.length_append, HLQ.out]; rfl
          · rw [HTK.out, ← List.append_assoc]; exact HI6.out
        · have eq : q = es.length := by omega
          subst eq
          have i2 : ¬ (es.length : Int) < (es.length : Int) := by omega
          rw [List.take_length] at HI hlq
          generalize R ++ es = M at HI hlq ⊢
          by_cases hM : M.length = 0
          · have i3 : (j : Int) + (es.length : Int) = 0 := by omega
            go_wp2
            go_ret
            exact ⟨rfl, HI.out.only⟩
          · have i3 : ¬ (j : Int) + (es.length : Int) = 0 := by omega
            go_wp2_with fail
            have hM5 : M.length ≤ 3000 := by omega
            rw [← hlq]
            have hpos : 0 < gc := by have := HI.out.le; omega
            clear i3 hlq
            refine (sort_at gb go gc M wr HI.out.row HI.out.room HI.out.le hpos (by omega)).mono ?_
            rintro r w5 ⟨rfl, hr5, ht5, hO5⟩
            have HI5 := hide (inv_keep (ordC_good cb kb) HI.out hO5 hr5 ht5 (by rw [merge_len]; exact HI.out.le) HI.out.max (.inl rfl) (Nat.lt_of_lt_of_le HI.out.lt hO5.size))
            clear hr5 ht5 hO5 HI
            obtain ⟨S, hS⟩ : ∃ S, S = M.mergeSort (fun x y => decide (x ≤ y)) := ⟨_, rfl⟩
            rw [← hS] at HI5
            have hSl : S.length = M.length := by rw [hS, merge_len]
            have HS := hide hS
            rw [← hSl]
            have hS5 : S.length ≤ 3000 := by omega
            clear hS hSl
            go_wp2_with fail
            refine (compact_at gb go gc S w5 HI5.out.row HI5.out.room HI5.out.le (by omega)).mono ?_
            rintro r w6 ⟨rfl, hr6, ht6, hO6⟩
            have hcl := Lib.compact_length_le S
            have HI6 := hide (inv_keep (ordC_good cb kb) HI5.out hO6 hr6 ht6 (by have := HI5.out.le; omega) HI5.out.max (.inl rfl) (Nat.lt_of_lt_of_le HI5.out.lt hO6.size))
            clear hr6 ht6 hO6 HI5
            obtain ⟨C, hC⟩ : ∃ C, C = Lib.compact S := ⟨_, rfl⟩
            rw [← hC] at HI6 hcl ⊢
            have HCC := hide hC
            have hC5 : C.length ≤ 3000 := by omega
            clear hC hcl
            go_wp2_with fail
            refine (reverse_at gb go gc C w6 HI6.out.row HI6.out.room HI6.out.le (by omega)).mono ?_
            rintro r w7 ⟨rfl, hr7, ht7, hO7⟩
            have HI7 := hide (inv_keep (ordC_good cb kb) HI6.out hO7 hr7 ht7 (by simpa using HI6.out.le) HI6.out.max (.inl rfl) (Nat.lt_of_lt_of_le HI6.out.lt hO7.size))
            clear hr7 ht7 hO7 HI6
            have htn : t ≠ none := by
              intro e
              subst e
              obtain ⟨y, hy⟩ := List.exists_mem_of_length_pos (l := M) (by omega)
              exact absurd ((HI7.out.mem y).2 hy) (by simp [flatT])
            obtain ⟨h', hh'⟩ : ∃ h', hb = some h' := by
              cases hb with
              | none => exact absurd (HI7.out.st.nil rfl) htn
              | some h' => exact ⟨h', rfl⟩
            subst hh'
            have hF5 : (flatT t).length ≤ 5000 := by have := HI7.out.len; omega
            have HFD : Hid (flatT t = C.reverse) := by
              rw [HCC.out, HS.out]
              exact final_desc HI7.out.st.sor HI7.out.mem
            obtain ⟨-, ⟨c, hc7, -⟩, -⟩ := HI7.out.st.inv
            have HLV := hide (leavesS (ordC cb kb) (ordC_good _ _) sb h' t w7 HI7.out.st htn hF5)
            go_wp2_with (first
              | (go_at_call 22; refine HLV.out.mono ?_; rintro r w8 ⟨rb, rfl, hR8, hO8⟩; have HR8 := hide hR8; have HO8 := hide hO8; have c8 := hO8.cell hc7 (fun h => h); clear hR8 hO8)
              | fail)
            obtain ⟨L1, L2, L3⟩ := leafs_ok HI7.out.st.ok htn hF5
            refine (bflat_any w7.heap.size rb (leafsT t) (sepsT t) C.length w8 HR8.out L1 L2 (by omega) (fun d hd => ⟨(L3 d hd).1.kept HO8.out (fun h => h) (fun h => h), HO8.out.cell (L3 d hd).2.1 (fun h => h), (L3 d hd).2.2⟩)).mono ?_
            rintro r w9 ⟨g9, o9, c9, rfl, hr9, ht9, hg9, hO9⟩
            rw [flat_leafs htn] at hr9 ⊢
            have hfl : (flatT t).length = C.length := by rw [HFD.out, List.length_reverse]
            rw [hfl]
            have O79 : Only (fun _ => False) w7 w9 := HO8.out.trans hO9 (fun _ h => False.elim h)
            obtain ⟨g7, hg7, -⟩ := HI7.out.st.own
            have c39 := O79.cell hg7.c3 (fun h => h)
            rw [hfl] at c39
            have he := equal_at g9 o9 c9 gb go gc (flatT t) C.reverse w9 hr9 (O79.range HI7.out.row (fun h => h)) (by omega) (by rw [List.length_reverse]; omega) HFD.out
            rw [List.length_reverse, hfl] at he
            have HEq := hide he
            have HO9 : Hid (Only (fun _ => False) w w9) := HI7.out.only.trans O79 (fun _ h => False.elim h)
            clear he hr9 ht9 hg9 hO9 O79 hg7 hfl L1 L2 L3 hc7 c8
            go_wp2_with (first
              | (go_at_call 13; refine HEq.out.mono ?_; rintro r w10 ⟨rfl, q, rfl⟩)
              | (go_at_call 14; refine (len_any sb _ _ (by simpa using c39)).mono ?_; rintro r w10 ⟨rfl, rfl⟩)
              | fail)
            go_ret
            exact ⟨rfl, HO9.out.drewN _⟩
end Go.Proofs.Ybulkcgwo.T
