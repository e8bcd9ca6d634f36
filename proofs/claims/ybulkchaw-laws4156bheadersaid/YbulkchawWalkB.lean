import Derived.Test.YbulkchawWalkA
import Derived.Deep.RegionHeld3
namespace Go.Proofs.Ybulkchaw
open Go.RowKit
set_option linter.unusedVariables false

theorem hide {p : Prop} (h : p) : Hid p := h
theorem info5 : (Yba.prog.info? 5).map (fun i => (i.zero, i.size, i.bytes)) = some (some (.int .u8 0), 1, 1) := by kernel_rfl

/-- The four bytes of v, the greatest first. -/
def be (v : Int) : List Value := [Value.int .u8 (v / 16777216), Value.int .u8 (v / 65536 % 256), Value.int .u8 (v / 256 % 256), Value.int .u8 (v % 256)]

set_option maxHeartbeats 2000000 in
set_option maxRecDepth 100000 in
theorem append_any (B n : Nat) (v : Int) (h0 : 0 ≤ v) (hv : v < 4294967296) (sv : Value) (xs : List Value) (w : World) (hown : w.ownsRow B 5 1 sv n xs) (hBw : B ≤ w.heap.size) (hlim : n ≤ 1000) :
    Calls Yba.prog 7 #[.agg #[], sv, .int .u32 v] w fun e w' => ∃ v', e = .returned v' ∧ w'.ownsRow B 5 1 v' (n + 4) (xs ++ be v) ∧ Below B w w' := by
  obtain ⟨i0, hi, hz0, hz1, hz2⟩ := info_parts info5
  have HO := hown
  go_enter Yba.func7, Yba.ntmps7
  go_wp2_with (at_builtin; refine wpList_append_own _ rfl _ _ 23 rfl B 5 i0 (.int .u8 0) 1 1 Yba.underlying23 hi hz0 hz1 hz2 rfl (by decide) _ _ _ rfl ((hown.alloc _).alloc _) _ 4 4 (be v) rfl rfl ?c1 ?c2 ?c3 ?c4 ?c5 ?_)
  case c1 =>
    intro j u hj
    match j, hj with
    | 0, hj => simp [be] at hj; subst hj; simp [Addr.add]
    | 1, hj => simp [be] at hj; subst hj; simp [Addr.add]
    | 2, hj => simp [be] at hj; subst hj; simp [Addr.add]
    | 3, hj => simp [be] at hj; subst hj; simp [Addr.add]
  case c2 => intro u hu; simp [be] at hu; rcases hu with rfl | rfl | rfl | rfl <;> rfl
  case c3 => unfold maxLen; omega
  case c4 => omega
  case c5 => simp; omega
  intro v' w2 hown' hgrow _
  go_wp2
  go_ret
  refine ⟨v', rfl, hown', ?_⟩
  exact ((((Below.refl B w).alloc hBw _).alloc (by simp; omega) _).grown hgrow (by simp; omega) (fun k hk => (hown.lt k hk).1))

theorem append_from (w W : World) (hW : Below w.heap.size w W) (n : Nat) (v : Int) (h0 : 0 ≤ v) (hv : v < 4294967296) (sv : Value) (xs : List Value) (hown : W.ownsRow w.heap.size 5 1 sv n xs) (hlim : n ≤ 1000) :
    Calls Yba.prog 7 #[.agg #[], sv, .int .u32 v] W fun e w' => ∃ v', e = .returned v' ∧ w'.ownsRow w.heap.size 5 1 v' (n + 4) (xs ++ be v) ∧ Below w.heap.size w w' :=
  (append_any w.heap.size n v h0 hv sv xs W hown hW.size hlim).mono fun _ _ ⟨v', he, ho, hb⟩ => ⟨v', he, ho, hW.trans hb⟩

/-- The second word: the flags on top, the length's low 24 bits below. -/
def mid (flags len : Int) : Int := bits BinOp.or IntKind.u32 (IntKind.u32.wrap (IntKind.u32.wrap flags * 16777216)) (bits BinOp.and IntKind.u32 (IntKind.u32.wrap len) 16777215)
theorem mid_ok (flags len : Int) (h : (Lit.int .u8 flags).wf = true) : 0 ≤ mid flags len ∧ mid flags len < 4294967296 ∧ mid flags len / 16777216 = flags := by
  have hb := bounds_u8 h
  unfold mid
  rw [IntKind.wrap_u32, IntKind.wrap_u32, IntKind.wrap_u32]
  generalize hl : len % 4294967296 = l
  have hl0 : 0 ≤ l := by omega
  have hl1 : l < 4294967296 := by omega
  rw [show flags % 4294967296 * 16777216 % 4294967296 = flags * 16777216 by omega]
  rw [u32_and l 16777215 hl0 hl1 (by omega) (by omega)]
  have e1 : l.toNat &&& (16777215 : Int).toNat = l.toNat % 16777216 := Nat.and_two_pow_sub_one_eq_mod l.toNat 24
  rw [e1]
  rw [u32_or _ _ (by omega) (by omega) (by omega) (by omega)]
  rw [nat_join 24 _ _ (by omega) (by omega)]
  omega

set_option maxHeartbeats 2000000 in
set_option maxRecDepth 100000 in
theorem header_no (B : Nat) (code flags vendor len : Int) (w : World) (hB : B < w.heap.size) (hc0 : w.cell? ⟨B, 0, none⟩ = some (.int .u32 code)) (hc1 : w.cell? ⟨B, 1, none⟩ = some (.int .u8 flags)) (hc2 : w.cell? ⟨B, 2, none⟩ = some (.int .u32 vendor))
    (w0 : (Lit.int .u32 code).wf = true) (w1 : (Lit.int .u8 flags).wf = true) (w2 : (Lit.int .u32 vendor).wf = true) (hfl : bits .and .u8 flags 128 = 0) :
    Calls Yba.prog 6 #[.pointer (some ⟨B, 0, none⟩), .slice none 0 0, .int .i64 len] w fun e w' => ∃ v', e = .returned v' ∧ (∃ x : Int, x / 16777216 = flags ∧ w'.ownsRow w.heap.size 5 1 v' 8 (be code ++ be x)) ∧ Below w.heap.size w w' := by
  have hbd := bounds_u32 w0
  have hbv := bounds_u32 w2
  have HM := hide (mid_ok flags len w1)
  have hb0 := Below.refl w.heap.size w
  go_enter Yba.func6, Yba.ntmps6
  go_wp2
  go_region_held3 (fun w' => w'.cell? ⟨B, 0, none⟩ = some (.int .u32 code) ∧ Below w.heap.size w w') (first | exact ⟨by simpa using hc0, hb0.drew⟩ | exact ⟨(hbA.cell hB).trans hc0, hbA⟩) ((go_at_call 7; refine (append_from w _ ?_ 0 code hbd.1 (by omega) (.slice none 0 0) [] (World.ownsRow_nil _ _ _ _) (by omega)).mono ?_; (exact hb0.drew); rintro e wA ⟨vA, rfl, hoA, hbA⟩))
  simp only [Nat.zero_add, List.nil_append] at hoA
  have hA1 : wA.cell? ⟨B, 1, none⟩ = some (.int .u8 flags) := (hbA.cell hB).trans hc1
  go_wp2
  go_region_held3 (fun w' => w'.cell? ⟨B, 1, none⟩ = some (.int .u8 flags) ∧ Below w.heap.size w w') (first | exact ⟨by simpa using hA1, hbA.drew⟩ | exact ⟨(hbB.cell hB).trans hc1, hbB⟩) ((go_at_call 7; refine (append_from w _ ?_ 4 (mid flags len) HM.out.1 HM.out.2.1 vA (be code) ?_ (by omega)).mono ?_; (exact hbA.drew); (exact hoA.drew); rintro e wB ⟨vB, rfl, hoB, hbB⟩))
  have hB1 : wB.cell? ⟨B, 1, none⟩ = some (.int .u8 flags) := (hbB.cell hB).trans hc1
  go_wp2
  go_ret
  exact ⟨vB, rfl, ⟨_, HM.out.2.2, hoB⟩, hbB⟩

set_option maxHeartbeats 2000000 in
set_option maxRecDepth 100000 in
theorem header_yes (B : Nat) (code flags vendor len : Int) (w : World) (hB : B < w.heap.size) (hc0 : w.cell? ⟨B, 0, none⟩ = some (.int .u32 code)) (hc1 : w.cell? ⟨B, 1, none⟩ = some (.int .u8 flags)) (hc2 : w.cell? ⟨B, 2, none⟩ = some (.int .u32 vendor))
    (w0 : (Lit.int .u32 code).wf = true) (w1 : (Lit.int .u8 flags).wf = true) (w2 : (Lit.int .u32 vendor).wf = true) (hfl : bits .and .u8 flags 128 = 128) :
    Calls Yba.prog 6 #[.pointer (some ⟨B, 0, none⟩), .slice none 0 0, .int .i64 len] w fun e w' => ∃ v', e = .returned v' ∧ (∃ x : Int, x / 16777216 = flags ∧ w'.ownsRow w.heap.size 5 1 v' 12 (be code ++ be x ++ be vendor)) ∧ Below w.heap.size w w' := by
  have hbd := bounds_u32 w0
  have hbv := bounds_u32 w2
  have HM := hide (mid_ok flags len w1)
  have hb0 := Below.refl w.heap.size w
  go_enter Yba.func6, Yba.ntmps6
  go_wp2
  go_region_held3 (fun w' => w'.cell? ⟨B, 0, none⟩ = some (.int .u32 code) ∧ Below w.heap.size w w') (first | exact ⟨by simpa using hc0, hb0.drew⟩ | exact ⟨(hbA.cell hB).trans hc0, hbA⟩) ((go_at_call 7; refine (append_from w _ ?_ 0 code hbd.1 (by omega) (.slice none 0 0) [] (World.ownsRow_nil _ _ _ _) (by omega)).mono ?_; (exact hb0.drew); rintro e wA ⟨vA, rfl, hoA, hbA⟩))
  simp only [Nat.zero_add, List.nil_append] at hoA
  have hA1 : wA.cell? ⟨B, 1, none⟩ = some (.int .u8 flags) := (hbA.cell hB).trans hc1
  go_wp2
  go_region_held3 (fun w' => w'.cell? ⟨B, 1, none⟩ = some (.int .u8 flags) ∧ Below w.heap.size w w') (first | exact ⟨by simpa using hA1, hbA.drew⟩ | exact ⟨(hbB.cell hB).trans hc1, hbB⟩) ((go_at_call 7; refine (append_from w _ ?_ 4 (mid flags len) HM.out.1 HM.out.2.1 vA (be code) ?_ (by omega)).mono ?_; (exact hbA.drew); (exact hoA.drew); rintro e wB ⟨vB, rfl, hoB, hbB⟩))
  have hB1 : wB.cell? ⟨B, 1, none⟩ = some (.int .u8 flags) := (hbB.cell hB).trans hc1
  have hB2 : wB.cell? ⟨B, 2, none⟩ = some (.int .u32 vendor) := (hbB.cell hB).trans hc2
  go_wp2
  go_region_held3 (fun w' => w'.cell? ⟨B, 2, none⟩ = some (.int .u32 vendor) ∧ Below w.heap.size w w') (first | exact ⟨by simpa using hB2, hbB.drew⟩ | exact ⟨(hbC.cell hB).trans hc2, hbC⟩) ((go_at_call 7; refine (append_from w _ ?_ 8 vendor hbv.1 (by omega) vB (be code ++ be (mid flags len)) ?_ (by omega)).mono ?_; (exact hbB.drew); (exact hoB.drew); rintro e wC ⟨vC, rfl, hoC, hbC⟩))
  go_wp2
  go_ret
  exact ⟨vC, rfl, ⟨_, HM.out.2.2, hoC⟩, hbC⟩
end Go.Proofs.Ybulkchaw
