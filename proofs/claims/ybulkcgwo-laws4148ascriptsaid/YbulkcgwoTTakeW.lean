import Derived.Test.YbulkcgwoTTake
import Derived.Test.YbulkcgwoTExpect
import Derived.Deep.DeepCutAuto
namespace Go.Proofs.Ybulkcgwo.T
open Go.RowKit
set_option linter.unusedVariables false
set_option linter.unusedSimpArgs false

/-- How the seek of a Remove ends. -/
def Sought (o : Ords) (pb : Nat) (t : Tree) (x : Int) (w w' : World) (u : Value) : Prop := SeekW o pb w w' ∧ ((x ∉ flatT t ∧ u = .bool true) ∨ (x ∈ flatT t ∧ u = .bool false ∧ SeekYes pb x w' t))
theorem seek_both (o : Ords) (G : o.Good) (pb : Nat) (t : Tree) (x : Int) (w : World) (hP : Path0 w pb) (hF : Fits o w t) (hp : ¬ footT t pb) (hp3 : ¬ o.reads pb) :
    Calls Yba.prog 37 #[.pointer (some ⟨pb, 0, none⟩), .pointer (rootT t), .int .i64 x, o.searchV] w fun r w' => ∃ b, r = .returned (.bool b) ∧ Sought o pb t x w w' (.bool (!b)) := by
  by_cases hx : x ∈ flatT t
  · refine (seekT_found o G pb t x w hP hF hp hp3 hx).mono ?_
    rintro r w' ⟨rfl, h1, h2⟩
    exact ⟨true, rfl, h2, .inr ⟨hx, rfl, h1⟩⟩
  · refine (seekT_no o G pb t x w hP hF hp hp3 hx).mono ?_
    rintro r w' ⟨rfl, h1, h2⟩
    exact ⟨false, rfl, h2, .inl ⟨hx, rfl⟩⟩

theorem take_end {o : Ords} (G : o.Good) {sb h' pb : Nat} {hb : Option Nat} {t t' : Tree} {e : Int} {w w5 w6 w7 : World} {g7 : Int} (hS : St o w5 sb (some h') t) (hO : Only (setFoot o sb hb t) w w5) (hh : hb = some h' ∨ w.heap.size ≤ h') (hpb : w.heap.size ≤ pb) (hpn : pb ≠ sb ∧ pb ≠ h' ∧ ¬ o.reads pb)
    (hI : RemW t e pb w5 w6 t') (h7 : Own w7 sb o.cmpV o.searchV (rootT t') ((flatT t).length - 1 : Int) g7 (some ⟨h', 0, none⟩)) (k7 : Hol w7 sb h' g7) (o7 : Only (fun k => k = sb ∨ k = h') w6 w7) :
    St o w7 sb (some h') t' ∧ TakeW o sb hb t e w w7 (some h') t' := by
  have hsl := World.block_lt_of_cell? w5 _ hS.own.choose_spec.1.c0
  simp only at hsl
  have hhl : h' < w5.heap.size := World.block_lt_of_cell? w5 _ (hS.own.choose_spec.2 h' rfl).c0
  have hlt := hO.size
  obtain ⟨A, B, c1, c2⟩ := hI.cut
  have hsor := hS.sor
  rw [c1] at hsor
  obtain ⟨s1, s2⟩ := cut_sor G.W hsor
  have hlen : (((flatT t').length : Nat) : Int) = ((flatT t).length : Int) - 1 := by rw [c1, c2]; simp; omega
  have hap : ∀ k, footT t' k → k ≠ sb ∧ (some h' : Option Nat) ≠ some k ∧ ¬ o.reads k := by
    intro k hk
    rcases hI.foot k hk with h | h
    · exact hS.ap k h
    · exact ⟨by omega, by simp; omega, fun hr => by have := G.lt w5 k hS.inv hr; omega⟩
  refine ⟨⟨⟨g7, by rw [hlen]; exact h7, fun k hk => by cases hk; exact k7⟩, fun h => (by cases h), hI.ok.kept o7 (fun k hk h => ?_), by rw [c2]; exact s1, ?_, hap, hS.aps, hS.aph⟩, ⟨fun y => by rw [c1, c2]; exact s2 y, ?_, fun k hk => by cases hk; exact hh, ?_⟩⟩
  · obtain ⟨a, b, _⟩ := hap k hk
    rcases h with h | h
    · exact a h
    · exact b (by rw [h])
  · refine G.kept _ _ _ (G.kept _ _ _ hS.inv hI.only (fun k hr hf => hf.elim (fun hf => (hS.ap k hf).2.2 hr) (fun e => hpn.2.2 (e ▸ hr)))) o7 (fun k hr h => ?_)
    rcases h with h | h
    · exact hS.aps (h ▸ hr)
    · exact (hS.aph h' rfl).2 (h ▸ hr)
  · refine (hO.trans hI.only (fun i h => ?_)).trans o7 (fun i h => ?_)
    · rcases h with h | h
      · exact .inl (.inr (.inr (.inl h)))
      · exact .inr (by omega)
    · rcases h with h | h
      · exact .inl (.inl h)
      · subst h
        exact hh.elim (fun h => .inl (.inr (.inl h))) (fun h => .inr h)
  · intro k hk
    exact (hI.foot k hk).imp id (fun h => by omega)

set_option maxHeartbeats 4000000 in
set_option maxRecDepth 100000 in
theorem take_any (o : Ords) (G : o.Good) (sb : Nat) (hb : Option Nat) (t : Tree) (e : Int) (w : World) (hS : St o w sb hb t) (hn : (flatT t).length ≤ 5000) :
    Calls Yba.prog 18 #[.pointer (some ⟨sb, 0, none⟩), .int .i64 e] w fun r w' => (∃ v, r = .returned v) ∧ ∃ hb' t', St o w' sb hb' t' ∧ TakeW o sb hb t e w w' hb' t' := by
  obtain ⟨g, hg, hh⟩ := hS.own
  have c3 := hg.c3
  have HS := hide hS
  clear hg hh hS
  by_cases h0 : (flatT t).length = 0
  · rw [h0] at c3
    have hnil := List.eq_nil_of_length_eq_zero h0
    have HNIL := hide hnil
    clear hnil h0
    go_enter Yba.func18, Yba.ntmps18
    go_wp2_with (first | (go_at_call 14; refine (len_any sb _ _ c3).mono ?_; rintro r w1 ⟨rfl, rfl⟩) | fail)
    go_ret
    exact ⟨⟨_, rfl⟩, hb, t, HS.out, ⟨fun y => by rw [HNIL.out]; simp, Only.refl _ _, fun h hh => .inl hh, fun k hk => .inl hk⟩⟩
  · have z0 : ¬ (((flatT t).length : Nat) : Int) = 0 := by omega
    have z1 : ¬ flatT t = [] := fun h => h0 (by rw [h]; rfl)
    go_enter Yba.func18, Yba.ntmps18
    go_upto_region 5 with (first
      | (go_at_call 14; refine (len_any sb _ _ c3).mono ?_; rintro r w0 ⟨rfl, rfl⟩)
      | (go_at_call 36; refine (holdS o G sb hb t _ HS.out).mono ?_; rintro r w1 ⟨rfl, h', hS1, hO1, hh1⟩; have HS1 := hide hS1; have HO1 := hide hO1; have HH1 := hide hh1; clear hS1 hO1 hh1 c3)
      | fail)
    have hP2 := hide (path_new w1)
    have hO2 : Hid (Only (fun _ => False) w1 (w1.alloc pathObj)) := (Only.refl _ _).alloc _
    obtain ⟨pb, hpb⟩ : ∃ pb, pb = w1.heap.size := ⟨_, rfl⟩
    rw [← hpb] at hP2 ⊢
    unfold pathObj at hP2 hO2
    generalize (w1.alloc (.cells #[.pointer none, .int .i64 0, .pointer none, .int .i64 0, .pointer none, .int .i64 0, .pointer none, .int .i64 0, .pointer none, .int .i64 0, .pointer none, .int .i64 0, .pointer none, .int .i64 0, .pointer none, .int .i64 0, .pointer none, .int .i64 0, .pointer none, .int .i64 0, .pointer none, .int .i64 0, .int .i64 0] 80)) = w2 at hP2 hO2 ⊢
    have HS2 := hide (HS1.out.kept G hO2.out (fun h => h) (fun _ _ h => h) (fun _ _ h => h) (fun _ _ h => h))
    obtain ⟨g2, hg2, hh2⟩ := HS2.out.own
    have c1 := hg2.c1
    have c2 := hg2.c2
    have hsl := World.block_lt_of_cell? w1 _ HS1.out.own.choose_spec.1.c0
    simp only at hsl
    have hps : pb ≠ sb := by omega
    have hnf : Hid (¬ footT t pb) := fun h => by have := foot_lt HS1.out.ok h; omega
    have hnr : Hid (¬ o.reads pb) := fun h => by have := G.lt w1 _ HS1.out.inv h; omega
    have hsn : Hid (¬ (sb = pb ∨ o.foot sb)) := fun h => h.elim (fun h => hps h.symm) (fun h => HS1.out.aps (G.sub _ h))
    have hS3 : Hid (St o w2.drew sb (some h') t) := HS2.out.drewN G 1
    have hF3 : Hid (Fits o w2.drew t) := ⟨hS3.out.ok, hS3.out.sor, hS3.out.inv, fun k hk => (hS3.out.ap k hk).2.2, hn⟩
    have hP3 : Hid (Path0 w2.drew pb) := ⟨(World.there_drew _ _ _ _).2 hP2.out.room⟩
    have hh2' : h' < w1.heap.size := by
      obtain ⟨g1, _, hh1⟩ := HS1.out.own
      exact World.block_lt_of_cell? w1 _ (hh1 h' rfl).c0
    have HPB := hide hpb
    have HHL := hide hh2'
    clear hg2 hh2 hpb hsl hh2'
    have HSK := hide (seek_both o G pb t e w2.drew hP3.out hF3.out hnf.out hnr.out)
    go_cut [22] from 11 to 21 (fun u wx => Sought o pb t e w2.drew wx u)
    case first =>
      go_wp2_with fail
      go_region_with (first
        | (go_at_call 37; refine HSK.out.mono ?_; rintro r w3 ⟨b, rfl, hSo⟩; have HSo := hide hSo; clear hSo HSK)
        | fail)
      all_goals (go_wp2_with fail; go_meet)
      all_goals exact HSo.out
    case rest =>
      obtain ⟨hW, hcase⟩ := hcut
      have HW := hide hW
      clear hW HSK c1 c2
      have HS4 : Hid (St o wc sb (some h') t) := hS3.out.kept2 G HW.out hsn.out (fun k hk => by cases hk; have := HPB.out; have := HHL.out; omega) hnf.out
      have HO14 : Hid (Only (setFoot o sb hb t) w0 wc) := by
        have HO2 : Only (fun k => k = sb) w0 w2.drew := ((HO1.out.trans hO2.out (fun i h => False.elim h)).drew)
        refine (HO2.mono (fun k _ h => (.inl h : setFoot o sb hb t k))).trans HW.out.only (fun i h => ?_)
        rcases h with h | h
        · right; have := HPB.out; have := HO1.out.size; omega
        · exact .inl (.inr (.inr (.inr h)))
      rcases hcase with ⟨hx, rfl⟩ | ⟨hx, rfl, hY⟩
      · go_wp2
        go_ret
        refine ⟨⟨_, rfl⟩, some h', t, HS4.out, ⟨fun y => ⟨fun hy => ⟨hy, fun e2 => hx (e2 ▸ hy)⟩, fun hy => hy.1⟩, HO14.out, fun k hk => by cases hk; exact HH1.out, fun k hk => .inl hk⟩⟩
      · have HY := hide hY
        clear hY hx
        have hne : h' ≠ sb := (HS4.out.aph h' rfl).1
        have HS5 : Hid (St o wc.drew sb (some h') t) := HS4.out.drewN G 1
        have HF5 : Hid (Fits o wc.drew t) := ⟨HS5.out.ok, HS5.out.sor, HS5.out.inv, fun k hk => (HS5.out.ap k hk).2.2, hn⟩
        obtain ⟨g5, hg5, hh5⟩ := HS5.out.own
        have c3 : wc.cell? ⟨sb, 3, none⟩ = some (.int .i64 (flatT t).length) := by simpa using hg5.c3
        have HG5 := hide hg5
        have HH5 := hide (hh5 h' rfl)
        clear hg5 hh5
        have hsum : IntKind.i64.wrap (((flatT t).length : Int) - 1) = ((flatT t).length : Int) - 1 := by simp only [IntKind.wrap_i64]; omega
        have HPH : Hid (pb ≠ h') := by have h1 := HPB.out; have h2 := HHL.out; show pb ≠ h'; omega
        have hsfoot : Hid (¬ (footT t sb ∨ sb = pb)) := fun h => h.elim (fun h => (HS4.out.ap sb h).1 rfl) (fun h => hps h.symm)
        have hhfoot : Hid (¬ (footT t h' ∨ h' = pb)) := fun h => h.elim (fun h => (HS4.out.ap h' h).2.1 rfl) (fun h => HPH.out h.symm)
        have HRT := hide (removeT o pb t e wc.drew ⟨(World.there_drew _ _ _ _).2 HW.out.path.room⟩ HF5.out (HY.out.kept ((Only.refl (fun _ => False) wc).drew) (fun h => h)) hnf.out)
        clear z0 z1 h0
        go_wp2
        go_region_with (first
          | (go_at_call 40; refine HRT.out.mono ?_; rintro r w6 ⟨t', rfl, hI⟩; have c36 : w6.cell? ⟨sb, 3, none⟩ = some (.int .i64 (flatT t).length) := hI.only.cell (by simpa using c3) hsfoot.out; have HI := hide hI; clear hI HRT)
          | (go_at_call 38; refine (changed_any sb h' o.cmpV o.searchV (rootT t) (rootT t') ((flatT t).length : Int) _ g5 g5 w6 (HG5.out.kept HI.out.only hsfoot.out) (HH5.out.kept HI.out.only hhfoot.out) hne).mono ?_; rintro r w7 ⟨rfl, g7, h7, k7, o7⟩; have H7 := hide h7; have K7 := hide k7; have O7 := hide o7; clear h7 k7 o7)
          | fail)
        all_goals (go_wp2; go_ret; exact ⟨⟨_, rfl⟩, some h', t', take_end G HS5.out HO14.out.drew HH1.out (by have := HPB.out; have := HO1.out.size; omega) ⟨hps, HPH.out, hnr.out⟩ HI.out H7.out K7.out O7.out⟩)
end Go.Proofs.Ybulkcgwo.T
