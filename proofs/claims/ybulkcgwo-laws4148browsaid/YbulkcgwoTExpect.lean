import Derived.Test.YbulkcgwoTWalk
namespace Go.Proofs.Ybulkcgwo.T
open Go.RowKit
set_option linter.unusedVariables false
set_option linter.unusedSimpArgs false

theorem awalk_nil (v : Value) (w : World) :
    Calls Yba.prog 12 #[.pointer none, v, .int .i64 0] w fun r w' => r = .returned v ∧ w' = w := by
  go_enter Yba.func12, Yba.ntmps12
  go_wp2
  go_ret
  exact ⟨rfl, rfl⟩

theorem awalkT (B : Nat) (t : Tree) (v : Value) (w : World) (hT : TOK w t) (hlt : ∀ k, footT t k → k < B) (hB : Buf B w v []) (hBw : B ≤ w.heap.size) (hn : (flatT t).length ≤ 5000) :
    Calls Yba.prog 12 #[.pointer (rootT t), v, .int .i64 0] w fun r w' => ∃ v', r = .returned v' ∧ Buf B w' v' (flatT t) ∧ Only (fun k => B ≤ k) w w' := by
  match t, hT, hlt, hn with
  | none, hT, hlt, hn =>
    refine (awalk_nil v w).mono ?_
    rintro r w' ⟨rfl, rfl⟩
    exact ⟨v, rfl, hB, Only.refl _ _⟩
  | some (.inl d), hT, hlt, hn =>
    refine (awalk_leaf B d v [] 0 w hT.1 hT.2.1 hB hBw (by omega) (by simp) hT.2.2.1).mono ?_
    rintro r w' ⟨v', rfl, hB', hO⟩
    rw [List.nil_append] at hB'
    exact ⟨v', rfl, hB', hO⟩
  | some (.inr (d, kb, L)), hT, hlt, hn =>
    exact awalk_two B d kb L v w hT.1 hlt hB hBw (by have := two_small hT.1 hT.2.1 hn; omega) (fun n hn => (hT.2.1 n hn).2)

/-- The values that are marked. -/
def expF (P : Nat → Bool) : Nat → List Int
  | 0 => []
  | k + 1 => expF P k ++ (if P k then [(k : Int) - 128] else [])
theorem exp_len (P : Nat → Bool) : ∀ k, (expF P k).length ≤ k
  | 0 => by simp [expF]
  | k + 1 => by
    have := exp_len P k
    rw [expF, List.length_append]
    split <;> simp <;> omega
theorem exp_mem (P : Nat → Bool) : ∀ k y, y ∈ expF P k ↔ ∃ j, j < k ∧ P j = true ∧ y = (j : Int) - 128
  | 0, y => by simp [expF]
  | k + 1, y => by
    rw [expF, List.mem_append, exp_mem P k y]
    constructor
    · rintro (⟨j, h1, h2, h3⟩ | h)
      · exact ⟨j, by omega, h2, h3⟩
      · by_cases hp : P k = true
        · rw [if_pos hp] at h
          simp only [List.mem_singleton] at h
          exact ⟨k, by omega, hp, h⟩
        · rw [if_neg hp] at h; simp at h
    · rintro ⟨j, h1, h2, h3⟩
      by_cases e : j = k
      · subst e; right; rw [if_pos h2, h3]; simp
      · exact .inl ⟨j, by omega, h2, h3⟩
theorem exp_sor (P : Nat → Bool) : ∀ k, Sor (fun a b => a < b) (expF P k)
  | 0 => List.Pairwise.nil
  | k + 1 => by
    rw [expF]
    refine List.pairwise_append.2 ⟨exp_sor P k, ?_, fun a ha b hb => ?_⟩
    · split <;> simp
    · obtain ⟨j, h1, h2, rfl⟩ := (exp_mem P k a).1 ha
      split at hb
      · simp only [List.mem_singleton] at hb; subst hb; omega
      · simp at hb

set_option maxHeartbeats 1000000 in
set_option maxRecDepth 100000 in
theorem aexpect_any (pb : Nat) (P : Nat → Bool) (w : World) (hP : ∀ j, j < 256 → w.cell? ⟨pb, j, none⟩ = some (.bool (P j))) :
    Calls Yba.prog 11 #[.pointer (some ⟨pb, 0, none⟩)] w fun r w' => ∃ v', r = .returned v' ∧ Buf w.heap.size w' v' (expF P 256) ∧ Only (fun _ => False) w w' := by
  have HP := hide hP
  clear hP
  go_enter Yba.func11, Yba.ntmps11
  go_wp2
  go_loopw [4, 3] (fun i g wr => ∃ k : Nat, k ≤ 256 ∧ i = .int .i64 k ∧ Buf w.heap.size wr g (expF P k) ∧ Only (fun _ => False) w wr) (fun i _ _ => 256 - (intOf i).toNat)
  case atStart => exact ⟨0, Nat.zero_le _, rfl, ⟨w.heap.size, 0, 0, rfl, fun j v hv => by simp [expF, ints] at hv, fun j hj => by omega, Nat.le_refl _, by unfold maxLen; omega, Nat.le_refl _⟩, (Only.refl _ _).alloc _⟩
  case round =>
    obtain ⟨k, hk, rfl, ⟨gb, go, gc, rfl, hr, ht, hle, hmax, hgb⟩, hO⟩ := hrel
    have HR := hide hr
    have HT := hide ht
    have HO := hide hO
    clear hr ht hO
    by_cases hk2 : k < 256
    · have hc := HO.out.cell (HP.out k hk2) (fun h => h)
      have hsz := HO.out.size
      have hl := exp_len P k
      have hE : expF P (k + 1) = expF P k ++ (if P k then [(k : Int) - 128] else []) := rfl
      have HE := hide hE
      clear hE
      generalize P k = p at hc HE
      have p1 : IntKind.i64.wrap ((k : Int) - 128) = (k : Int) - 128 := by simp only [IntKind.wrap_i64]; omega
      cases p
      · go_wp2
        refine ⟨⟨k + 1, by omega, by simp, ?_, HO.out⟩, by simp [intOf]; omega⟩
        rw [HE.out]
        simp only [Bool.false_eq_true, if_false, List.append_nil]
        exact ⟨gb, go, gc, rfl, HR.out, HT.out, hle, hmax, hgb⟩
      · go_wp2_with (first
          | (at_builtin; refine wpList_app one23 rfl (.tmp 15) (.tmp 18) rfl gb go (expF P k).length gc (ints (expF P k)) rfl (ints_length _) (World.rangeAt_alloc HR.out _) (World.there_alloc HT.out _) hle hmax ⟨wr.heap.size, 0, none⟩ 1 1 [.int .i64 ((k : Int) - 128)] rfl rfl (new_one _ _ _) (one_one _) (by omega) ?_; intro g6 o6 c6 w6 hA; have HA := hide hA; clear hA)
          | fail)
        refine ⟨⟨k + 1, by omega, by simp, ?_, only_app (HO.out.alloc _) HA.out hgb⟩, by simp [intOf]; omega⟩
        rw [HE.out]
        simp only [if_true]
        exact buf_app HA.out (by rw [ints_append]; rfl) hgb (by simp; omega) _ (by simp)
    · have e : k = 256 := by omega
      subst e
      go_wp2
      go_ret
      exact ⟨_, rfl, ⟨gb, go, gc, rfl, HR.out, HT.out, hle, hmax, hgb⟩, HO.out⟩
end Go.Proofs.Ybulkcgwo.T
