/- The law FnSequenceSealed, for every input. -/
import Derived.Test.YtchihobchpipfaaSeqRun
set_option linter.unusedVariables false
set_option linter.unusedSimpArgs false
namespace Go.Proofs.Ytchihobchpipfaa.Seq
open Go.RowKit Go.Proofs.YtchihobchpipfaaW.PrintWords Go.Proofs.YtchihobchpipfaaW.PrintLast Go.Proofs.YtchihobchpipfaaW.PrintMore Go.Proofs.Ytchihobchpipfaa.Kit

theorem infoI : (Try.prog.info? 3).map (fun i => (i.zero, i.size, i.bytes)) = some (some (.int .i64 0), 1, 8) := by kernel_rfl

abbrev fours (k : Nat) : List Int := List.replicate k 4
/-- The verifier behind j session keys. -/
def st0 (j : Nat) : St := if j = 0 then ⟨2, 0, 0⟩ else ⟨2, 2, 1⟩
theorem st0_step (j : Nat) : Step (st0 j) 4 (st0 (j + 1)) := by
  unfold st0
  by_cases h : j = 0
  · rw [if_pos h, if_neg (by omega)]; exact .a
  · rw [if_neg h, if_neg (by omega)]; exact .b
theorem st0_falls (j : Nat) : Falls (st0 j) 6 ∧ (st0 j).st ≠ 5 := by
  unfold st0
  by_cases h : j = 0
  · rw [if_pos h]; exact ⟨.a, by decide⟩
  · rw [if_neg h]; exact ⟨.b, by decide⟩
/-- ... and an encrypted packet. -/
def st1 (j : Nat) : St := if j = 0 then ⟨1, 0, 4⟩ else ⟨1, 2, 4⟩
theorem st1_step (j : Nat) : Step (st0 j) 5 (st1 j) := by
  unfold st0 st1
  by_cases h : j = 0
  · rw [if_pos h, if_pos h]; exact .c
  · rw [if_neg h, if_neg h]; exact .d
theorem st1_end (j : Nat) : ∃ x, Step (st1 j) 6 ⟨0, x, 5⟩ := by
  unfold st1
  by_cases h : j = 0
  · rw [if_pos h]; exact ⟨_, .e 0⟩
  · rw [if_neg h]; exact ⟨_, .e 2⟩
theorem st1_key (j : Nat) : Step (st1 j) 4 ⟨2, 2, 1⟩ := by
  unfold st1
  by_cases h : j = 0
  · rw [if_pos h]; exact .f 0
  · rw [if_neg h]; exact .f 2

theorem four_at {k j : Nat} (r : List Int) (h : j < k) : (fours k ++ r).getD j 0 = 4 := by
  rw [List.getD_eq_getElem?_getD, List.getElem?_append_left (by simpa using h)]
  simp [h]
theorem rest_at (k j : Nat) (r : List Int) : (fours k ++ r).getD (k + j) 0 = r.getD j 0 := by
  rw [List.getD_eq_getElem?_getD, List.getElem?_append_right (by simp), List.getD_eq_getElem?_getD]
  simp

theorem goes_a (k : Nat) : ∃ at_, Goes (fours k ++ [5, 6]) at_ (k + 2) ∧ ∃ x, at_ (k + 2) = ⟨0, x, 5⟩ := by
  obtain ⟨x, hx⟩ := st1_end k
  refine ⟨fun j => if j ≤ k then st0 j else if j = k + 1 then st1 k else ⟨0, x, 5⟩, ⟨?_, ?_, ?_, ?_⟩, x, ?_⟩
  · simp [st0]
  · simp
  · intro j hj
    by_cases h1 : j < k
    · rw [four_at _ h1]; simp only [if_pos (show j ≤ k by omega), if_pos (show j + 1 ≤ k by omega)]; exact st0_step j
    · by_cases h2 : j = k
      · subst h2
        have := rest_at j 0 [5, 6]
        rw [Nat.add_zero] at this
        rw [this]; simp only [Nat.le_refl, if_true, if_neg (show ¬ j + 1 ≤ j by omega)]; exact st1_step j
      · obtain rfl : j = k + 1 := by omega
        rw [rest_at k 1 [5, 6]]
        simp only [if_neg (show ¬ k + 1 ≤ k by omega), if_true, if_neg (show ¬ k + 1 + 1 ≤ k by omega), if_neg (show ¬ k + 1 + 1 = k + 1 by omega)]
        exact hx
  · intro h; simp at h
  · simp only [if_neg (show ¬ k + 2 ≤ k by omega), if_neg (show ¬ k + 2 = k + 1 by omega)]
theorem goes_b (k : Nat) : ∃ at_, Goes (fours k ++ [6]) at_ k := by
  refine ⟨st0, ⟨by simp [st0], by simp, fun j hj => ?_, fun _ => ?_⟩⟩
  · rw [four_at _ hj]; exact st0_step j
  · have := rest_at k 0 [6]
    rw [Nat.add_zero] at this
    rw [this]; exact st0_falls k
theorem goes_c (k m : Nat) : ∃ at_, Goes (fours k ++ ([5] ++ (fours (m + 1) ++ [6]))) at_ (k + 1 + (m + 1)) := by
  refine ⟨fun j => if j ≤ k then st0 j else if j = k + 1 then st1 k else ⟨2, 2, 1⟩, ⟨by simp [st0], by simp; omega, fun j hj => ?_, fun _ => ?_⟩⟩
  · by_cases h1 : j < k
    · rw [four_at _ h1]; simp only [if_pos (show j ≤ k by omega), if_pos (show j + 1 ≤ k by omega)]; exact st0_step j
    · by_cases h2 : j = k
      · subst h2
        have := rest_at j 0 ([5] ++ (fours (m + 1) ++ [6]))
        rw [show j + 0 = j from rfl] at this
        rw [this]; simp only [Nat.le_refl, if_true, if_neg (show ¬ j + 1 ≤ j by omega)]; exact st1_step j
      · obtain ⟨i, rfl⟩ : ∃ i, j = k + (1 + i) := ⟨j - k - 1, by omega⟩
        have h4 : (fours k ++ ([5] ++ (fours (m + 1) ++ [6]))).getD (k + (1 + i)) 0 = 4 := by
          rw [rest_at]
          rw [List.getD_eq_getElem?_getD, List.getElem?_append_right (by simp)]
          have := four_at (k := m + 1) (j := i) [6] (by omega)
          rw [List.getD_eq_getElem?_getD] at this
          simpa using this
        rw [h4]
        simp only [if_neg (show ¬ k + (1 + i) ≤ k by omega), if_neg (show ¬ k + (1 + i) + 1 ≤ k by omega), if_neg (show ¬ k + (1 + i) + 1 = k + 1 by omega)]
        by_cases h3 : i = 0
        · subst h3
          rw [if_pos rfl]
          exact st1_key k
        · rw [if_neg (by omega)]
          exact .b
  · have h6 : (fours k ++ ([5] ++ (fours (m + 1) ++ [6]))).getD (k + 1 + (m + 1)) 0 = 6 := by
      have := rest_at k (1 + (m + 1)) ([5] ++ (fours (m + 1) ++ [6]))
      rw [show k + 1 + (m + 1) = k + (1 + (m + 1)) by omega, this]
      rw [List.getD_eq_getElem?_getD, List.getElem?_append_right (by simp)]
      simp [List.getElem?_cons, List.getElem?_append, fours]
    rw [h6]
    simp only [if_neg (show ¬ k + 1 + (m + 1) ≤ k by omega), if_neg (show ¬ k + 1 + (m + 1) = k + 1 by omega)]
    exact ⟨.b, by decide⟩

theorem seq_a (A : Option Addr) (c : Nat) (k : Nat) (w : World) (hl : CN .i64 w A (fours k ++ [5, 6])) (n : Nat) (hn : n = k + 2) :
    Calls Try.prog 19 #[.slice A n c] w fun e w' => e = .returned (.tuple #[.int .i64 ((k : Int) + 2), .bool true]) ∧ Below w.heap.size w w' := by
  subst hn
  obtain ⟨at_, hG, x, hx⟩ := goes_a k
  have := run_calls A c _ w hl at_ (k + 2) hG true (.inr ⟨by simp, rfl, x, hx⟩)
  simpa using this
theorem seq_b (A : Option Addr) (c : Nat) (k : Nat) (w : World) (hl : CN .i64 w A (fours k ++ [6])) (n : Nat) (hn : n = k + 1) :
    Calls Try.prog 19 #[.slice A n c] w fun e w' => e = .returned (.tuple #[.int .i64 (k : Int), .bool false]) ∧ Below w.heap.size w w' := by
  subst hn
  obtain ⟨at_, hG⟩ := goes_b k
  have := run_calls A c _ w hl at_ k hG false (.inl ⟨by simp, rfl⟩)
  simpa using this
theorem seq_c (A : Option Addr) (c : Nat) (k m : Nat) (w : World) (hl : CN .i64 w A (fours k ++ ([5] ++ (fours (m + 1) ++ [6])))) (n : Nat) (hn : n = k + (1 + (m + 1 + 1))) :
    Calls Try.prog 19 #[.slice A n c] w fun e w' => e = .returned (.tuple #[.int .i64 ((k + 1 + (m + 1) : Nat) : Int), .bool false]) ∧ Below w.heap.size w w' := by
  subst hn
  obtain ⟨at_, hG⟩ := goes_c k m
  have := run_calls A c _ w hl at_ (k + 1 + (m + 1)) hG false (.inl ⟨by simp; omega, rfl⟩)
  have e : (fours k ++ ([5] ++ (fours (m + 1) ++ [6]))).length = k + (1 + (m + 1 + 1)) := by simp; omega
  rw [e] at this
  exact this
end Go.Proofs.Ytchihobchpipfaa.Seq
