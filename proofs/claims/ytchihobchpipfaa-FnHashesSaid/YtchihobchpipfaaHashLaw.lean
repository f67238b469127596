/- The law FnHashes: both tables say the same. -/
import Derived.Test.YtchihobchpipfaaHash2
set_option linter.unusedVariables false
set_option linter.unusedSimpArgs false
namespace Go.Proofs.Ytchihobchpipfaa.Hash
open Go.RowKit Go.Proofs.YtchihobchpipfaaW.PrintWords Go.Proofs.YtchihobchpipfaaW.PrintLast Go.Proofs.YtchihobchpipfaaW.PrintMore Go.Proofs.Ytchihobchpipfaa.Kit

/-- Go's number of a hash. -/
def hOf (id : Int) (s : Bool) : Int × Bool :=
  if id = 2 then (if s = true then (3, true) else (0, false)) else if id = 8 then (5, true) else if id = 9 then (6, true) else if id = 10 then (7, true) else if id = 11 then (4, true) else if id = 12 then (11, true) else if id = 14 then (13, true) else (0, false)
/-- The number of Go's hash. -/
def iOf (h : Int) (s : Bool) : Int × Bool :=
  if h = 3 then (if s = true then (2, true) else (0, false)) else if h = 5 then (8, true) else if h = 6 then (9, true) else if h = 7 then (10, true) else if h = 4 then (11, true) else if h = 11 then (12, true) else if h = 13 then (14, true) else (0, false)
theorem hOf_range (id : Int) (s : Bool) : 0 ≤ (hOf id s).1 ∧ (hOf id s).1 ≤ 13 := by
  unfold hOf
  repeat' split
  all_goals decide
theorem iOf_range (h : Int) (s : Bool) : 0 ≤ (iOf h s).1 ∧ (iOf h s).1 ≤ 14 := by
  unfold iOf
  repeat' split
  all_goals decide
theorem back (id : Int) (s : Bool) (a : Int) (h : hOf id s = (a, true)) : iOf a s = (id, true) := by
  unfold hOf at h
  repeat' split at h
  all_goals simp only [Prod.mk.injEq, Bool.false_eq_true, and_false, and_true, reduceCtorEq] at h
  all_goals subst h
  all_goals simp_all [iOf]
theorem iOf_wrap (h : Int) (s : Bool) (h0 : -9223372036854775808 ≤ h) (h1 : h ≤ 9223372036854775807) : iOf (h % 18446744073709551616) s = iOf h s := by
  have e : ∀ c : Int, 0 ≤ c → c ≤ 100 → (h % 18446744073709551616 = c) = (h = c) := fun c _ _ => propext (by omega)
  unfold iOf
  simp only [e 3 (by decide) (by decide), e 5 (by decide) (by decide), e 6 (by decide) (by decide), e 7 (by decide) (by decide), e 4 (by decide) (by decide), e 11 (by decide) (by decide), e 13 (by decide) (by decide)]

theorem shof (id : Int) (s : Bool) (w : World) :
    Calls Try.prog 16 #[.int .i64 id, .bool s] w fun e w' => e = .returned (.tuple #[.int .i64 (hOf id s).1, .bool (hOf id s).2]) ∧ Below w.heap.size w w' := by
  by_cases c2 : id = 2
  · subst c2
    cases s
    · exact sof_none 2 false w (by decide)
    · exact sof_at 2 true 0 3 w (by decide) (by decide) (by decide) (.inr rfl) (by decide)
  by_cases c8 : id = 8
  · subst c8; exact sof_at 8 s 1 5 w (by decide) (by decide) (by decide) (.inl (by decide)) (by decide)
  by_cases c9 : id = 9
  · subst c9; exact sof_at 9 s 2 6 w (by decide) (by decide) (by decide) (.inl (by decide)) (by decide)
  by_cases c10 : id = 10
  · subst c10; exact sof_at 10 s 3 7 w (by decide) (by decide) (by decide) (.inl (by decide)) (by decide)
  by_cases c11 : id = 11
  · subst c11; exact sof_at 11 s 4 4 w (by decide) (by decide) (by decide) (.inl (by decide)) (by decide)
  by_cases c12 : id = 12
  · subst c12; exact sof_at 12 s 5 11 w (by decide) (by decide) (by decide) (.inl (by decide)) (by decide)
  by_cases c14 : id = 14
  · subst c14; exact sof_at 14 s 6 13 w (by decide) (by decide) (by decide) (.inl (by decide)) (by decide)
  have e : hOf id s = (0, false) := by simp [hOf, c2, c8, c9, c10, c11, c12, c14]
  rw [e]
  refine sof_none id s w fun j hj => .inl fun h => ?_
  have hh : j = 0 ∨ j = 1 ∨ j = 2 ∨ j = 3 ∨ j = 4 ∨ j = 5 ∨ j = 6 := by omega
  rcases hh with rfl | rfl | rfl | rfl | rfl | rfl | rfl <;> simp [T] at h <;> omega

theorem siof (h : Int) (s : Bool) (w : World) :
    Calls Try.prog 18 #[.int .i64 h, .bool s] w fun e w' => e = .returned (.tuple #[.int .i64 (iOf h s).1, .bool (iOf h s).2]) ∧ Below w.heap.size w w' := by
  by_cases c3 : h = 3
  · subst c3
    cases s
    · exact sid_none 3 false w (by decide)
    · exact sid_at 3 true 0 2 w (by decide) (by decide) (by decide) (.inr rfl) (by decide)
  by_cases c5 : h = 5
  · subst c5; exact sid_at 5 s 1 8 w (by decide) (by decide) (by decide) (.inl (by decide)) (by decide)
  by_cases c6 : h = 6
  · subst c6; exact sid_at 6 s 2 9 w (by decide) (by decide) (by decide) (.inl (by decide)) (by decide)
  by_cases c7 : h = 7
  · subst c7; exact sid_at 7 s 3 10 w (by decide) (by decide) (by decide) (.inl (by decide)) (by decide)
  by_cases c4 : h = 4
  · subst c4; exact sid_at 4 s 4 11 w (by decide) (by decide) (by decide) (.inl (by decide)) (by decide)
  by_cases c11 : h = 11
  · subst c11; exact sid_at 11 s 5 12 w (by decide) (by decide) (by decide) (.inl (by decide)) (by decide)
  by_cases c13 : h = 13
  · subst c13; exact sid_at 13 s 6 14 w (by decide) (by decide) (by decide) (.inl (by decide)) (by decide)
  have e : iOf h s = (0, false) := by simp [iOf, c3, c5, c6, c7, c4, c11, c13]
  rw [e]
  refine sid_none h s w fun j hj => .inl fun g => ?_
  have hh : j = 0 ∨ j = 1 ∨ j = 2 ∨ j = 3 ∨ j = 4 ∨ j = 5 ∨ j = 6 := by omega
  rcases hh with rfl | rfl | rfl | rfl | rfl | rfl | rfl <;> simp [T] at g <;> omega

theorem ihof (id : Int) (w : World) :
    Calls Try.prog 30 #[.int .u8 id] w fun e w' => e = .returned (.tuple #[.int .u64 (hOf id false).1, .bool (hOf id false).2]) ∧ Below w.heap.size w w' := by
  by_cases c8 : id = 8
  · subst c8; exact io_at 8 0 5 w (by decide) (by decide) (by decide) (by decide)
  by_cases c9 : id = 9
  · subst c9; exact io_at 9 1 6 w (by decide) (by decide) (by decide) (by decide)
  by_cases c10 : id = 10
  · subst c10; exact io_at 10 2 7 w (by decide) (by decide) (by decide) (by decide)
  by_cases c11 : id = 11
  · subst c11; exact io_at 11 3 4 w (by decide) (by decide) (by decide) (by decide)
  by_cases c12 : id = 12
  · subst c12; exact io_at 12 4 11 w (by decide) (by decide) (by decide) (by decide)
  by_cases c14 : id = 14
  · subst c14; exact io_at 14 5 13 w (by decide) (by decide) (by decide) (by decide)
  have e : hOf id false = (0, false) := by simp [hOf, c8, c9, c10, c11, c12, c14]
  rw [e]
  refine io_none id w fun j hj h => ?_
  have hh : j = 0 ∨ j = 1 ∨ j = 2 ∨ j = 3 ∨ j = 4 ∨ j = 5 := by omega
  rcases hh with rfl | rfl | rfl | rfl | rfl | rfl <;> simp [U] at h <;> omega

theorem ihofs (id : Int) (w : World) :
    Calls Try.prog 29 #[.int .u8 id] w fun e w' => e = .returned (.tuple #[.int .u64 (hOf id true).1, .bool (hOf id true).2]) ∧ Below w.heap.size w w' := by
  by_cases c2 : id = 2
  · subst c2; exact ios_sha 2 w (by decide) rfl
  by_cases c8 : id = 8
  · subst c8; exact ios_at 8 0 5 w (by decide) (by decide) (by decide) (by decide)
  by_cases c9 : id = 9
  · subst c9; exact ios_at 9 1 6 w (by decide) (by decide) (by decide) (by decide)
  by_cases c10 : id = 10
  · subst c10; exact ios_at 10 2 7 w (by decide) (by decide) (by decide) (by decide)
  by_cases c11 : id = 11
  · subst c11; exact ios_at 11 3 4 w (by decide) (by decide) (by decide) (by decide)
  by_cases c12 : id = 12
  · subst c12; exact ios_at 12 4 11 w (by decide) (by decide) (by decide) (by decide)
  by_cases c14 : id = 14
  · subst c14; exact ios_at 14 5 13 w (by decide) (by decide) (by decide) (by decide)
  have e : hOf id true = (0, false) := by simp [hOf, c2, c8, c9, c10, c11, c12, c14]
  rw [e]
  refine ios_none id w (fun j hj h => ?_) c2
  have hh : j = 0 ∨ j = 1 ∨ j = 2 ∨ j = 3 ∨ j = 4 ∨ j = 5 := by omega
  rcases hh with rfl | rfl | rfl | rfl | rfl | rfl <;> simp [U] at h <;> omega

theorem iiof (h : Int) (w : World) :
    Calls Try.prog 33 #[.int .u64 h] w fun e w' => e = .returned (.tuple #[.int .u8 (iOf h false).1, .bool (iOf h false).2]) ∧ Below w.heap.size w w' := by
  by_cases c5 : h = 5
  · subst c5; exact oi_at 5 0 8 w (by decide) (by decide) (by decide) (by decide)
  by_cases c6 : h = 6
  · subst c6; exact oi_at 6 1 9 w (by decide) (by decide) (by decide) (by decide)
  by_cases c7 : h = 7
  · subst c7; exact oi_at 7 2 10 w (by decide) (by decide) (by decide) (by decide)
  by_cases c4 : h = 4
  · subst c4; exact oi_at 4 3 11 w (by decide) (by decide) (by decide) (by decide)
  by_cases c11 : h = 11
  · subst c11; exact oi_at 11 4 12 w (by decide) (by decide) (by decide) (by decide)
  by_cases c13 : h = 13
  · subst c13; exact oi_at 13 5 14 w (by decide) (by decide) (by decide) (by decide)
  have e : iOf h false = (0, false) := by simp [iOf, c5, c6, c7, c4, c11, c13]
  rw [e]
  refine oi_none h w fun j hj g => ?_
  have hh : j = 0 ∨ j = 1 ∨ j = 2 ∨ j = 3 ∨ j = 4 ∨ j = 5 := by omega
  rcases hh with rfl | rfl | rfl | rfl | rfl | rfl <;> simp [U] at g <;> omega

theorem iiofs (h : Int) (w : World) :
    Calls Try.prog 32 #[.int .u64 h] w fun e w' => e = .returned (.tuple #[.int .u8 (iOf h true).1, .bool (iOf h true).2]) ∧ Below w.heap.size w w' := by
  by_cases c3 : h = 3
  · subst c3; exact ois_sha 3 w (by decide) rfl
  by_cases c5 : h = 5
  · subst c5; exact ois_at 5 0 8 w (by decide) (by decide) (by decide) (by decide)
  by_cases c6 : h = 6
  · subst c6; exact ois_at 6 1 9 w (by decide) (by decide) (by decide) (by decide)
  by_cases c7 : h = 7
  · subst c7; exact ois_at 7 2 10 w (by decide) (by decide) (by decide) (by decide)
  by_cases c4 : h = 4
  · subst c4; exact ois_at 4 3 11 w (by decide) (by decide) (by decide) (by decide)
  by_cases c11 : h = 11
  · subst c11; exact ois_at 11 4 12 w (by decide) (by decide) (by decide) (by decide)
  by_cases c13 : h = 13
  · subst c13; exact ois_at 13 5 14 w (by decide) (by decide) (by decide) (by decide)
  have e : iOf h true = (0, false) := by simp [iOf, c3, c5, c6, c7, c4, c11, c13]
  rw [e]
  refine ois_none h w (fun j hj g => ?_) c3
  have hh : j = 0 ∨ j = 1 ∨ j = 2 ∨ j = 3 ∨ j = 4 ∨ j = 5 := by omega
  rcases hh with rfl | rfl | rfl | rfl | rfl | rfl <;> simp [U] at g <;> omega
end Go.Proofs.Ytchihobchpipfaa.Hash
