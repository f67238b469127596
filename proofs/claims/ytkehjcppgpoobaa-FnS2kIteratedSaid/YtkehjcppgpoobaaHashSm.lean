/- The small functions over a hash of plain data: whether it is right, whether it fits, as the reference has it. -/
import Derived.Test.YtkehjcppgpoobaaStr
set_option linter.unusedVariables false
set_option linter.unusedSimpArgs false
namespace Go.Proofs.Ytkehjcppgpoobaa.Mix
open Go.RowKit Go.Proofs.YtkehjcppgpoobaaW.PrintWords Go.Proofs.YtkehjcppgpoobaaW.PrintMore Go.Proofs.Ytkehjcppgpoobaa.Kit

set_option maxHeartbeats 800000 in
theorem fits_yes (A B : Option Addr) (n m c d : Nat) (w : World) (h1 : n ≤ 2147483647) (h2 : m ≤ 2147483647) :
    Calls Try.prog 11 #[.agg #[.slice A n c, .slice B m d]] w fun e w' => e = .returned (.bool true) ∧ w.alloc (.cells #[.slice A n c, .slice B m d] 24) = w' := by
  have d1 : decide (2147483647 < (n : Int)) = false := decide_eq_false (by omega)
  have d2 : decide (2147483647 < (m : Int)) = false := decide_eq_false (by omega)
  have d1' : decide (2147483647 < n) = false := decide_eq_false (by omega)
  have d2' : decide (2147483647 < m) = false := decide_eq_false (by omega)
  go_enter Try.func11, Try.ntmps11
  go_wp2
  go_ret
  exact ⟨rfl, rfl⟩
set_option maxHeartbeats 800000 in
theorem fits_no (A B : Option Addr) (n m c d : Nat) (w : World) (h : 2147483647 < n ∨ 2147483647 < m) :
    Calls Try.prog 11 #[.agg #[.slice A n c, .slice B m d]] w fun e w' => e = .returned (.bool false) ∧ w.alloc (.cells #[.slice A n c, .slice B m d] 24) = w' := by
  by_cases h1 : 2147483647 < n
  · have d1 : decide (2147483647 < (n : Int)) = true := decide_eq_true (by omega)
    have d1' : decide (2147483647 < n) = true := decide_eq_true h1
    clear h
    go_enter Try.func11, Try.ntmps11
    go_wp2
    go_ret
    exact ⟨rfl, rfl⟩
  · have d1 : decide (2147483647 < (n : Int)) = false := decide_eq_false (by omega)
    have d1' : decide (2147483647 < n) = false := decide_eq_false h1
    have d2 : decide (2147483647 < (m : Int)) = true := decide_eq_true (by omega)
    have d2' : decide (2147483647 < m) = true := decide_eq_true (by omega)
    clear h
    go_enter Try.func11, Try.ntmps11
    go_wp2
    go_ret
    exact ⟨rfl, rfl⟩

/-- What both functions ask of a hash. -/
abbrev okH (n m : Nat) : Prop := n = 256 ∧ 1 ≤ m ∧ m ≤ 64
set_option maxHeartbeats 800000 in
theorem right_yes (A B : Option Addr) (m c d : Nat) (w : World) (h1 : 1 ≤ m) (h2 : m ≤ 64) (n : Nat) (hn : n = 256) :
    Calls Try.prog 12 #[.agg #[.slice A n c, .slice B m d]] w fun e w' => e = .returned (.bool true) ∧ w.alloc (.cells #[.slice A n c, .slice B m d] 24) = w' := by
  subst hn
  have d1 : decide ((1 : Int) ≤ (m : Int)) = true := decide_eq_true (by omega)
  have d2 : decide ((m : Int) ≤ 64) = true := decide_eq_true (by omega)
  have d1' : decide (1 ≤ m) = true := decide_eq_true (by omega)
  have d2' : decide (m ≤ 64) = true := decide_eq_true (by omega)
  go_enter Try.func12, Try.ntmps12
  go_wp2
  go_ret
  exact ⟨rfl, rfl⟩
set_option maxHeartbeats 800000 in
theorem right_no (A B : Option Addr) (n m c d : Nat) (w : World) (h : ¬ okH n m) :
    Calls Try.prog 12 #[.agg #[.slice A n c, .slice B m d]] w fun e w' => e = .returned (.bool false) ∧ w.alloc (.cells #[.slice A n c, .slice B m d] 24) = w' := by
  by_cases h1 : n = 256
  · subst h1
    by_cases h2 : 1 ≤ m
    · have d1 : decide ((1 : Int) ≤ (m : Int)) = true := decide_eq_true (by omega)
      have d1' : decide (1 ≤ m) = true := decide_eq_true (by omega)
      have d2 : decide ((m : Int) ≤ 64) = false := decide_eq_false (by have : ¬ m ≤ 64 := fun e => h ⟨rfl, h2, e⟩; omega)
      have d2' : decide (m ≤ 64) = false := decide_eq_false (fun e => h ⟨rfl, h2, e⟩)
      clear h
      go_enter Try.func12, Try.ntmps12
      go_wp2
      go_ret
      exact ⟨rfl, rfl⟩
    · have d1 : decide ((1 : Int) ≤ (m : Int)) = false := decide_eq_false (by omega)
      have d1' : decide (1 ≤ m) = false := decide_eq_false h2
      clear h
      go_enter Try.func12, Try.ntmps12
      go_wp2
      go_ret
      exact ⟨rfl, rfl⟩
  · have d0 : ((n : Int) == 256) = false := beq_eq_false_iff_ne.2 (by omega)
    have d0' : decide ((n : Int) = 256) = false := decide_eq_false (by omega)
    have d0'' : (n == 256) = false := beq_eq_false_iff_ne.2 h1
    clear h
    go_enter Try.func12, Try.ntmps12
    go_wp2
    go_ret
    exact ⟨rfl, rfl⟩
set_option maxHeartbeats 800000 in
theorem iright_yes (A B : Option Addr) (m c d : Nat) (w : World) (h1 : 1 ≤ m) (h2 : m ≤ 64) (n : Nat) (hn : n = 256) :
    Calls Try.prog 38 #[.agg #[.slice A n c, .slice B m d]] w fun e w' => e = .returned (.bool true) ∧ w.alloc (.cells #[.slice A n c, .slice B m d] 24) = w' := by
  subst hn
  have d1 : decide ((1 : Int) ≤ (m : Int)) = true := decide_eq_true (by omega)
  have d2 : decide ((m : Int) ≤ 64) = true := decide_eq_true (by omega)
  have d1' : decide (1 ≤ m) = true := decide_eq_true (by omega)
  have d2' : decide (m ≤ 64) = true := decide_eq_true (by omega)
  go_enter Try.func38, Try.ntmps38
  go_wp2
  go_ret
  exact ⟨rfl, rfl⟩
set_option maxHeartbeats 800000 in
theorem mixer_calls (A B : Option Addr) (n m c d : Nat) (w : World) :
    Calls Try.prog 17 #[.agg #[.slice A n c, .slice B m d]] w fun e w' => e = .returned (.iface 73 (.agg #[.slice A n c, .slice B m d])) ∧ w.alloc (.cells #[.slice A n c, .slice B m d] 24) = w' := by
  go_enter Try.func17, Try.ntmps17
  go_wp2
  go_ret
  exact ⟨rfl, rfl⟩
end Go.Proofs.Ytkehjcppgpoobaa.Mix
