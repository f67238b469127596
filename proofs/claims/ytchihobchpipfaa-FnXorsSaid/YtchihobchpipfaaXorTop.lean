/- The law FnXors, for every input. -/
import Derived.Test.YtchihobchpipfaaXorLaw
set_option linter.unusedVariables false
set_option linter.unusedSimpArgs false
namespace Go.Proofs.Ytchihobchpipfaa.Xor
open Go.RowKit Go.Proofs.YtchihobchpipfaaW.PrintWords Go.Proofs.YtchihobchpipfaaW.PrintLast Go.Proofs.YtchihobchpipfaaW.PrintMore Go.Proofs.Ytchihobchpipfaa.Kit

set_option maxHeartbeats 800000 in
set_option maxRecDepth 100000 in
theorem law_out (A : Option Addr) (c : Nat) (l : List Int) (B : Option Addr) (d : Nat) (m : List Int) (w : World) (h : 2147483647 < l.length ∨ 2147483647 < m.length ∨ l.length < m.length ∨ 4096 < l.length) :
    Calls Try.prog 3 #[.slice A l.length c, .slice B m.length d] w fun e w' => e = .returned (.bool true) ∧ Below w.heap.size w w' := by
  by_cases h1 : 2147483647 < l.length
  · have d1 : decide (2147483647 < (l.length : Int)) = true := decide_eq_true (by omega)
    have d1' : decide (2147483647 < l.length) = true := decide_eq_true (by omega)
    clear h h1
    go_enter Try.func3, Try.ntmps3
    go_wp2
    go_ret
    exact ⟨rfl, Below.refl _ _⟩
  have d1 : decide (2147483647 < (l.length : Int)) = false := decide_eq_false (by omega)
  have d1' : decide (2147483647 < l.length) = false := decide_eq_false (by omega)
  by_cases h2 : 2147483647 < m.length
  · have d2 : decide (2147483647 < (m.length : Int)) = true := decide_eq_true (by omega)
    have d2' : decide (2147483647 < m.length) = true := decide_eq_true (by omega)
    clear h h1 h2
    go_enter Try.func3, Try.ntmps3
    go_wp2
    go_ret
    exact ⟨rfl, Below.refl _ _⟩
  have d2 : decide (2147483647 < (m.length : Int)) = false := decide_eq_false (by omega)
  have d2' : decide (2147483647 < m.length) = false := decide_eq_false (by omega)
  by_cases h3 : l.length < m.length
  · have d3 : decide ((l.length : Int) < (m.length : Int)) = true := decide_eq_true (by omega)
    have d3' : decide (l.length < m.length) = true := decide_eq_true (by omega)
    clear h h1 h2 h3
    go_enter Try.func3, Try.ntmps3
    go_wp2
    go_ret
    exact ⟨rfl, Below.refl _ _⟩
  have d3 : decide ((l.length : Int) < (m.length : Int)) = false := decide_eq_false (by omega)
  have d3' : decide (l.length < m.length) = false := decide_eq_false (by omega)
  have H4 := Aside0.mk (show 4096 < l.length by omega)
  clear h h1 h2 h3
  go_enter Try.func3, Try.ntmps3
  go_wp2_with (go_at_call 8; refine (Brief.brief_no (A := A) (c := c) (n := l.length) (by simp) H4.out).mono ?_; rintro e w' ⟨rfl, rfl⟩)
  go_ret
  exact ⟨rfl, below_alloc (Below.refl _ _) _⟩

theorem law (A : Option Addr) (c : Nat) (l : List Int) (B : Option Addr) (d : Nat) (m : List Int) (w : World) (hl : C8 w A l) (hc : l.length ≤ c) (_h1 : l.length ≤ maxLen) (_w1 : ∀ x ∈ l, (Lit.int .u8 x).wf = true) (hm : C8 w B m) (hd : m.length ≤ d) (_h2 : m.length ≤ maxLen) (_w2 : ∀ x ∈ m, (Lit.int .u8 x).wf = true) :
    Calls Try.prog 3 #[.slice A l.length c, .slice B m.length d] w fun e w' => e = .returned (.bool true) ∧ Below w.heap.size w w' := by
  by_cases h : 2147483647 < l.length ∨ 2147483647 < m.length ∨ l.length < m.length ∨ 4096 < l.length
  · exact law_out A c l B d m w h
  · exact law_main A c l B d m w hl hc hm hd (by omega) (by omega)
end Go.Proofs.Ytchihobchpipfaa.Xor
