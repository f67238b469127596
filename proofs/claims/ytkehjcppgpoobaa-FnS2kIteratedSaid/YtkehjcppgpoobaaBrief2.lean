/- laws.brief of two texts. -/
import Derived.Test.YtkehjcppgpoobaaProg
import Derived.Test.YtkehjcppgpoobaaKit
set_option linter.unusedVariables false
set_option linter.unusedSimpArgs false
namespace Go.Proofs.Ytkehjcppgpoobaa.Brief
open Go.RowKit Go.Proofs.YtkehjcppgpoobaaW.PrintWords Go.Proofs.YtkehjcppgpoobaaW.PrintMore Go.Proofs.Ytkehjcppgpoobaa.Kit

theorem brief2_yes {w : World} {B : Nat} {A A' : Option Addr} {c c' n n' : Nat} (hcell : w.cell? ⟨B, 0, none⟩ = some (.slice A n c)) (hcell' : w.cell? ⟨B, 1, none⟩ = some (.slice A' n' c')) (hb : n ≤ 4096 ∧ n' ≤ 4096) :
    Calls Try.prog 13 #[.slice (some ⟨B, 0, none⟩) 2 2] w fun e w' => e = .returned (.bool true) ∧ w = w' := by
  have d1 : decide (4096 < (n : Int)) = false := decide_eq_false (by omega)
  have d2 : decide (4096 < n) = false := decide_eq_false (by omega)
  have d1' : decide (4096 < (n' : Int)) = false := decide_eq_false (by omega)
  have d2' : decide (4096 < n') = false := decide_eq_false (by omega)
  clear hb
  go_enter Try.func13, Try.ntmps13
  go_wp2
  go_loop [3] (fun i => ∃ m : Nat, m ≤ 2 ∧ i = .int .i64 (m : Int)) (fun i => 2 - (intOf i).toNat)
  case atStart => exact ⟨0, by decide, rfl⟩
  case round =>
    obtain ⟨m, hm, rfl⟩ := hrel
    match m, hm with
    | 0, _ =>
      go_wp2
      go_round
      case rel => exact ⟨1, by decide, by go_num⟩
      case measure => simp [intOf]
    | 1, _ =>
      go_wp2
      go_round
      case rel => exact ⟨2, by decide, by go_num⟩
      case measure => simp [intOf]
    | 2, _ =>
      go_wp2
      go_ret
      exact ⟨rfl, rfl⟩
theorem brief2_no {w : World} {B : Nat} {A A' : Option Addr} {c c' n n' : Nat} (hcell : w.cell? ⟨B, 0, none⟩ = some (.slice A n c)) (hcell' : w.cell? ⟨B, 1, none⟩ = some (.slice A' n' c')) (hb : ¬ (n ≤ 4096 ∧ n' ≤ 4096)) :
    Calls Try.prog 13 #[.slice (some ⟨B, 0, none⟩) 2 2] w fun e w' => e = .returned (.bool false) ∧ w = w' := by
  by_cases h1 : 4096 < n
  · have d1 : decide (4096 < (n : Int)) = true := decide_eq_true (by omega)
    have d2 : decide (4096 < n) = true := decide_eq_true h1
    clear hb h1
    go_enter Try.func13, Try.ntmps13
    go_wp2
    go_loop [3] (fun i => i = .int .i64 0) (fun _ => 0)
    case atStart => rfl
    case round =>
      obtain rfl := hrel
      go_wp2
      go_ret
      exact ⟨rfl, rfl⟩
  · have d1 : decide (4096 < (n : Int)) = false := decide_eq_false (by omega)
    have d2 : decide (4096 < n) = false := decide_eq_false h1
    have d1' : decide (4096 < (n' : Int)) = true := decide_eq_true (by omega)
    have d2' : decide (4096 < n') = true := decide_eq_true (by omega)
    clear hb h1
    go_enter Try.func13, Try.ntmps13
    go_wp2
    go_loop [3] (fun i => ∃ m : Nat, m ≤ 1 ∧ i = .int .i64 (m : Int)) (fun i => 1 - (intOf i).toNat)
    case atStart => exact ⟨0, by decide, rfl⟩
    case round =>
      obtain ⟨m, hm, rfl⟩ := hrel
      match m, hm with
      | 0, _ =>
        go_wp2
        go_round
        case rel => exact ⟨1, by decide, by go_num⟩
        case measure => simp [intOf]
      | 1, _ =>
        go_wp2
        go_ret
        exact ⟨rfl, rfl⟩
end Go.Proofs.Ytkehjcppgpoobaa.Brief
