/- The law FnHashes, walked. -/
import Derived.Test.YtchihobchpipfaaHashLaw
set_option linter.unusedVariables false
set_option linter.unusedSimpArgs false
namespace Go.Proofs.Ytchihobchpipfaa.Hash
open Go.RowKit Go.Proofs.YtchihobchpipfaaW.PrintWords Go.Proofs.YtchihobchpipfaaW.PrintLast Go.Proofs.YtchihobchpipfaaW.PrintMore Go.Proofs.Ytchihobchpipfaa.Kit

set_option maxHeartbeats 800000 in
set_option maxRecDepth 100000 in
theorem ih_calls (id : Int) (s : Bool) (a : Int) (b : Bool) (w : World) (h : hOf id s = (a, b)) :
    Calls Try.prog 15 #[.int .u8 id, .bool s] w fun e w' => e = .returned (.tuple #[.int .i64 a, .bool b]) ∧ Below w.heap.size w w' := by
  have hr := hOf_range id s
  rw [h] at hr
  have hw : wrap64 a = a := wrap64_id (by omega) (by omega)
  clear hr
  cases s
  · have H := Aside0.mk (ihof id)
    rw [h] at H
    clear h
    go_enter Try.func15, Try.ntmps15
    go_wp2_with (go_at_call 30; refine (H.out _).mono ?_; rintro e w1 ⟨rfl, hB⟩; have B1 := Aside0.mk hB; clear hB)
    go_ret2
    refine ⟨?_, B1.out⟩
    show Ending.returned (.tuple #[.int .i64 (wrap64 a), .bool b]) = _
    rw [hw]
  · have H := Aside0.mk (ihofs id)
    rw [h] at H
    clear h
    go_enter Try.func15, Try.ntmps15
    go_wp2_with (go_at_call 29; refine (H.out _).mono ?_; rintro e w1 ⟨rfl, hB⟩; have B1 := Aside0.mk hB; clear hB)
    go_ret2
    refine ⟨?_, B1.out⟩
    show Ending.returned (.tuple #[.int .i64 (wrap64 a), .bool b]) = _
    rw [hw]

set_option maxHeartbeats 800000 in
set_option maxRecDepth 100000 in
theorem ii_calls (g : Int) (s : Bool) (a : Int) (b : Bool) (w : World) (h : iOf g s = (a, b)) (h0 : -9223372036854775808 ≤ g) (h1 : g ≤ 9223372036854775807) :
    Calls Try.prog 17 #[.int .i64 g, .bool s] w fun e w' => e = .returned (.tuple #[.int .u8 a, .bool b]) ∧ Below w.heap.size w w' := by
  rw [← iOf_wrap g s h0 h1] at h
  clear h0 h1
  cases s
  · have H := Aside0.mk (iiof (g % 18446744073709551616))
    rw [h] at H
    clear h
    go_enter Try.func17, Try.ntmps17
    go_wp2_with (go_at_call 33; refine (H.out _).mono ?_; rintro e w1 ⟨rfl, hB⟩; have B1 := Aside0.mk hB; clear hB)
    go_ret2
    exact ⟨rfl, B1.out⟩
  · have H := Aside0.mk (iiofs (g % 18446744073709551616))
    rw [h] at H
    clear h
    go_enter Try.func17, Try.ntmps17
    go_wp2_with (go_at_call 32; refine (H.out _).mono ?_; rintro e w1 ⟨rfl, hB⟩; have B1 := Aside0.mk hB; clear hB)
    go_ret2
    exact ⟨rfl, B1.out⟩

set_option maxHeartbeats 1600000 in
set_option maxRecDepth 100000 in
theorem law_calls (id g : Int) (s : Bool) (w : World) (hi0 : 0 ≤ id) (hi1 : id ≤ 255) (h0 : -9223372036854775808 ≤ g) (h1 : g ≤ 9223372036854775807) :
    Calls Try.prog 4 #[.int .u8 id, .int .i64 g, .bool s] w fun e w' => e = .returned (.bool true) ∧ Below w.heap.size w w' := by
  obtain ⟨a, b, hab⟩ : ∃ a b, hOf id s = (a, b) := ⟨_, _, rfl⟩
  obtain ⟨x, y, hxy⟩ : ∃ x y, iOf g s = (x, y) := ⟨_, _, rfl⟩
  have ra := hOf_range id s
  have rx := iOf_range g s
  have S1 := shof id s
  have S2 := siof g s
  rw [hab] at ra S1
  rw [hxy] at rx S2
  have K1 := Aside0.mk S1
  have K2 := Aside0.mk S2
  have I1 := Aside0.mk (fun w => ih_calls id s a b w hab)
  have I2 := Aside0.mk (fun w => ii_calls g s x y w hxy h0 h1)
  have wi : wrap64 id = id := wrap64_id (by omega) (by omega)
  have WX : Aside0 (wrap64 x = x) := ⟨wrap64_id (by omega) (by omega)⟩
  have B0 := Aside0.mk (Below.refl w.heap.size w)
  cases b
  · clear hi0 hi1 h0 h1 ra rx S1 S2 hab hxy
    go_enter Try.func4, Try.ntmps4
    go_wp2_with (first | (go_at_call 15; refine (I1.out _).mono ?_; rintro e w1 ⟨rfl, hB⟩; have n1 := Aside0.mk (below_step B0.out hB); clear B0 hB; have B0 := n1; clear n1) | (go_at_call 16; refine (K1.out _).mono ?_; rintro e w1 ⟨rfl, hB⟩; have n1 := Aside0.mk (below_step B0.out hB); clear B0 hB wi; have B0 := n1; clear n1; have wx := WX.out) | (go_at_call 17; refine (I2.out _).mono ?_; rintro e w1 ⟨rfl, hB⟩; have n1 := Aside0.mk (below_step B0.out hB); clear B0 hB; have B0 := n1; clear n1) | (go_at_call 18; refine (K2.out _).mono ?_; rintro e w1 ⟨rfl, hB⟩; have n1 := Aside0.mk (below_step B0.out hB); clear B0 hB; have B0 := n1; clear n1))
    all_goals go_ret
    all_goals exact ⟨rfl, B0.out⟩
  · have I3 := Aside0.mk (fun w => ii_calls a s id true w (back id s a hab) (by omega) (by omega))
    clear hi0 hi1 h0 h1 ra rx S1 S2 hab hxy
    go_enter Try.func4, Try.ntmps4
    go_wp2_with (first | (go_at_call 15; refine (I1.out _).mono ?_; rintro e w1 ⟨rfl, hB⟩; have n1 := Aside0.mk (below_step B0.out hB); clear B0 hB; have B0 := n1; clear n1) | (go_at_call 16; refine (K1.out _).mono ?_; rintro e w1 ⟨rfl, hB⟩; have n1 := Aside0.mk (below_step B0.out hB); clear B0 hB wi; have B0 := n1; clear n1; have wx := WX.out) | (go_at_call 17; (first | (with_reducible refine (I3.out _).mono ?_) | (with_reducible refine (I2.out _).mono ?_)); rintro e w1 ⟨rfl, hB⟩; have n1 := Aside0.mk (below_step B0.out hB); clear B0 hB; have B0 := n1; clear n1) | (go_at_call 18; refine (K2.out _).mono ?_; rintro e w1 ⟨rfl, hB⟩; have n1 := Aside0.mk (below_step B0.out hB); clear B0 hB; have B0 := n1; clear n1))
    all_goals go_ret
    all_goals exact ⟨rfl, B0.out⟩

theorem law (id g : Int) (s : Bool) (w : World) (hi : (Lit.int .u8 id).wf = true) (hg : (Lit.int .i64 g).wf = true) :
    Calls Try.prog 4 #[.int .u8 id, .int .i64 g, .bool s] w fun e w' => e = .returned (.bool true) ∧ Below w.heap.size w w' := by
  have h1 := wf_u8 hi
  simp [Lit.wf, IntKind.min, IntKind.max, IntKind.signed, IntKind.bits] at hg
  exact law_calls id g s w (by omega) (by omega) (by omega) (by omega)
end Go.Proofs.Ytchihobchpipfaa.Hash
