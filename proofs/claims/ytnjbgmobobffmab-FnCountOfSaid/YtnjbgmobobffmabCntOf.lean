/- The laws FnCountOf and FnMemoryOf, walked. -/
import Derived.Test.YtnjbgmobobffmabCntLaw
set_option linter.unusedVariables false
set_option linter.unusedSimpArgs false
namespace Go.Proofs.Ytnjbgmobobffmab.Cnt
open Go.RowKit Go.Proofs.YtnjbgmobobffmabW.PrintWords Go.Proofs.YtnjbgmobobffmabW.PrintMore Go.Proofs.Ytnjbgmobobffmab.Kit

set_option maxHeartbeats 800000 in
set_option maxRecDepth 100000 in
theorem cfg_calls (n e : Int) (b : Nat) (w : World) (hp : w.cell? ⟨b, 3, none⟩ = some (.int .i64 n)) (h : Code n e) (h0 : 65536 ≤ n) (h1 : n ≤ 65011712) :
    Calls Try.prog 35 #[.pointer (some ⟨b, 0, none⟩)] w fun e' w' => e' = .returned (.int .u8 e) ∧ w = w' := by
  have d1 : decide (n < 65536) = false := decide_eq_false (by omega)
  have d2 : decide (65011712 < n) = false := decide_eq_false (by omega)
  have d3 : (n == 0) = false := by
    have : n ≠ 0 := by omega
    simpa using this
  have d4 : ¬ n = 0 := by omega
  have H := Aside0.mk h
  have H0 := Aside0.mk h0
  have H1 := Aside0.mk h1
  clear h h0 h1
  go_enter Try.func35, Try.ntmps35
  go_wp2_with (go_at_call 42; refine (enc_calls n e _ H.out H0.out H1.out).mono ?_; rintro e' w' ⟨rfl, rfl⟩)
  go_ret
  exact ⟨rfl, rfl⟩

set_option maxHeartbeats 800000 in
set_option maxRecDepth 100000 in
theorem cof_calls (n e : Int) (w : World) (h : Code n e) (h0 : 65536 ≤ n) (h1 : n ≤ 65011712) :
    Calls Try.prog 23 #[.int .i64 n] w fun e' w' => e' = .returned (.int .u8 e) ∧ Below w.heap.size w w' := by
  have H := Aside0.mk h
  have H0 := Aside0.mk h0
  have H1 := Aside0.mk h1
  clear h h0 h1
  go_enter Try.func23, Try.ntmps23
  go_wp2_with (go_at_call 35; refine (cfg_calls n e _ _ (by simp [go_sem]) H.out H0.out H1.out).mono ?_; rintro e' w' ⟨rfl, rfl⟩)
  go_ret
  exact ⟨rfl, (Below.refl _ w).alloc (Nat.le_refl _) _⟩

set_option maxHeartbeats 800000 in
set_option maxRecDepth 100000 in
theorem cfg_none (b : Nat) (w : World) (hp : w.cell? ⟨b, 3, none⟩ = some (.int .i64 0)) :
    Calls Try.prog 35 #[.pointer (some ⟨b, 0, none⟩)] w fun e' w' => e' = .returned (.int .u8 224) ∧ w = w' := by
  go_enter Try.func35, Try.ntmps35
  go_wp2
  go_ret
  exact ⟨rfl, rfl⟩

set_option maxHeartbeats 800000 in
set_option maxRecDepth 100000 in
theorem cof_none (w : World) :
    Calls Try.prog 23 #[.int .i64 0] w fun e' w' => e' = .returned (.int .u8 224) ∧ Below w.heap.size w w' := by
  go_enter Try.func23, Try.ntmps23
  go_wp2_with (go_at_call 35; refine (cfg_none _ _ (by simp [go_sem])).mono ?_; rintro e' w' ⟨rfl, rfl⟩)
  go_ret
  exact ⟨rfl, (Below.refl _ w).alloc (Nat.le_refl _) _⟩

set_option maxHeartbeats 800000 in
set_option maxRecDepth 100000 in
theorem lawOf_calls (n : Int) (w : World) (hn0 : 0 ≤ n) (hn1 : n ≤ 4294967295) :
    Calls Try.prog 7 #[.int .u32 n] w fun e w' => e = .returned (.bool true) ∧ Below w.heap.size w w' := by
  obtain ⟨k, hk⟩ : ∃ k : Int, 65536 + n % 64946177 = k := ⟨_, rfl⟩
  have hb : 65536 ≤ k ∧ k ≤ 65011712 := by omega
  obtain ⟨e, hE⟩ := code_ex _ hb.1 hb.2
  have HE := Aside0.mk hE
  have HB := Aside0.mk hb
  have B0 := Aside0.mk (Below.refl w.heap.size w)
  have HW : Aside0 (wrap64 n = n) := Aside0.mk (wrap64_id (by omega) (by omega))
  have HD := Aside0.mk (show Code 16777216 224 by have := code_self 224 (by decide) (by decide); rwa [cnt_224] at this)
  have HT : Aside0 (n.tmod 64946177 = n % 64946177) := Aside0.mk (Int.tmod_eq_emod_of_nonneg hn0)
  have HX : Aside0 (wrap64 (n % 64946177) = n % 64946177) := Aside0.mk (wrap64_id (by omega) (by omega))
  have HY : Aside0 (wrap64 k = k) := Aside0.mk (wrap64_id (by omega) (by omega))
  have HK := Aside0.mk hk
  clear hE hb hn0 hn1 hk
  go_enter Try.func7, Try.ntmps7
  have h1 := HW.out
  have h2 := HT.out
  have h3 := HX.out
  have h4 := HK.out
  have h5 := HY.out
  go_wp2_with (first | (go_at_call 23; refine (cof_calls k e _ HE.out HB.out.1 HB.out.2).mono ?_; rintro e' w1 ⟨rfl, hB⟩; have n1 := Aside0.mk (below_step B0.out hB); clear B0 hB; have B0 := n1; clear n1) | (go_at_call 23; refine (cof_none _).mono ?_; rintro e' w1 ⟨rfl, hB⟩; have n1 := Aside0.mk (below_step B0.out hB); clear B0 hB; have B0 := n1; clear n1) | (go_at_call 22; (first | (with_reducible refine (coded_calls k e _ HE.out).mono ?_) | (with_reducible refine (coded_calls 16777216 224 _ HD.out).mono ?_)); rintro e' w1 ⟨rfl, rfl⟩))
  go_ret
  exact ⟨rfl, B0.out⟩
theorem lawOf (n : Int) (w : World) (hn : (Lit.int .u32 n).wf = true) :
    Calls Try.prog 7 #[.int .u32 n] w fun e w' => e = .returned (.bool true) ∧ Below w.heap.size w w' := by
  simp [Lit.wf, IntKind.min, IntKind.max, IntKind.signed, IntKind.bits] at hn
  exact lawOf_calls n w (by omega) (by omega)
end Go.Proofs.Ytnjbgmobobffmab.Cnt
