/- The laws on coded counts, walked. -/
import Derived.Test.YtnjbgmobobffmabCnt
import Derived.Laws.Pointers
set_option linter.unusedVariables false
set_option linter.unusedSimpArgs false
namespace Go.Proofs.Ytnjbgmobobffmab.Cnt
open Go.RowKit Go.Proofs.YtnjbgmobobffmabW.PrintWords Go.Proofs.YtnjbgmobobffmabW.PrintMore Go.Proofs.Ytnjbgmobobffmab.Kit

set_option maxHeartbeats 800000 in
set_option maxRecDepth 100000 in
theorem catch_idle (p q : Addr) (w : World) :
    CallsD Try.prog 33 #[.pointer (some p), .pointer (some q)] .returning w fun e u' w' => e = .returned (.tuple #[]) ∧ u' = .returning ∧ w' = w := by
  refine callsD_of_wpS Try.func33 rfl fun c₀ cs hu => ?_
  apply wpS_seq
  apply wpS_region
  simp [wpOpsS, go_sem, recoverD, hu, Try.ntmps33, Exit.thenS]
  refine wpS_cond (t := false) (by simp [Act.eval, Array.replicate]) ?_
  simp only [Bool.false_eq_true, if_false]
  refine wpS_of_wp (wp_skip ?_)
  cases c₀
  simp_all [bodyPostS, results, Try.results33]

set_option maxHeartbeats 800000 in
set_option maxRecDepth 100000 in
theorem zz_calls (n e : Int) (w : World) (h : Code n e) (h0 : 65536 ≤ n) (h1 : n ≤ 65011712) :
    Calls Try.prog 34 #[.int .i64 n] w fun e' w' => e' = .returned (.int .u8 e) ∧ w = w' := by
  go_enter Try.func34, Try.ntmps34
  go_wp2_with (go_at_call 42; refine (enc_calls n e _ h h0 h1).mono ?_; rintro e' w' ⟨rfl, rfl⟩)
  go_ret
  exact ⟨rfl, rfl⟩

set_option maxHeartbeats 800000 in
set_option maxRecDepth 100000 in
theorem impl_calls (n e : Int) (w : World) (h : Code n e) (h0 : 65536 ≤ n) (h1 : n ≤ 65011712) :
    Calls Try.prog 21 #[.int .i64 n] w fun e' w' => e' = .returned (.tuple #[.int .u8 e, .bool true]) ∧ Below w.heap.size w w' := by
  have hmf : ∀ (fn : Fn) (first cap : Array Value) (w : World), (Instr.makeFunc fn first cap).run Try.prog w = .ok (.func fn first cap) w := fun _ _ _ _ => rfl
  have H := Aside0.mk h
  have H0 := Aside0.mk h0
  have H1 := Aside0.mk h1
  clear h h0 h1
  go_enter_defers Try.func21, Try.ntmps21
  go_wp2_with (go_at_call 34; refine (zz_calls n e _ H.out H0.out H1.out).mono ?_; rintro e' w' ⟨rfl, rfl⟩)
  refine leaves_cons (f := 33) (args := #[.pointer (some ⟨w.heap.size, 0, none⟩), .pointer (some ⟨w.heap.size + 1, 0, none⟩)]) (by simp) (by simp [go_sem]) ?_
  refine (catch_idle ⟨w.heap.size, 0, none⟩ ⟨w.heap.size + 1, 0, none⟩ _).mono ?_
  rintro e1 u1 w1 ⟨rfl, rfl, rfl⟩
  simp [Leaves, settle, results, Try.results21, go_sem]
  exact ((Below.refl _ w).alloc (Nat.le_refl _) _).alloc (by simp [go_sem]) _

set_option maxHeartbeats 800000 in
set_option maxRecDepth 100000 in
theorem zdec_calls (c : Int) (w : World) (h0 : 0 ≤ c) (h1 : c ≤ 255) :
    Calls Try.prog 32 #[.int .u8 c] w fun e w' => e = .returned (.int .i64 (cnt c)) ∧ w = w' := by
  go_enter Try.func32, Try.ntmps32
  go_wp2_with (go_at_call 41; refine (dec_calls c _ h0 h1).mono ?_; rintro e' w' ⟨rfl, rfl⟩)
  go_ret
  exact ⟨rfl, rfl⟩

set_option maxHeartbeats 800000 in
set_option maxRecDepth 100000 in
theorem idec_calls (c : Int) (w : World) (h0 : 0 ≤ c) (h1 : c ≤ 255) :
    Calls Try.prog 19 #[.int .u8 c] w fun e w' => e = .returned (.int .i64 (cnt c)) ∧ w = w' := by
  go_enter Try.func19, Try.ntmps19
  go_wp2_with (go_at_call 32; refine (zdec_calls c _ h0 h1).mono ?_; rintro e' w' ⟨rfl, rfl⟩)
  go_ret
  exact ⟨rfl, rfl⟩

set_option maxHeartbeats 1600000 in
set_option maxRecDepth 100000 in
theorem law_calls (c n : Int) (w : World) (hc0 : 0 ≤ c) (hc1 : c ≤ 255) (hn0 : 0 ≤ n) (hn1 : n ≤ 4294967295) :
    Calls Try.prog 6 #[.int .u8 c, .int .u32 n] w fun e w' => e = .returned (.bool true) ∧ Below w.heap.size w w' := by
  have HC0 := Aside0.mk hc0
  have HC1 := Aside0.mk hc1
  have B0 := Aside0.mk (Below.refl w.heap.size w)
  have hw64 : ∀ m : Int, 0 ≤ m → m ≤ 4294967295 → wrap64 m = m := fun m h0 h1 => wrap64_id (by omega) (by omega)
  have HN := Aside0.mk (hw64 n hn0 hn1)
  by_cases h96 : 96 ≤ c
  · have H96 := Aside0.mk h96
    have HCnt := Aside0.mk (show 65536 ≤ cnt c ∧ cnt c ≤ 65011712 from ⟨by
      by_cases h : c = 96
      · subst h; decide
      · have := cnt_mono (a := 96) (by decide) (by omega) hc1; rw [cnt_96] at this; omega, (cnt_le c hc0 hc1).2⟩)
    have d1 : decide (96 ≤ c) = true := decide_eq_true h96
    by_cases hin : 65536 ≤ n ∧ n ≤ 65011712
    · obtain ⟨e, hE⟩ := code_ex n hin.1 hin.2
      have HE := Aside0.mk hE
      have HI := Aside0.mk hin
      have d2 : decide (n < 65536) = false := decide_eq_false (by omega)
      have d3 : decide (65011712 < n) = false := decide_eq_false (by omega)
      clear hc0 hc1 hn0 hn1 h96 hin hE hw64
      go_enter Try.func6, Try.ntmps6
      have hwn := HN.out
      go_wp2_with (first | (go_at_call 19; refine (idec_calls c _ HC0.out HC1.out).mono ?_; rintro e' w' ⟨rfl, rfl⟩) | (go_at_call 20; refine (spec_calls c _ HC0.out HC1.out).mono ?_; rintro e' w' ⟨rfl, rfl⟩) | (go_at_call 21; refine (impl_calls (cnt c) c _ (code_self c H96.out HC1.out) HCnt.out.1 HCnt.out.2).mono ?_; rintro e' w1 ⟨rfl, hB⟩; have n1 := Aside0.mk (below_step B0.out hB); clear B0 hB; have B0 := n1; clear n1) | (go_at_call 21; refine (impl_calls n e _ HE.out HI.out.1 HI.out.2).mono ?_; rintro e' w1 ⟨rfl, hB⟩; have n1 := Aside0.mk (below_step B0.out hB); clear B0 hB; have B0 := n1; clear n1) | (go_at_call 22; refine (coded_calls n e _ HE.out).mono ?_; rintro e' w1 ⟨rfl, rfl⟩))
      go_ret
      exact ⟨rfl, B0.out⟩
    · have d2 : (decide (n < 65536) || decide (65011712 < n)) = true := by
        rcases Classical.em (n < 65536) with h | h
        · simp [h]
        · have : 65011712 < n := by omega
          simp [this]
      clear hc0 hc1 hn0 hn1 h96 hin hw64
      rcases Classical.em (n < 65536) with h | h
      · have d3 : decide (n < 65536) = true := decide_eq_true h
        clear h
        go_enter Try.func6, Try.ntmps6
        go_wp2_with (first | (go_at_call 19; refine (idec_calls c _ HC0.out HC1.out).mono ?_; rintro e' w' ⟨rfl, rfl⟩) | (go_at_call 20; refine (spec_calls c _ HC0.out HC1.out).mono ?_; rintro e' w' ⟨rfl, rfl⟩) | (go_at_call 21; refine (impl_calls (cnt c) c _ (code_self c H96.out HC1.out) HCnt.out.1 HCnt.out.2).mono ?_; rintro e' w1 ⟨rfl, hB⟩; have n1 := Aside0.mk (below_step B0.out hB); clear B0 hB; have B0 := n1; clear n1))
        go_ret
        exact ⟨rfl, B0.out⟩
      · have d4 : decide (n < 65536) = false := decide_eq_false h
        have d3 : decide (65011712 < n) = true := by rw [d4] at d2; simpa using d2
        clear h d2
        go_enter Try.func6, Try.ntmps6
        go_wp2_with (first | (go_at_call 19; refine (idec_calls c _ HC0.out HC1.out).mono ?_; rintro e' w' ⟨rfl, rfl⟩) | (go_at_call 20; refine (spec_calls c _ HC0.out HC1.out).mono ?_; rintro e' w' ⟨rfl, rfl⟩) | (go_at_call 21; refine (impl_calls (cnt c) c _ (code_self c H96.out HC1.out) HCnt.out.1 HCnt.out.2).mono ?_; rintro e' w1 ⟨rfl, hB⟩; have n1 := Aside0.mk (below_step B0.out hB); clear B0 hB; have B0 := n1; clear n1))
        go_ret
        exact ⟨rfl, B0.out⟩
  · have d1 : decide (96 ≤ c) = false := decide_eq_false h96
    by_cases hin : 65536 ≤ n ∧ n ≤ 65011712
    · obtain ⟨e, hE⟩ := code_ex n hin.1 hin.2
      have HE := Aside0.mk hE
      have HI := Aside0.mk hin
      have d2 : decide (n < 65536) = false := decide_eq_false (by omega)
      have d3 : decide (65011712 < n) = false := decide_eq_false (by omega)
      clear hc0 hc1 hn0 hn1 h96 hin hE hw64
      go_enter Try.func6, Try.ntmps6
      have hwn := HN.out
      go_wp2_with (first | (go_at_call 19; refine (idec_calls c _ HC0.out HC1.out).mono ?_; rintro e' w' ⟨rfl, rfl⟩) | (go_at_call 20; refine (spec_calls c _ HC0.out HC1.out).mono ?_; rintro e' w' ⟨rfl, rfl⟩) | (go_at_call 21; refine (impl_calls n e _ HE.out HI.out.1 HI.out.2).mono ?_; rintro e' w1 ⟨rfl, hB⟩; have n1 := Aside0.mk (below_step B0.out hB); clear B0 hB; have B0 := n1; clear n1) | (go_at_call 22; refine (coded_calls n e _ HE.out).mono ?_; rintro e' w1 ⟨rfl, rfl⟩))
      go_ret
      exact ⟨rfl, B0.out⟩
    · clear hc0 hc1 h96 hw64
      rcases Classical.em (n < 65536) with h | h
      · have d3 : decide (n < 65536) = true := decide_eq_true h
        clear h hin
        go_enter Try.func6, Try.ntmps6
        go_wp2_with (first | (go_at_call 19; refine (idec_calls c _ HC0.out HC1.out).mono ?_; rintro e' w' ⟨rfl, rfl⟩) | (go_at_call 20; refine (spec_calls c _ HC0.out HC1.out).mono ?_; rintro e' w' ⟨rfl, rfl⟩))
        go_ret
        exact ⟨rfl, B0.out⟩
      · have d4 : decide (n < 65536) = false := decide_eq_false h
        have d3 : decide (65011712 < n) = true := decide_eq_true (by omega)
        clear h hin
        go_enter Try.func6, Try.ntmps6
        go_wp2_with (first | (go_at_call 19; refine (idec_calls c _ HC0.out HC1.out).mono ?_; rintro e' w' ⟨rfl, rfl⟩) | (go_at_call 20; refine (spec_calls c _ HC0.out HC1.out).mono ?_; rintro e' w' ⟨rfl, rfl⟩))
        go_ret
        exact ⟨rfl, B0.out⟩
theorem law (c n : Int) (w : World) (hc : (Lit.int .u8 c).wf = true) (hn : (Lit.int .u32 n).wf = true) :
    Calls Try.prog 6 #[.int .u8 c, .int .u32 n] w fun e w' => e = .returned (.bool true) ∧ Below w.heap.size w w' := by
  simp [Lit.wf, IntKind.min, IntKind.max, IntKind.signed, IntKind.bits] at hc hn
  exact law_calls c n w (by omega) (by omega) (by omega) (by omega)
end Go.Proofs.Ytnjbgmobobffmab.Cnt
