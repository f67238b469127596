/- The law FnS2kIterated, for every input. -/
import Derived.Test.YtkehjcppgpoobaaIterS
import Derived.Test.YtkehjcppgpoobaaBrief2
import Derived.Test.YtkehjcppgpoobaaSame
set_option linter.unusedVariables false
set_option linter.unusedSimpArgs false
namespace Go.Proofs.Ytkehjcppgpoobaa.Mix
open Go.RowKit Go.Proofs.YtkehjcppgpoobaaW.PrintWords Go.Proofs.YtkehjcppgpoobaaW.PrintMore Go.Proofs.Ytkehjcppgpoobaa.Kit

set_option maxHeartbeats 1600000 in
set_option maxRecDepth 100000 in
theorem ilaw_fits (As : Option Addr) (cs : Nat) (sub : List Int) (Am : Option Addr) (cm : Nat) (mask : List Int) (size : Int) (A : Option Addr) (c : Nat) (x : List Int) (Sa : Option Addr) (ca : Nat) (salt : List Int) (count : Int) (w : World) (h : 2147483647 < sub.length ∨ 2147483647 < mask.length) :
    Calls Try.prog 4 #[.agg #[.slice As sub.length cs, .slice Am mask.length cm], .int .i64 size, .slice A x.length c, .slice Sa salt.length ca, .int .i64 count] w fun e w' => e = .returned (.bool true) ∧ Below w.heap.size w w' := by
  have HF := Aside0.mk h
  clear h
  go_enter Try.func4, Try.ntmps4
  go_wp2_with (first | (go_at_call 11; (with_reducible refine (fits_no _ _ _ _ _ _ _ HF.out).mono ?_); rintro e w' ⟨rfl, rfl⟩))
  go_ret
  exact ⟨rfl, by go_grown⟩

set_option maxHeartbeats 1600000 in
set_option maxRecDepth 100000 in
theorem ilaw_long (As : Option Addr) (cs : Nat) (sub : List Int) (Am : Option Addr) (cm : Nat) (mask : List Int) (size : Int) (A : Option Addr) (c : Nat) (x : List Int) (Sa : Option Addr) (ca : Nat) (salt : List Int) (count : Int) (w : World) (h1 : sub.length ≤ 2147483647 ∧ mask.length ≤ 2147483647) (h : 2147483647 < x.length) :
    Calls Try.prog 4 #[.agg #[.slice As sub.length cs, .slice Am mask.length cm], .int .i64 size, .slice A x.length c, .slice Sa salt.length ca, .int .i64 count] w fun e w' => e = .returned (.bool true) ∧ Below w.heap.size w w' := by
  have HF := Aside0.mk h1
  clear h1
  have d1 : decide ((2147483647 : Int) < (x.length : Int)) = true := decide_eq_true (by omega)
  have d1' : decide (2147483647 < x.length) = true := decide_eq_true (by omega)
  go_enter Try.func4, Try.ntmps4
  go_wp2_with (first | (go_at_call 11; (with_reducible refine (fits_yes _ _ _ _ _ _ _ HF.out.1 HF.out.2).mono ?_); rintro e w' ⟨rfl, rfl⟩))
  go_ret
  exact ⟨rfl, by go_grown⟩

set_option maxHeartbeats 1600000 in
set_option maxRecDepth 100000 in
theorem ilaw_longs (As : Option Addr) (cs : Nat) (sub : List Int) (Am : Option Addr) (cm : Nat) (mask : List Int) (size : Int) (A : Option Addr) (c : Nat) (x : List Int) (Sa : Option Addr) (ca : Nat) (salt : List Int) (count : Int) (w : World) (h1 : sub.length ≤ 2147483647 ∧ mask.length ≤ 2147483647) (h0 : x.length ≤ 2147483647) (h : 2147483647 < salt.length) :
    Calls Try.prog 4 #[.agg #[.slice As sub.length cs, .slice Am mask.length cm], .int .i64 size, .slice A x.length c, .slice Sa salt.length ca, .int .i64 count] w fun e w' => e = .returned (.bool true) ∧ Below w.heap.size w w' := by
  have HF := Aside0.mk h1
  clear h1
  have d1 : decide ((2147483647 : Int) < (x.length : Int)) = false := decide_eq_false (by omega)
  have d1' : decide (2147483647 < x.length) = false := decide_eq_false (by omega)
  have d0 : decide ((2147483647 : Int) < (salt.length : Int)) = true := decide_eq_true (by omega)
  have d0' : decide (2147483647 < salt.length) = true := decide_eq_true (by omega)
  go_enter Try.func4, Try.ntmps4
  go_wp2_with (first | (go_at_call 11; (with_reducible refine (fits_yes _ _ _ _ _ _ _ HF.out.1 HF.out.2).mono ?_); rintro e w' ⟨rfl, rfl⟩))
  go_ret
  exact ⟨rfl, by go_grown⟩

set_option maxHeartbeats 1600000 in
set_option maxRecDepth 100000 in
theorem ilaw_wrong (As : Option Addr) (cs : Nat) (sub : List Int) (Am : Option Addr) (cm : Nat) (mask : List Int) (size : Int) (A : Option Addr) (c : Nat) (x : List Int) (Sa : Option Addr) (ca : Nat) (salt : List Int) (count : Int) (w : World) (h1 : sub.length ≤ 2147483647 ∧ mask.length ≤ 2147483647) (h2 : x.length ≤ 2147483647 ∧ salt.length ≤ 2147483647) (h : ¬ okH sub.length mask.length) :
    Calls Try.prog 4 #[.agg #[.slice As sub.length cs, .slice Am mask.length cm], .int .i64 size, .slice A x.length c, .slice Sa salt.length ca, .int .i64 count] w fun e w' => e = .returned (.bool true) ∧ Below w.heap.size w w' := by
  have HF := Aside0.mk h1
  clear h1
  have d1 : decide ((2147483647 : Int) < (x.length : Int)) = false := decide_eq_false (by omega)
  have d1' : decide (2147483647 < x.length) = false := decide_eq_false (by omega)
  have d0 : decide ((2147483647 : Int) < (salt.length : Int)) = false := decide_eq_false (by omega)
  have d0' : decide (2147483647 < salt.length) = false := decide_eq_false (by omega)
  have HN := Aside0.mk h
  clear h
  go_enter Try.func4, Try.ntmps4
  go_wp2_with (first | (go_at_call 11; (with_reducible refine (fits_yes _ _ _ _ _ _ _ HF.out.1 HF.out.2).mono ?_); rintro e w' ⟨rfl, rfl⟩) | (go_at_call 12; (with_reducible refine (right_no _ _ _ _ _ _ _ HN.out).mono ?_); rintro e w' ⟨rfl, rfl⟩))
  go_ret
  exact ⟨rfl, by go_grown⟩

set_option maxHeartbeats 1600000 in
set_option maxRecDepth 100000 in
theorem ilaw_neg (As : Option Addr) (cs : Nat) (sub : List Int) (Am : Option Addr) (cm : Nat) (mask : List Int) (size : Int) (A : Option Addr) (c : Nat) (x : List Int) (Sa : Option Addr) (ca : Nat) (salt : List Int) (count : Int) (w : World) (h1 : sub.length ≤ 2147483647 ∧ mask.length ≤ 2147483647) (h2 : x.length ≤ 2147483647 ∧ salt.length ≤ 2147483647) (h3 : okH sub.length mask.length) (h : size < 0) :
    Calls Try.prog 4 #[.agg #[.slice As sub.length cs, .slice Am mask.length cm], .int .i64 size, .slice A x.length c, .slice Sa salt.length ca, .int .i64 count] w fun e w' => e = .returned (.bool true) ∧ Below w.heap.size w w' := by
  have HF := Aside0.mk h1
  clear h1
  have d1 : decide ((2147483647 : Int) < (x.length : Int)) = false := decide_eq_false (by omega)
  have d1' : decide (2147483647 < x.length) = false := decide_eq_false (by omega)
  have d0 : decide ((2147483647 : Int) < (salt.length : Int)) = false := decide_eq_false (by omega)
  have d0' : decide (2147483647 < salt.length) = false := decide_eq_false (by omega)
  have HN := Aside0.mk h3
  clear h3
  have d2 : decide (size < 0) = true := decide_eq_true h
  go_enter Try.func4, Try.ntmps4
  go_wp2_with (first | (go_at_call 11; (with_reducible refine (fits_yes _ _ _ _ _ _ _ HF.out.1 HF.out.2).mono ?_); rintro e w' ⟨rfl, rfl⟩) | (go_at_call 12; (with_reducible refine (right_yes _ _ _ _ _ _ HN.out.2.1 HN.out.2.2 _ HN.out.1).mono ?_); rintro e w' ⟨rfl, rfl⟩))
  go_ret
  exact ⟨rfl, by go_grown⟩

set_option maxHeartbeats 1600000 in
set_option maxRecDepth 100000 in
theorem ilaw_big (As : Option Addr) (cs : Nat) (sub : List Int) (Am : Option Addr) (cm : Nat) (mask : List Int) (size : Int) (A : Option Addr) (c : Nat) (x : List Int) (Sa : Option Addr) (ca : Nat) (salt : List Int) (count : Int) (w : World) (h1 : sub.length ≤ 2147483647 ∧ mask.length ≤ 2147483647) (h2 : x.length ≤ 2147483647 ∧ salt.length ≤ 2147483647) (h3 : okH sub.length mask.length) (h4 : 0 ≤ size) (h : 200 < size) :
    Calls Try.prog 4 #[.agg #[.slice As sub.length cs, .slice Am mask.length cm], .int .i64 size, .slice A x.length c, .slice Sa salt.length ca, .int .i64 count] w fun e w' => e = .returned (.bool true) ∧ Below w.heap.size w w' := by
  have HF := Aside0.mk h1
  clear h1
  have d1 : decide ((2147483647 : Int) < (x.length : Int)) = false := decide_eq_false (by omega)
  have d1' : decide (2147483647 < x.length) = false := decide_eq_false (by omega)
  have d0 : decide ((2147483647 : Int) < (salt.length : Int)) = false := decide_eq_false (by omega)
  have d0' : decide (2147483647 < salt.length) = false := decide_eq_false (by omega)
  have HN := Aside0.mk h3
  clear h3
  have d2 : decide (size < 0) = false := decide_eq_false (by omega)
  have d3 : decide (200 < size) = true := decide_eq_true h
  go_enter Try.func4, Try.ntmps4
  go_wp2_with (first | (go_at_call 11; (with_reducible refine (fits_yes _ _ _ _ _ _ _ HF.out.1 HF.out.2).mono ?_); rintro e w' ⟨rfl, rfl⟩) | (go_at_call 12; (with_reducible refine (right_yes _ _ _ _ _ _ HN.out.2.1 HN.out.2.2 _ HN.out.1).mono ?_); rintro e w' ⟨rfl, rfl⟩))
  go_ret
  exact ⟨rfl, by go_grown⟩

set_option maxHeartbeats 1600000 in
set_option maxRecDepth 100000 in
theorem ilaw_text (As : Option Addr) (cs : Nat) (sub : List Int) (Am : Option Addr) (cm : Nat) (mask : List Int) (size : Int) (A : Option Addr) (c : Nat) (x : List Int) (Sa : Option Addr) (ca : Nat) (salt : List Int) (count : Int) (w : World) (h1 : sub.length ≤ 2147483647 ∧ mask.length ≤ 2147483647) (h2 : x.length ≤ 2147483647 ∧ salt.length ≤ 2147483647) (h3 : okH sub.length mask.length) (h4 : 0 ≤ size) (h5 : size ≤ 200) (h : ¬ (x.length ≤ 4096 ∧ salt.length ≤ 4096)) :
    Calls Try.prog 4 #[.agg #[.slice As sub.length cs, .slice Am mask.length cm], .int .i64 size, .slice A x.length c, .slice Sa salt.length ca, .int .i64 count] w fun e w' => e = .returned (.bool true) ∧ Below w.heap.size w w' := by
  have HF := Aside0.mk h1
  clear h1
  have d1 : decide ((2147483647 : Int) < (x.length : Int)) = false := decide_eq_false (by omega)
  have d1' : decide (2147483647 < x.length) = false := decide_eq_false (by omega)
  have d0 : decide ((2147483647 : Int) < (salt.length : Int)) = false := decide_eq_false (by omega)
  have d0' : decide (2147483647 < salt.length) = false := decide_eq_false (by omega)
  have HN := Aside0.mk h3
  clear h3
  have d2 : decide (size < 0) = false := decide_eq_false (by omega)
  have d3 : decide (200 < size) = false := decide_eq_false (by omega)
  have HX := Aside0.mk h
  clear h
  go_enter Try.func4, Try.ntmps4
  go_wp2_with (first | (go_at_call 11; (with_reducible refine (fits_yes _ _ _ _ _ _ _ HF.out.1 HF.out.2).mono ?_); rintro e w' ⟨rfl, rfl⟩) | (go_at_call 12; (with_reducible refine (right_yes _ _ _ _ _ _ HN.out.2.1 HN.out.2.2 _ HN.out.1).mono ?_); rintro e w' ⟨rfl, rfl⟩) | (go_at_call 13; refine (Brief.brief2_no (A := A) (c := c) (n := x.length) (A' := Sa) (c' := ca) (n' := salt.length) (by simp [go_sem]) (by simp [go_sem]) HX.out).mono ?_; rintro e w' ⟨rfl, rfl⟩))
  go_ret
  exact ⟨rfl, by go_grown⟩

set_option maxHeartbeats 1600000 in
set_option maxRecDepth 100000 in
theorem ilaw_empty (As : Option Addr) (cs : Nat) (sub : List Int) (Am : Option Addr) (cm : Nat) (mask : List Int) (size : Int) (A : Option Addr) (c : Nat) (x : List Int) (Sa : Option Addr) (ca : Nat) (salt : List Int) (count : Int) (w : World) (h1 : sub.length ≤ 2147483647 ∧ mask.length ≤ 2147483647) (h2 : x.length ≤ 2147483647 ∧ salt.length ≤ 2147483647) (h3 : okH sub.length mask.length) (h4 : 0 ≤ size) (h5 : size ≤ 200) (h6 : x.length ≤ 4096 ∧ salt.length ≤ 4096) (h : x.length + salt.length = 0) :
    Calls Try.prog 4 #[.agg #[.slice As sub.length cs, .slice Am mask.length cm], .int .i64 size, .slice A x.length c, .slice Sa salt.length ca, .int .i64 count] w fun e w' => e = .returned (.bool true) ∧ Below w.heap.size w w' := by
  have HF := Aside0.mk h1
  clear h1
  have d1 : decide ((2147483647 : Int) < (x.length : Int)) = false := decide_eq_false (by omega)
  have d1' : decide (2147483647 < x.length) = false := decide_eq_false (by omega)
  have d0 : decide ((2147483647 : Int) < (salt.length : Int)) = false := decide_eq_false (by omega)
  have d0' : decide (2147483647 < salt.length) = false := decide_eq_false (by omega)
  have HN := Aside0.mk h3
  clear h3
  have d2 : decide (size < 0) = false := decide_eq_false (by omega)
  have d3 : decide (200 < size) = false := decide_eq_false (by omega)
  have hxl : x.length ≤ 4096 := h6.1
  have hsl2 : salt.length ≤ 4096 := h6.2
  have HX := Aside0.mk h6
  clear h6
  have d4 : (((x.length : Int) + (salt.length : Int)) == 0) = true := beq_iff_eq.2 (by omega)
  have d4' : decide ((x.length : Int) + (salt.length : Int) = 0) = true := decide_eq_true (by omega)
  clear h
  go_enter Try.func4, Try.ntmps4
  go_wp2_with (first | (go_at_call 11; (with_reducible refine (fits_yes _ _ _ _ _ _ _ HF.out.1 HF.out.2).mono ?_); rintro e w' ⟨rfl, rfl⟩) | (go_at_call 12; (with_reducible refine (right_yes _ _ _ _ _ _ HN.out.2.1 HN.out.2.2 _ HN.out.1).mono ?_); rintro e w' ⟨rfl, rfl⟩) | (go_at_call 13; refine (Brief.brief2_yes (A := A) (c := c) (n := x.length) (A' := Sa) (c' := ca) (n' := salt.length) (by simp [go_sem]) (by simp [go_sem]) HX.out).mono ?_; rintro e w' ⟨rfl, rfl⟩))
  go_ret
  exact ⟨rfl, by go_grown⟩

set_option maxHeartbeats 1600000 in
set_option maxRecDepth 100000 in
theorem ilaw_cneg (As : Option Addr) (cs : Nat) (sub : List Int) (Am : Option Addr) (cm : Nat) (mask : List Int) (size : Int) (A : Option Addr) (c : Nat) (x : List Int) (Sa : Option Addr) (ca : Nat) (salt : List Int) (count : Int) (w : World) (h1 : sub.length ≤ 2147483647 ∧ mask.length ≤ 2147483647) (h2 : x.length ≤ 2147483647 ∧ salt.length ≤ 2147483647) (h3 : okH sub.length mask.length) (h4 : 0 ≤ size) (h5 : size ≤ 200) (h6 : x.length ≤ 4096 ∧ salt.length ≤ 4096) (h7 : 1 ≤ x.length + salt.length) (h : count < 0) :
    Calls Try.prog 4 #[.agg #[.slice As sub.length cs, .slice Am mask.length cm], .int .i64 size, .slice A x.length c, .slice Sa salt.length ca, .int .i64 count] w fun e w' => e = .returned (.bool true) ∧ Below w.heap.size w w' := by
  have HF := Aside0.mk h1
  clear h1
  have d1 : decide ((2147483647 : Int) < (x.length : Int)) = false := decide_eq_false (by omega)
  have d1' : decide (2147483647 < x.length) = false := decide_eq_false (by omega)
  have d0 : decide ((2147483647 : Int) < (salt.length : Int)) = false := decide_eq_false (by omega)
  have d0' : decide (2147483647 < salt.length) = false := decide_eq_false (by omega)
  have HN := Aside0.mk h3
  clear h3
  have d2 : decide (size < 0) = false := decide_eq_false (by omega)
  have d3 : decide (200 < size) = false := decide_eq_false (by omega)
  have hxl : x.length ≤ 4096 := h6.1
  have hsl2 : salt.length ≤ 4096 := h6.2
  have HX := Aside0.mk h6
  clear h6
  have d4 : (((x.length : Int) + (salt.length : Int)) == 0) = false := beq_eq_false_iff_ne.2 (by omega)
  have d4' : decide ((x.length : Int) + (salt.length : Int) = 0) = false := decide_eq_false (by omega)
  have d5 : decide (count < 0) = true := decide_eq_true h
  go_enter Try.func4, Try.ntmps4
  go_wp2_with (first | (go_at_call 11; (with_reducible refine (fits_yes _ _ _ _ _ _ _ HF.out.1 HF.out.2).mono ?_); rintro e w' ⟨rfl, rfl⟩) | (go_at_call 12; (with_reducible refine (right_yes _ _ _ _ _ _ HN.out.2.1 HN.out.2.2 _ HN.out.1).mono ?_); rintro e w' ⟨rfl, rfl⟩) | (go_at_call 13; refine (Brief.brief2_yes (A := A) (c := c) (n := x.length) (A' := Sa) (c' := ca) (n' := salt.length) (by simp [go_sem]) (by simp [go_sem]) HX.out).mono ?_; rintro e w' ⟨rfl, rfl⟩))
  go_ret
  exact ⟨rfl, by go_grown⟩

set_option maxHeartbeats 1600000 in
set_option maxRecDepth 100000 in
theorem ilaw_cbig (As : Option Addr) (cs : Nat) (sub : List Int) (Am : Option Addr) (cm : Nat) (mask : List Int) (size : Int) (A : Option Addr) (c : Nat) (x : List Int) (Sa : Option Addr) (ca : Nat) (salt : List Int) (count : Int) (w : World) (h1 : sub.length ≤ 2147483647 ∧ mask.length ≤ 2147483647) (h2 : x.length ≤ 2147483647 ∧ salt.length ≤ 2147483647) (h3 : okH sub.length mask.length) (h4 : 0 ≤ size) (h5 : size ≤ 200) (h6 : x.length ≤ 4096 ∧ salt.length ≤ 4096) (h7 : 1 ≤ x.length + salt.length) (h8 : 0 ≤ count) (h : 16384 < count) :
    Calls Try.prog 4 #[.agg #[.slice As sub.length cs, .slice Am mask.length cm], .int .i64 size, .slice A x.length c, .slice Sa salt.length ca, .int .i64 count] w fun e w' => e = .returned (.bool true) ∧ Below w.heap.size w w' := by
  have HF := Aside0.mk h1
  clear h1
  have d1 : decide ((2147483647 : Int) < (x.length : Int)) = false := decide_eq_false (by omega)
  have d1' : decide (2147483647 < x.length) = false := decide_eq_false (by omega)
  have d0 : decide ((2147483647 : Int) < (salt.length : Int)) = false := decide_eq_false (by omega)
  have d0' : decide (2147483647 < salt.length) = false := decide_eq_false (by omega)
  have HN := Aside0.mk h3
  clear h3
  have d2 : decide (size < 0) = false := decide_eq_false (by omega)
  have d3 : decide (200 < size) = false := decide_eq_false (by omega)
  have hxl : x.length ≤ 4096 := h6.1
  have hsl2 : salt.length ≤ 4096 := h6.2
  have HX := Aside0.mk h6
  clear h6
  have d4 : (((x.length : Int) + (salt.length : Int)) == 0) = false := beq_eq_false_iff_ne.2 (by omega)
  have d4' : decide ((x.length : Int) + (salt.length : Int) = 0) = false := decide_eq_false (by omega)
  have d5 : decide (count < 0) = false := decide_eq_false (by omega)
  have d6 : decide (16384 < count) = true := decide_eq_true h
  go_enter Try.func4, Try.ntmps4
  go_wp2_with (first | (go_at_call 11; (with_reducible refine (fits_yes _ _ _ _ _ _ _ HF.out.1 HF.out.2).mono ?_); rintro e w' ⟨rfl, rfl⟩) | (go_at_call 12; (with_reducible refine (right_yes _ _ _ _ _ _ HN.out.2.1 HN.out.2.2 _ HN.out.1).mono ?_); rintro e w' ⟨rfl, rfl⟩) | (go_at_call 13; refine (Brief.brief2_yes (A := A) (c := c) (n := x.length) (A' := Sa) (c' := ca) (n' := salt.length) (by simp [go_sem]) (by simp [go_sem]) HX.out).mono ?_; rintro e w' ⟨rfl, rfl⟩))
  go_ret
  exact ⟨rfl, by go_grown⟩

set_option maxHeartbeats 1600000 in
set_option maxRecDepth 100000 in
theorem ilaw_main (As : Option Addr) (cs : Nat) (sub : List Int) (Am : Option Addr) (cm : Nat) (mask : List Int) (n : Nat) (A : Option Addr) (c : Nat) (x : List Int) (Sa : Option Addr) (ca : Nat) (salt : List Int) (k : Nat) (w : World) (hs : C8 w As sub) (hsB : Bytes sub) (hm : C8 w Am mask) (hmB : Bytes mask) (hl : C8 w A x) (hlB : Bytes x) (hS : C8 w Sa salt) (hSB : Bytes salt) (h3 : okH sub.length mask.length) (h6 : x.length ≤ 4096 ∧ salt.length ≤ 4096) (h5 : n ≤ 200) (h7 : 1 ≤ x.length + salt.length) (h9 : k ≤ 16384) :
    Calls Try.prog 4 #[.agg #[.slice As sub.length cs, .slice Am mask.length cm], .int .i64 (n : Int), .slice A x.length c, .slice Sa salt.length ca, .int .i64 (k : Int)] w fun e w' => e = .returned (.bool true) ∧ Below w.heap.size w w' := by
  have HF := Aside0.mk (show sub.length ≤ 2147483647 ∧ mask.length ≤ 2147483647 by omega)
  have HN := Aside0.mk h3
  have hxl : x.length ≤ 4096 := h6.1
  have hsl2 : salt.length ≤ 4096 := h6.2
  have HX := Aside0.mk h6
  have HK := Aside0.mk (show n ≤ 65536 ∧ 1 ≤ x.length + salt.length ∧ k ≤ 16384 by omega)
  have HS := Aside0.mk hs
  have HM := Aside0.mk hm
  have HL := Aside0.mk hl
  have HT := Aside0.mk hS
  have HB := Aside0.mk (And.intro hsB (And.intro hmB (And.intro hlB hSB)))
  obtain ⟨X, hX⟩ : ∃ X, X = cyc (salt ++ x) (cntOf k (x.length + salt.length)) := ⟨_, rfl⟩
  have XE := Aside0.mk hX
  have d1 : decide ((2147483647 : Int) < (x.length : Int)) = false := decide_eq_false (by omega)
  have d1' : decide (2147483647 < x.length) = false := decide_eq_false (by omega)
  have d0 : decide ((2147483647 : Int) < (salt.length : Int)) = false := decide_eq_false (by omega)
  have d0' : decide (2147483647 < salt.length) = false := decide_eq_false (by omega)
  have d2 : decide ((n : Int) < 0) = false := decide_eq_false (by omega)
  have d3 : decide ((200 : Int) < (n : Int)) = false := decide_eq_false (by omega)
  have d3' : decide (200 < n) = false := decide_eq_false (by omega)
  have d4 : (((x.length : Int) + (salt.length : Int)) == 0) = false := beq_eq_false_iff_ne.2 (by omega)
  have d4' : decide ((x.length : Int) + (salt.length : Int) = 0) = false := decide_eq_false (by omega)
  have d5 : decide ((k : Int) < 0) = false := decide_eq_false (by omega)
  have d6 : decide ((16384 : Int) < (k : Int)) = false := decide_eq_false (by omega)
  have d6' : decide (16384 < k) = false := decide_eq_false (by omega)
  clear h3 h5 h6 h9 hs hsB hm hmB hl hlB hS hSB hX
  go_enter Try.func4, Try.ntmps4
  go_wp2_with (first | (go_at_call 11; (with_reducible refine (fits_yes _ _ _ _ _ _ _ HF.out.1 HF.out.2).mono ?_); rintro e w' ⟨rfl, rfl⟩) | (go_at_call 12; (with_reducible refine (right_yes _ _ _ _ _ _ HN.out.2.1 HN.out.2.2 _ HN.out.1).mono ?_); rintro e w' ⟨rfl, rfl⟩) | (go_at_call 13; refine (Brief.brief2_yes (A := A) (c := c) (n := x.length) (A' := Sa) (c' := ca) (n' := salt.length) (by simp [go_sem]) (by simp [go_sem]) HX.out).mono ?_; rintro e w' ⟨rfl, rfl⟩) | (go_at_call 18; (with_reducible refine (iimpl_calls As cs sub Am cm mask A c x Sa ca salt n k _ X (Kd.C_below HS.out ?b1) HN.out.1 HB.out.1 (Kd.C_below HM.out ?b2) HN.out.2.1 HN.out.2.2 HB.out.2.1 (Kd.C_below HL.out ?b3) HB.out.2.2.1 (Kd.C_below HT.out ?b4) HB.out.2.2.2 HK.out.1 HX.out.1 HX.out.2 HK.out.2.1 HK.out.2.2 XE.out).mono ?_); (case b1 => go_grown); (case b2 => go_grown); (case b3 => go_grown); (case b4 => go_grown); rintro e w1 ⟨go, m1, hm, rfl, hR, hB⟩; have k0 := pw_cell_below hB (a := ⟨w.heap.size, 0, none⟩) (v := .slice As sub.length cs) (by simp [go_sem]); have k1 := pw_cell_below hB (a := ⟨w.heap.size, 1, none⟩) (v := .slice Am mask.length cm) (by simp [go_sem]); have R1 := Aside0.mk (Kd.R_reads' hR).2.2; have M1 := Aside0.mk hm; have B1 := Aside0.mk (below_then (show Below w.heap.size w _ by go_grown) (by simp; omega) hB); clear hR hm hB) | (go_at_call 17; (with_reducible refine (mixer_calls _ _ _ _ _ _ _).mono ?_); rintro e w' ⟨rfl, rfl⟩) | (go_at_call 19; (with_reducible refine (ispec_calls As cs sub Am cm mask A c x Sa ca salt n k _ X (Kd.C_below HS.out (B1.out.alloc (below_size B1.out) _)) HN.out.1 HB.out.1 (Kd.C_below HM.out (B1.out.alloc (below_size B1.out) _)) HN.out.2.1 HN.out.2.2 HB.out.2.1 (Kd.C_below HL.out (B1.out.alloc (below_size B1.out) _)) HB.out.2.2.1 (Kd.C_below HT.out (B1.out.alloc (below_size B1.out) _)) HB.out.2.2.2 HK.out.1 HX.out.1 HX.out.2 HK.out.2.1 HK.out.2.2 XE.out).mono ?_); rintro e w2 ⟨C, d, m2, hm, rfl, hC, hB⟩; have R2 := Aside0.mk (Kd.C_below (Kd.C_below R1.out (below_alloc (Below.refl _ _) _)) hB); have C2 := Aside0.mk hC; have M2 := Aside0.mk hm; have B2 := Aside0.mk (below_then (B1.out.alloc (below_size B1.out) _) (by have := below_size B1.out; simp; omega) hB); clear hC hm hB) | (go_at_call 15; (with_reducible refine (same_calls R2.out C2.out (cat_take sub mask X n m1 m2 M1.out M2.out) ?hn ?hm).mono ?_); (case hn => rw [List.length_take, cat_length]; have := M1.out; omega); (case hm => rw [List.length_take, cat_length]; have := M2.out; omega); rintro e w3 ⟨rfl, hB⟩; have B3 := Aside0.mk (below_then B2.out (below_size B2.out) hB); clear hB))
  go_ret
  exact ⟨rfl, B3.out⟩

theorem ilaw (As : Option Addr) (cs : Nat) (sub : List Int) (Am : Option Addr) (cm : Nat) (mask : List Int) (size : Int) (A : Option Addr) (c : Nat) (x : List Int) (Sa : Option Addr) (ca : Nat) (salt : List Int) (count : Int) (w : World) (hs : C8 w As sub) (hsB : Bytes sub) (hm : C8 w Am mask) (hmB : Bytes mask) (hl : C8 w A x) (hlB : Bytes x) (hS : C8 w Sa salt) (hSB : Bytes salt) :
    Calls Try.prog 4 #[.agg #[.slice As sub.length cs, .slice Am mask.length cm], .int .i64 size, .slice A x.length c, .slice Sa salt.length ca, .int .i64 count] w fun e w' => e = .returned (.bool true) ∧ Below w.heap.size w w' := by
  by_cases h1 : sub.length ≤ 2147483647 ∧ mask.length ≤ 2147483647
  case neg => exact ilaw_fits As cs sub Am cm mask size A c x Sa ca salt count w (by omega)
  by_cases h2 : x.length ≤ 2147483647
  case neg => exact ilaw_long As cs sub Am cm mask size A c x Sa ca salt count w h1 (by omega)
  by_cases h2' : salt.length ≤ 2147483647
  case neg => exact ilaw_longs As cs sub Am cm mask size A c x Sa ca salt count w h1 h2 (by omega)
  by_cases h3 : okH sub.length mask.length
  case neg => exact ilaw_wrong As cs sub Am cm mask size A c x Sa ca salt count w h1 ⟨h2, h2'⟩ h3
  by_cases h4 : size < 0
  case pos => exact ilaw_neg As cs sub Am cm mask size A c x Sa ca salt count w h1 ⟨h2, h2'⟩ h3 h4
  by_cases h5 : 200 < size
  case pos => exact ilaw_big As cs sub Am cm mask size A c x Sa ca salt count w h1 ⟨h2, h2'⟩ h3 (by omega) h5
  by_cases h6 : x.length ≤ 4096 ∧ salt.length ≤ 4096
  case neg => exact ilaw_text As cs sub Am cm mask size A c x Sa ca salt count w h1 ⟨h2, h2'⟩ h3 (by omega) (by omega) h6
  by_cases h7 : x.length + salt.length = 0
  case pos => exact ilaw_empty As cs sub Am cm mask size A c x Sa ca salt count w h1 ⟨h2, h2'⟩ h3 (by omega) (by omega) h6 h7
  by_cases h8 : count < 0
  case pos => exact ilaw_cneg As cs sub Am cm mask size A c x Sa ca salt count w h1 ⟨h2, h2'⟩ h3 (by omega) (by omega) h6 (by omega) h8
  by_cases h9 : 16384 < count
  case pos => exact ilaw_cbig As cs sub Am cm mask size A c x Sa ca salt count w h1 ⟨h2, h2'⟩ h3 (by omega) (by omega) h6 (by omega) (by omega) h9
  obtain ⟨n, rfl⟩ : ∃ n : Nat, size = n := ⟨size.toNat, by omega⟩
  obtain ⟨k, rfl⟩ : ∃ k : Nat, count = k := ⟨count.toNat, by omega⟩
  exact ilaw_main As cs sub Am cm mask n A c x Sa ca salt k w hs hsB hm hmB hl hlB hS hSB h3 h6 (by omega) (by omega) (by omega)
/-- The law, as the row asks it. -/
theorem ilaw_row (As : Option Addr) (cs : Nat) (sub : List Int) (Am : Option Addr) (cm : Nat) (mask : List Int) (size : Int) (A : Option Addr) (c : Nat) (x : List Int) (Sa : Option Addr) (ca : Nat) (salt : List Int) (count : Int) (w : World) (hs : C8 w As sub) (_ : sub.length ≤ cs) (_ : sub.length ≤ maxLen) (hsw : ∀ y ∈ sub, (Lit.int .u8 y).wf = true) (hm : C8 w Am mask) (_ : mask.length ≤ cm) (_ : mask.length ≤ maxLen) (hmw : ∀ y ∈ mask, (Lit.int .u8 y).wf = true) (_ : (Lit.int .i64 size).wf = true)
    (hl : C8 w A x) (_ : x.length ≤ c) (_ : x.length ≤ maxLen) (hlw : ∀ y ∈ x, (Lit.int .u8 y).wf = true) (hS : C8 w Sa salt) (_ : salt.length ≤ ca) (_ : salt.length ≤ maxLen) (hSw : ∀ y ∈ salt, (Lit.int .u8 y).wf = true) (_ : (Lit.int .i64 count).wf = true) : Calls Try.prog 4 #[.agg #[.slice As sub.length cs, .slice Am mask.length cm], .int .i64 size, .slice A x.length c, .slice Sa salt.length ca, .int .i64 count] w fun e w' => e = .returned (.bool true) ∧ Below w.heap.size w w' :=
  ilaw As cs sub Am cm mask size A c x Sa ca salt count w hs (bytes_of hsw) hm (bytes_of hmw) hl (bytes_of hlw) hS (bytes_of hSw)
end Go.Proofs.Ytkehjcppgpoobaa.Mix
