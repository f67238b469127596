/- The law FnS2kSimple, for every input. -/
import Derived.Test.YtkehjcppgpoobaaS2k
import Derived.Test.YtkehjcppgpoobaaBrief
import Derived.Test.YtkehjcppgpoobaaSame
set_option linter.unusedVariables false
set_option linter.unusedSimpArgs false
namespace Go.Proofs.Ytkehjcppgpoobaa.Mix
open Go.RowKit Go.Proofs.YtkehjcppgpoobaaW.PrintWords Go.Proofs.YtkehjcppgpoobaaW.PrintMore Go.Proofs.Ytkehjcppgpoobaa.Kit

set_option maxHeartbeats 1600000 in
set_option maxRecDepth 100000 in
theorem law_fits (As : Option Addr) (cs : Nat) (sub : List Int) (Am : Option Addr) (cm : Nat) (mask : List Int) (size : Int) (A : Option Addr) (c : Nat) (x : List Int) (w : World) (h : 2147483647 < sub.length ∨ 2147483647 < mask.length) :
    Calls Try.prog 3 #[.agg #[.slice As sub.length cs, .slice Am mask.length cm], .int .i64 size, .slice A x.length c] w fun e w' => e = .returned (.bool true) ∧ Below w.heap.size w w' := by
  have HF := Aside0.mk h
  clear h
  go_enter Try.func3, Try.ntmps3
  go_wp2_with (first | (go_at_call 11; (with_reducible refine (fits_no _ _ _ _ _ _ _ HF.out).mono ?_); rintro e w' ⟨rfl, rfl⟩))
  go_ret
  exact ⟨rfl, by go_grown⟩

set_option maxHeartbeats 1600000 in
set_option maxRecDepth 100000 in
theorem law_long (As : Option Addr) (cs : Nat) (sub : List Int) (Am : Option Addr) (cm : Nat) (mask : List Int) (size : Int) (A : Option Addr) (c : Nat) (x : List Int) (w : World) (h1 : sub.length ≤ 2147483647 ∧ mask.length ≤ 2147483647) (h : 2147483647 < x.length) :
    Calls Try.prog 3 #[.agg #[.slice As sub.length cs, .slice Am mask.length cm], .int .i64 size, .slice A x.length c] w fun e w' => e = .returned (.bool true) ∧ Below w.heap.size w w' := by
  have HF := Aside0.mk h1
  clear h1
  have d1 : decide ((2147483647 : Int) < (x.length : Int)) = true := decide_eq_true (by omega)
  have d1' : decide (2147483647 < x.length) = true := decide_eq_true h
  go_enter Try.func3, Try.ntmps3
  go_wp2_with (first | (go_at_call 11; (with_reducible refine (fits_yes _ _ _ _ _ _ _ HF.out.1 HF.out.2).mono ?_); rintro e w' ⟨rfl, rfl⟩))
  go_ret
  exact ⟨rfl, by go_grown⟩

set_option maxHeartbeats 1600000 in
set_option maxRecDepth 100000 in
theorem law_wrong (As : Option Addr) (cs : Nat) (sub : List Int) (Am : Option Addr) (cm : Nat) (mask : List Int) (size : Int) (A : Option Addr) (c : Nat) (x : List Int) (w : World) (h1 : sub.length ≤ 2147483647 ∧ mask.length ≤ 2147483647) (h2 : x.length ≤ 2147483647) (h : ¬ okH sub.length mask.length) :
    Calls Try.prog 3 #[.agg #[.slice As sub.length cs, .slice Am mask.length cm], .int .i64 size, .slice A x.length c] w fun e w' => e = .returned (.bool true) ∧ Below w.heap.size w w' := by
  have HF := Aside0.mk h1
  have HN := Aside0.mk h
  clear h1 h
  have d1 : decide ((2147483647 : Int) < (x.length : Int)) = false := decide_eq_false (by omega)
  have d1' : decide (2147483647 < x.length) = false := decide_eq_false (by omega)
  go_enter Try.func3, Try.ntmps3
  go_wp2_with (first | (go_at_call 11; (with_reducible refine (fits_yes _ _ _ _ _ _ _ HF.out.1 HF.out.2).mono ?_); rintro e w' ⟨rfl, rfl⟩) | (go_at_call 12; (with_reducible refine (right_no _ _ _ _ _ _ _ HN.out).mono ?_); rintro e w' ⟨rfl, rfl⟩))
  go_ret
  exact ⟨rfl, by go_grown⟩

set_option maxHeartbeats 1600000 in
set_option maxRecDepth 100000 in
theorem law_neg (As : Option Addr) (cs : Nat) (sub : List Int) (Am : Option Addr) (cm : Nat) (mask : List Int) (size : Int) (A : Option Addr) (c : Nat) (x : List Int) (w : World) (h1 : sub.length ≤ 2147483647 ∧ mask.length ≤ 2147483647) (h2 : x.length ≤ 2147483647) (h3 : okH sub.length mask.length) (h : size < 0) :
    Calls Try.prog 3 #[.agg #[.slice As sub.length cs, .slice Am mask.length cm], .int .i64 size, .slice A x.length c] w fun e w' => e = .returned (.bool true) ∧ Below w.heap.size w w' := by
  have HF := Aside0.mk h1
  have HN := Aside0.mk h3
  clear h1 h3
  have d1 : decide ((2147483647 : Int) < (x.length : Int)) = false := decide_eq_false (by omega)
  have d1' : decide (2147483647 < x.length) = false := decide_eq_false (by omega)
  have d2 : decide (size < 0) = true := decide_eq_true h
  go_enter Try.func3, Try.ntmps3
  go_wp2_with (first | (go_at_call 11; (with_reducible refine (fits_yes _ _ _ _ _ _ _ HF.out.1 HF.out.2).mono ?_); rintro e w' ⟨rfl, rfl⟩) | (go_at_call 12; (with_reducible refine (right_yes _ _ _ _ _ _ HN.out.2.1 HN.out.2.2 _ HN.out.1).mono ?_); rintro e w' ⟨rfl, rfl⟩))
  go_ret
  exact ⟨rfl, by go_grown⟩

set_option maxHeartbeats 1600000 in
set_option maxRecDepth 100000 in
theorem law_big (As : Option Addr) (cs : Nat) (sub : List Int) (Am : Option Addr) (cm : Nat) (mask : List Int) (size : Int) (A : Option Addr) (c : Nat) (x : List Int) (w : World) (h1 : sub.length ≤ 2147483647 ∧ mask.length ≤ 2147483647) (h2 : x.length ≤ 2147483647) (h3 : okH sub.length mask.length) (h : 600 < size) :
    Calls Try.prog 3 #[.agg #[.slice As sub.length cs, .slice Am mask.length cm], .int .i64 size, .slice A x.length c] w fun e w' => e = .returned (.bool true) ∧ Below w.heap.size w w' := by
  have HF := Aside0.mk h1
  have HN := Aside0.mk h3
  clear h1 h3
  have d1 : decide ((2147483647 : Int) < (x.length : Int)) = false := decide_eq_false (by omega)
  have d1' : decide (2147483647 < x.length) = false := decide_eq_false (by omega)
  have d2 : decide (size < 0) = false := decide_eq_false (by omega)
  have d3 : decide (600 < size) = true := decide_eq_true h
  go_enter Try.func3, Try.ntmps3
  go_wp2_with (first | (go_at_call 11; (with_reducible refine (fits_yes _ _ _ _ _ _ _ HF.out.1 HF.out.2).mono ?_); rintro e w' ⟨rfl, rfl⟩) | (go_at_call 12; (with_reducible refine (right_yes _ _ _ _ _ _ HN.out.2.1 HN.out.2.2 _ HN.out.1).mono ?_); rintro e w' ⟨rfl, rfl⟩))
  go_ret
  exact ⟨rfl, by go_grown⟩

set_option maxHeartbeats 1600000 in
set_option maxRecDepth 100000 in
theorem law_text (As : Option Addr) (cs : Nat) (sub : List Int) (Am : Option Addr) (cm : Nat) (mask : List Int) (size : Int) (A : Option Addr) (c : Nat) (x : List Int) (w : World) (h1 : sub.length ≤ 2147483647 ∧ mask.length ≤ 2147483647) (h2 : x.length ≤ 2147483647) (h3 : okH sub.length mask.length) (h : 4096 < x.length) (h4 : 0 ≤ size) (h5 : size ≤ 600) :
    Calls Try.prog 3 #[.agg #[.slice As sub.length cs, .slice Am mask.length cm], .int .i64 size, .slice A x.length c] w fun e w' => e = .returned (.bool true) ∧ Below w.heap.size w w' := by
  have HF := Aside0.mk h1
  have HN := Aside0.mk h3
  clear h1 h3
  have d1 : decide ((2147483647 : Int) < (x.length : Int)) = false := decide_eq_false (by omega)
  have d1' : decide (2147483647 < x.length) = false := decide_eq_false (by omega)
  have HX := Aside0.mk h
  clear h
  have d2 : decide (size < 0) = false := decide_eq_false (by omega)
  have d3 : decide (600 < size) = false := decide_eq_false (by omega)
  go_enter Try.func3, Try.ntmps3
  go_wp2_with (first | (go_at_call 11; (with_reducible refine (fits_yes _ _ _ _ _ _ _ HF.out.1 HF.out.2).mono ?_); rintro e w' ⟨rfl, rfl⟩) | (go_at_call 12; (with_reducible refine (right_yes _ _ _ _ _ _ HN.out.2.1 HN.out.2.2 _ HN.out.1).mono ?_); rintro e w' ⟨rfl, rfl⟩) | (go_at_call 13; refine (Brief.brief_no (A := A) (c := c) (n := x.length) (by simp [go_sem]) HX.out).mono ?_; rintro e w' ⟨rfl, rfl⟩))
  go_ret
  exact ⟨rfl, by go_grown⟩

set_option maxHeartbeats 1600000 in
set_option maxRecDepth 100000 in
theorem law_main (As : Option Addr) (cs : Nat) (sub : List Int) (Am : Option Addr) (cm : Nat) (mask : List Int) (n : Nat) (A : Option Addr) (c : Nat) (x : List Int) (w : World) (hs : C8 w As sub) (hsB : Bytes sub) (hm : C8 w Am mask) (hmB : Bytes mask) (hl : C8 w A x) (hlB : Bytes x) (h3 : okH sub.length mask.length) (h4 : x.length ≤ 4096) (h5 : n ≤ 600) :
    Calls Try.prog 3 #[.agg #[.slice As sub.length cs, .slice Am mask.length cm], .int .i64 (n : Int), .slice A x.length c] w fun e w' => e = .returned (.bool true) ∧ Below w.heap.size w w' := by
  have HF := Aside0.mk (show sub.length ≤ 2147483647 ∧ mask.length ≤ 2147483647 by omega)
  have HN := Aside0.mk h3
  have HX := Aside0.mk (show x.length ≤ 4096 ∧ n ≤ 65536 by omega)
  have HS := Aside0.mk hs
  have HM := Aside0.mk hm
  have HL := Aside0.mk hl
  have HB := Aside0.mk (And.intro hsB (And.intro hmB hlB))
  have d1 : decide ((2147483647 : Int) < (x.length : Int)) = false := decide_eq_false (by omega)
  have d1' : decide (2147483647 < x.length) = false := decide_eq_false (by omega)
  have d2 : decide ((n : Int) < 0) = false := decide_eq_false (by omega)
  have d3 : decide ((600 : Int) < (n : Int)) = false := decide_eq_false (by omega)
  have d3' : decide (600 < n) = false := decide_eq_false (by omega)
  clear h3 h4 h5 hs hsB hm hmB hl hlB
  go_enter Try.func3, Try.ntmps3
  go_wp2_with (first | (go_at_call 11; (with_reducible refine (fits_yes _ _ _ _ _ _ _ HF.out.1 HF.out.2).mono ?_); rintro e w' ⟨rfl, rfl⟩) | (go_at_call 12; (with_reducible refine (right_yes _ _ _ _ _ _ HN.out.2.1 HN.out.2.2 _ HN.out.1).mono ?_); rintro e w' ⟨rfl, rfl⟩) | (go_at_call 13; refine (Brief.brief_yes (A := A) (c := c) (n := x.length) (by simp [go_sem]) HX.out.1).mono ?_; rintro e w' ⟨rfl, rfl⟩) | (go_at_call 14; (with_reducible refine (is2k_calls As cs sub Am cm mask A c x n _ (Kd.C_below HS.out ?b1) HN.out.1 HB.out.1 (Kd.C_below HM.out ?b2) HN.out.2.1 HN.out.2.2 HB.out.2.1 (Kd.C_below HL.out ?b3) HB.out.2.2 HX.out.2).mono ?_); (case b1 => go_grown); (case b2 => go_grown); (case b3 => go_grown); rintro e w1 ⟨go, m1, hm, rfl, hR, hB⟩; have k0 := pw_cell_below hB (a := ⟨w.heap.size, 0, none⟩) (v := .slice As sub.length cs) (by simp [go_sem]); have k1 := pw_cell_below hB (a := ⟨w.heap.size, 1, none⟩) (v := .slice Am mask.length cm) (by simp [go_sem]); have R1 := Aside0.mk (Kd.R_reads' hR).2.2; have M1 := Aside0.mk hm; have B1 := Aside0.mk (below_then (show Below w.heap.size w _ by go_grown) (by simp; omega) hB); clear hR hm hB) | (go_at_call 17; (with_reducible refine (mixer_calls _ _ _ _ _ _ _).mono ?_); rintro e w' ⟨rfl, rfl⟩) | (go_at_call 16; (with_reducible refine (sspec_calls As cs sub Am cm mask A c x n _ (Kd.C_below HS.out (B1.out.alloc (below_size B1.out) _)) HN.out.1 HB.out.1 (Kd.C_below HM.out (B1.out.alloc (below_size B1.out) _)) HN.out.2.1 HN.out.2.2 HB.out.2.1 (Kd.C_below HL.out (B1.out.alloc (below_size B1.out) _)) HB.out.2.2 (by have := HX.out.1; omega) HX.out.2).mono ?_); rintro e w2 ⟨C, d, m2, hm, rfl, hC, hB⟩; have R2 := Aside0.mk (Kd.C_below (Kd.C_below R1.out (below_alloc (Below.refl _ _) _)) hB); have C2 := Aside0.mk hC; have M2 := Aside0.mk hm; have B2 := Aside0.mk (below_then (B1.out.alloc (below_size B1.out) _) (by have := below_size B1.out; simp; omega) hB); clear hC hm hB) | (go_at_call 15; (with_reducible refine (same_calls R2.out C2.out (cat_take sub mask x n m1 m2 M1.out M2.out) ?hn ?hm).mono ?_); (case hn => rw [List.length_take, cat_length]; have := M1.out; omega); (case hm => rw [List.length_take, cat_length]; have := M2.out; omega); rintro e w3 ⟨rfl, hB⟩; have B3 := Aside0.mk (below_then B2.out (below_size B2.out) hB); clear hB))
  go_ret
  exact ⟨rfl, B3.out⟩

theorem law (As : Option Addr) (cs : Nat) (sub : List Int) (Am : Option Addr) (cm : Nat) (mask : List Int) (size : Int) (A : Option Addr) (c : Nat) (x : List Int) (w : World) (hs : C8 w As sub) (hsB : Bytes sub) (hm : C8 w Am mask) (hmB : Bytes mask) (hl : C8 w A x) (hlB : Bytes x) :
    Calls Try.prog 3 #[.agg #[.slice As sub.length cs, .slice Am mask.length cm], .int .i64 size, .slice A x.length c] w fun e w' => e = .returned (.bool true) ∧ Below w.heap.size w w' := by
  by_cases h1 : sub.length ≤ 2147483647 ∧ mask.length ≤ 2147483647
  · by_cases h2 : x.length ≤ 2147483647
    · by_cases h3 : okH sub.length mask.length
      · by_cases h4 : size < 0
        · exact law_neg As cs sub Am cm mask size A c x w h1 h2 h3 h4
        · by_cases h5 : 600 < size
          · exact law_big As cs sub Am cm mask size A c x w h1 h2 h3 h5
          · by_cases h6 : 4096 < x.length
            · exact law_text As cs sub Am cm mask size A c x w h1 h2 h3 h6 (by omega) (by omega)
            · obtain ⟨n, rfl⟩ : ∃ n : Nat, size = n := ⟨size.toNat, by omega⟩
              exact law_main As cs sub Am cm mask n A c x w hs hsB hm hmB hl hlB h3 (by omega) (by omega)
      · exact law_wrong As cs sub Am cm mask size A c x w h1 h2 h3
    · exact law_long As cs sub Am cm mask size A c x w h1 (by omega)
  · exact law_fits As cs sub Am cm mask size A c x w (by omega)
/-- The law, as the row asks it. -/
theorem law_row (As : Option Addr) (cs : Nat) (sub : List Int) (Am : Option Addr) (cm : Nat) (mask : List Int) (size : Int) (A : Option Addr) (c : Nat) (x : List Int) (w : World) (hs : C8 w As sub) (_ : sub.length ≤ cs) (_ : sub.length ≤ maxLen) (hsw : ∀ y ∈ sub, (Lit.int .u8 y).wf = true) (hm : C8 w Am mask) (_ : mask.length ≤ cm) (_ : mask.length ≤ maxLen) (hmw : ∀ y ∈ mask, (Lit.int .u8 y).wf = true) (_ : (Lit.int .i64 size).wf = true)
    (hl : C8 w A x) (_ : x.length ≤ c) (_ : x.length ≤ maxLen) (hlw : ∀ y ∈ x, (Lit.int .u8 y).wf = true) : Calls Try.prog 3 #[.agg #[.slice As sub.length cs, .slice Am mask.length cm], .int .i64 size, .slice A x.length c] w fun e w' => e = .returned (.bool true) ∧ Below w.heap.size w w' :=
  law As cs sub Am cm mask size A c x w hs (bytes_of hsw) hm (bytes_of hmw) hl (bytes_of hlw)
end Go.Proofs.Ytkehjcppgpoobaa.Mix
