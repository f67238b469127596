/- The law on GfnDouble, walked through its calls. -/
import Derived.Test.YtnjbgmobobffmaaDblPure2
import Derived.RegionTactic
namespace Go.Proofs.Ytnjbgmobobffmaa.Dbl
open Go.RowKit Go.Proofs.Ytnjbgmobobffmaa.PFnDouble Go.Proofs.YtnjbgmobobffmaaW.PrintWords Go.Proofs.YtnjbgmobobffmaaW.PrintLast Go.Proofs.YtnjbgmobobffmaaW.PrintMore
set_option linter.unusedVariables false
set_option linter.unusedSimpArgs false

set_option maxHeartbeats 800000 in
set_option maxRecDepth 100000 in
theorem gfn (A : Option Addr) (c : Nat) (l : List Int) (w : World) (hr : Kd.C (Kd.int .u8) w A l.length l) (hc : l.length ≤ c) (h : l.length = 16) (hb : Bytes l) :
    Calls Try.prog 28 #[.slice A l.length c] w fun e w' => ∃ v, e = .returned v ∧ Kd.R (Kd.int .u8) 5 w' w.heap.size (fun _ => True) v (dbl l) ∧ Below w.heap.size w w' := by
  have hl : (sh l).length = 16 := by rw [sh_length, h]
  obtain ⟨ad, rfl, hx0⟩ := Kd.at_int hr 0 (by decide) (by omega)
  have HX0 := Aside0.mk hx0
  have HR := Aside0.mk hr
  have HC := Aside0.mk hc
  have HL := Aside0.mk h
  have HL2 := Aside0.mk hl
  have d1 : ((l.length : Int) == 16) = true := by rw [h]; rfl
  have d2 : ((l.length : Int) != 16) = false := by rw [h]; rfl
  have hb := Aside0.mk hb
  clear hr hc hx0 h hl
  go_enter Try.func28, Try.ntmps28
  go_wp2_with (go_at_call 23; refine (byteutil_ShiftBytesLeft.calls l.length _ _ l (sh l) _ HR.out HC.out (shl_some l hb.out (by have := HL.out; omega) (by have := HL.out; omega))).mono ?_; rintro e w1 ⟨v3, rfl, hR3, hB3⟩; obtain ⟨g, cap, ev, hg1, hg2, hcells⟩ := Kd.R_form hR3 (by have := HL2.out; omega); subst ev; have R3 := Aside0.mk hR3; have HB3 := Aside0.mk hB3; clear hR3 hB3 hcells)
  obtain ⟨hx15, hf15⟩ := Kd.R_cell (0 : Int) R3.out 15 (by decide) (by have := HL2.out; omega)
  replace hx15 : w1.cell? ⟨g, 15, none⟩ = some (.int .u8 (rd (sh l) 15)) := hx15
  replace hf15 : w1.frozen? ⟨g, 15, none⟩ = false := hf15
  have hxi0 := (HB3.out.cell (World.block_lt_of_cell? w _ HX0.out)).trans HX0.out
  have hxi : w1.cell? ad = some (.int .u8 (rd l 0)) := hxi0
  clear hxi0
  have hlt : (15 : Int) < ((sh l).length : Int) := by have := HL2.out; omega
  have hlt2 : 15 < (sh l).length := by have := HL2.out; omega
  have hlt0 : (0 : Int) < (l.length : Int) := by have := HL.out; omega
  have hlt02 : 0 < l.length := by have := HL.out; omega
  go_region
  go_wp2
  go_ret
  exact ⟨_, rfl, Kd.R_drew (Kd.R_put R3.out 15 _).1, (HB3.out.setCell hg1 _).drew⟩

set_option maxHeartbeats 800000 in
set_option maxRecDepth 100000 in
theorem impl (A : Option Addr) (c : Nat) (l : List Int) (w : World) (hr : Kd.C (Kd.int .u8) w A l.length l) (hc : l.length ≤ c) (h : l.length = 16) (hb : Bytes l) :
    Calls Try.prog 18 #[.slice A l.length c] w fun e w' => ∃ v, e = .returned (.tuple #[v, .bool true]) ∧ Kd.R (Kd.int .u8) 5 w' w.heap.size (fun _ => True) v (dbl l) ∧ Below w.heap.size w w' := by
  have HR := Aside0.mk hr
  have HC := Aside0.mk hc
  have HL := Aside0.mk h
  have HB := Aside0.mk hb
  have d1 : ((l.length : Int) == 16) = true := by rw [h]; rfl
  have d2 : ((l.length : Int) != 16) = false := by rw [h]; rfl
  clear hr hc h hb
  go_enter Try.func18, Try.ntmps18
  go_wp2_with (go_at_call 28; refine (gfn _ _ l _ HR.out HC.out HL.out HB.out).mono ?_; rintro e w1 ⟨v3, rfl, hR3, hB3⟩; have R3 := Aside0.mk hR3; have HB3 := Aside0.mk hB3; clear hR3 hB3)
  go_ret2
  exact ⟨_, rfl, R3.out, HB3.out⟩

set_option maxHeartbeats 800000 in
set_option maxRecDepth 100000 in
theorem walk (A : Option Addr) (c : Nat) (l : List Int) (w : World) (hr : Kd.C (Kd.int .u8) w A l.length l) (hc : l.length ≤ c) (h : l.length = 16) (hb : Bytes l) :
    Calls Try.prog 7 #[.slice A l.length c] w fun e w' => e = .returned (.bool true) ∧ Below w.heap.size w w' := by
  have HR := Aside0.mk hr
  have HC := Aside0.mk hc
  have HL := Aside0.mk h
  have HB := Aside0.mk hb
  have HT := Aside0.mk (doubled_some l hb h)
  have HS := Aside0.mk (same_refl (dbl l) (by rw [dbl_length, h]; decide))
  have d1 : decide (2147483647 < (l.length : Int)) = false := decide_eq_false (by omega)
  have d2 : ((l.length : Int) == 16) = true := by rw [h]; rfl
  have d3 : ((l.length : Int) != 16) = false := by rw [h]; rfl
  clear hr hc h hb
  go_enter Try.func7, Try.ntmps7
  go_wp2_with (first | ((with_reducible refine gate_dst (N := 12) rfl ?_); refine Kd.R_lit (Kd.int .u8) (w0 := w) w.heap.size 5 ?hg (N := 12) ?hd (xs := ([] : List Int)) (inner := []) (ok := fun _ => True) (okp := fun _ => True) ?hr ?hp (fun _ hk => hk) trivial ?hB ?hS (by simp) ?_; (case hd => rfl); (case hg => rfl); (case hr => first | (go_simp; done) | (go_simp; rfl)); (case hp => exact Reps.none _ _); (case hB => exact (by repeat (first | apply below_alloc | apply pw_below_drewN | exact Below.refl _ _))); (case hS => simp); intro v1 w1 O1 hb1 _ _; have O := Aside0.mk O1; have HB1 := Aside0.mk hb1; clear O1 hb1) | (at_builtin; refine Kd.R_append_rows (Kd.int .u8) (w0 := w) w.heap.size rfl (.tmp 12) (.tmp 13) 24 5 (.int .u8 0) 1 rfl Try.underlying24 info5 rfl (by decide) (by omega) v1 [] l _ _ _ (fun _ => True) (fun _ => False) rfl rfl ?aO ?aR (fun _ _ h => h) (fun _ h => h.elim) ?aF ?aB ?aS ?aL ?_; (case aR => exact Kd.C_below HR.out HB1.out); (case aB => exact HB1.out); (case aF => exact (fun _ _ => trivial)); (case aO => exact O.out); (case aS => exact below_size HB1.out); (case aL => have := HL.out; simp; omega); intro v2 w2 ho hb _ _; rw [List.nil_append] at ho; obtain ⟨A2, c2, e2, hc2, hr2⟩ := Kd.R_reads ho; subst e2; have R2 := Aside0.mk hr2; have C2 := Aside0.mk hc2; have HB2 := Aside0.mk hb; clear ho hc2 hr2 hb) | (go_at_call 18; refine (impl _ _ l _ R2.out C2.out HL.out HB.out).mono ?_; rintro e w' ⟨v3, rfl, hR3, hB3⟩; obtain ⟨A3, c3, e3, hc3, hr3⟩ := Kd.R_reads hR3; subst e3; have R3 := Aside0.mk hr3; have C3 := Aside0.mk hc3; have HB3 := Aside0.mk (below_step HB2.out hB3); clear hR3 hB3 hc3 hr3) | (go_at_call 19; refine (spec_Doubled.calls _ _ _ l (dbl l) _ (Kd.C_below HR.out HB3.out) HC.out HT.out).mono ?_; rintro e w' ⟨v4, rfl, hR4, hB4⟩; obtain ⟨A4, c4, e4, hc4, hr4⟩ := Kd.R_reads hR4; subst e4; have R4 := Aside0.mk hr4; have C4 := Aside0.mk hc4; have HB4 := Aside0.mk (below_step HB3.out hB4); have R3' := Aside0.mk (Kd.C_below R3.out hB4); clear hR4 hB4 hc4 hr4) | (go_at_call 12; refine (spec_SameBytes.calls _ _ _ (dbl l) _ _ (dbl l) true _ R3'.out C3.out R4.out C4.out HS.out).mono ?_; rintro e w' ⟨rfl, ⟨nd2, rfl⟩⟩))
  go_ret
  exact ⟨rfl, pw_below_drewN HB4.out _⟩

set_option maxHeartbeats 800000 in
set_option maxRecDepth 100000 in
theorem walk_big (A : Option Addr) (c : Nat) (l : List Int) (w : World) (h : 2147483647 < l.length) :
    Calls Try.prog 7 #[.slice A l.length c] w fun e w' => e = .returned (.bool true) ∧ Below w.heap.size w w' := by
  have d1 : decide (2147483647 < (l.length : Int)) = true := decide_eq_true (by omega)
  have d1' : decide (2147483647 < l.length) = true := decide_eq_true (by omega)
  clear h
  go_enter Try.func7, Try.ntmps7
  go_wp2
  go_ret
  exact ⟨rfl, Below.refl _ _⟩

set_option maxHeartbeats 800000 in
set_option maxRecDepth 100000 in
theorem walk_other (A : Option Addr) (c : Nat) (l : List Int) (w : World) (h : l.length ≤ 2147483647) (h2 : l.length ≠ 16) :
    Calls Try.prog 7 #[.slice A l.length c] w fun e w' => e = .returned (.bool true) ∧ Below w.heap.size w w' := by
  have d1 : decide (2147483647 < (l.length : Int)) = false := decide_eq_false (by omega)
  have d2 : ((l.length : Int) == 16) = false := by
    have : (l.length : Int) ≠ 16 := by omega
    simpa using this
  have d3 : ((l.length : Int) != 16) = true := by
    have : (l.length : Int) ≠ 16 := by omega
    simpa using this
  clear h h2
  go_enter Try.func7, Try.ntmps7
  go_wp2
  go_ret
  exact ⟨rfl, Below.refl _ _⟩

theorem law (A : Option Addr) (c : Nat) (l : List Int) (w : World) (hr : Kd.C (Kd.int .u8) w A l.length l) (hc : l.length ≤ c) (_hm : l.length ≤ maxLen) (hw : ∀ x ∈ l, (Lit.int .u8 x).wf = true) :
    Calls Try.prog 7 #[.slice A l.length c] w fun e w' => e = .returned (.bool true) ∧ Below w.heap.size w w' := by
  by_cases h0 : 2147483647 < l.length
  · exact walk_big A c l w h0
  by_cases h1 : l.length = 16
  · exact walk A c l w hr hc h1 (bytes_of hw)
  · exact walk_other A c l w (by omega) h1
end Go.Proofs.Ytnjbgmobobffmaa.Dbl
