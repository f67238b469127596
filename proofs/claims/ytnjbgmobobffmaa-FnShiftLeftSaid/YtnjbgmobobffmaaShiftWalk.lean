/- The law on ShiftBytesLeft, walked through its calls. -/
import Derived.Test.YtnjbgmobobffmaaShiftPure
namespace Go.Proofs.Ytnjbgmobobffmaa.Shift
open Go.RowKit Go.Proofs.Ytnjbgmobobffmaa.PFnShiftLeft Go.Proofs.YtnjbgmobobffmaaW.PrintWords Go.Proofs.YtnjbgmobobffmaaW.PrintLast Go.Proofs.YtnjbgmobobffmaaW.PrintMore

theorem C_one {w : World} {A : Option Addr} {c : Nat} {l : List Int} (h : Kd.C (Kd.int .u8) w A l.length l) (hc : l.length ≤ c) (t : Nat) :
    Kd.C (Kd.slice 5 (Kd.int .u8)) (w.alloc (.cells #[.slice A l.length c] t)) (some ⟨w.heap.size, 0, none⟩) 1 [l] := by
  refine ⟨rfl, by decide, fun _ => ⟨_, rfl, fun j p hj => ?_⟩⟩
  match j, hj with
  | 0, hj =>
    obtain rfl : l = p := by simpa using hj
    refine ⟨[.slice A l.length c], rfl, ⟨A, c, rfl, hc, Kd.C_alloc h _⟩, fun i u hu => ?_⟩
    match i, hu with
    | 0, hu =>
      obtain rfl : Value.slice A l.length c = u := by simpa using hu
      simp [Addr.add]

theorem brief_yes {l : List Int} (h : l.length ≤ 4096) : laws_brief.f 2 [l] = some true := by
  have e : rd_L1 [l] 0 = l := rfl
  have w1 : wrap64 (0 + 1) = 1 := by unfold wrap64; omega
  unfold laws_brief.f
  simp only [laws_brief.l0, w1, e]
  rw [if_pos (by simp), if_pos (by decide), if_neg (by omega), if_neg (by simp)]
theorem brief_no {l : List Int} (h : 4096 < l.length) : laws_brief.f 1 [l] = some false := by
  have e : rd_L1 [l] 0 = l := rfl
  unfold laws_brief.f
  simp only [laws_brief.l0, e]
  rw [if_pos (by simp), if_pos (by decide), if_pos (by omega)]
theorem brief_calls {w : World} {A : Option Addr} {l : List Int} {b : Bool} (hb : ∃ k, laws_brief.f k [l] = some b) (h : Kd.C (Kd.slice 5 (Kd.int .u8)) w A 1 [l]) :
    Calls Try.prog 10 #[.slice A 1 1] w fun e w' => e = .returned (.bool b) ∧ Drawn0 w w' := by
  obtain ⟨k, hk⟩ := hb
  exact laws_brief.calls k A 1 [l] b w h (Nat.le_refl _) hk

set_option maxHeartbeats 800000 in
set_option maxRecDepth 100000 in
theorem walk (A : Option Addr) (c : Nat) (l : List Int) (w : World) (hr : Kd.C (Kd.int .u8) w A l.length l) (hc : l.length ≤ c) (h1 : 0 < l.length) (h2 : l.length ≤ 4096)
    (k1 k2 k3 : Nat) (s t : List Int) (hs : impl_ShiftLeft.f k1 l = some (s, true)) (ht : spec_Shifted.f k2 l 1 (l.length : Int) = some t) (hst : spec_SameBytes.f k3 s t = some true) :
    Calls Try.prog 4 #[.slice A l.length c] w fun e w' => e = .returned (.bool true) ∧ Below w.heap.size w w' := by
  have HR := Aside0.mk hr
  have HC := Aside0.mk hc
  have HS := Aside0.mk hs
  have HT := Aside0.mk ht
  have HST := Aside0.mk hst
  clear hr hc hs ht hst
  have d1 : decide (2147483647 < (l.length : Int)) = false := decide_eq_false (by omega)
  have d2 : ((l.length : Int) == 0) = false := by
    have : (l.length : Int) ≠ 0 := by omega
    simpa using this
  go_enter Try.func4, Try.ntmps4
  go_wp2_with fail
  refine (brief_calls ⟨2, brief_yes h2⟩ (C_one HR.out HC.out 24)).mono ?_
  rintro e w' ⟨rfl, ⟨nd, rfl⟩⟩
  go_wp2_with (first | ((with_reducible refine gate_dst (N := 18) rfl ?_); refine Kd.R_lit (Kd.int .u8) (w0 := w) w.heap.size 5 ?hg (N := 18) ?hd (xs := ([] : List Int)) (inner := []) (ok := fun _ => True) (okp := fun _ => True) ?hr ?hp (fun _ hk => hk) trivial ?hB ?hS (by simp) ?_; (case hd => rfl); (case hg => rfl); (case hr => first | (go_simp; done) | (go_simp; rfl)); (case hp => exact Reps.none _ _); (case hB => exact (by repeat (first | apply below_alloc | apply pw_below_drewN | exact Below.refl _ _))); (case hS => simp); intro v1 w1 O1 hb1 _ _; have O := Aside0.mk O1; have HB1 := Aside0.mk hb1; clear O1 hb1) | (at_builtin; refine Kd.R_append_rows (Kd.int .u8) (w0 := w) w.heap.size rfl (.tmp 18) (.tmp 19) 24 5 (.int .u8 0) 1 rfl Try.underlying24 info5 rfl (by decide) (by omega) v1 [] l _ _ _ (fun _ => True) (fun _ => False) rfl rfl ?aO ?aR (fun _ _ h => h) (fun _ h => h.elim) ?aF ?aB ?aS ?aL ?_; (case aR => exact Kd.C_below HR.out HB1.out); (case aB => exact HB1.out); (case aF => exact (fun _ _ => trivial)); (case aO => exact O.out); (case aS => exact below_size HB1.out); (case aL => simp; omega); intro v2 w2 ho hb _ _; rw [List.nil_append] at ho; obtain ⟨A2, c2, e2, hc2, hr2⟩ := Kd.R_reads ho; subst e2; have R2 := Aside0.mk hr2; have C2 := Aside0.mk hc2; have HB2 := Aside0.mk hb; clear ho hc2 hr2 hb) | (go_at_call 11; refine (impl_ShiftLeft.calls k1 _ _ l s true _ R2.out C2.out HS.out).mono ?_; rintro e w' ⟨v3, rfl, hR3, hB3⟩; obtain ⟨A3, c3, e3, hc3, hr3⟩ := Kd.R_reads hR3; subst e3; have R3 := Aside0.mk hr3; have C3 := Aside0.mk hc3; have HB3 := Aside0.mk (below_step HB2.out hB3); clear hR3 hB3 hc3 hr3) | (go_at_call 13; refine (spec_Shifted.calls k2 _ _ l 1 (l.length : Int) t _ (Kd.C_below HR.out HB3.out) HC.out HT.out).mono ?_; rintro e w' ⟨v4, rfl, hR4, hB4⟩; obtain ⟨A4, c4, e4, hc4, hr4⟩ := Kd.R_reads hR4; subst e4; have R4 := Aside0.mk hr4; have C4 := Aside0.mk hc4; have HB4 := Aside0.mk (below_step HB3.out hB4); have R3' := Aside0.mk (Kd.C_below R3.out hB4); clear hR4 hB4 hc4 hr4) | (go_at_call 12; refine (spec_SameBytes.calls k3 _ _ s _ _ t true _ R3'.out C3.out R4.out C4.out HST.out).mono ?_; rintro e w' ⟨rfl, ⟨nd2, rfl⟩⟩))
  go_ret
  exact ⟨rfl, pw_below_drewN HB4.out _⟩

set_option maxHeartbeats 800000 in
set_option maxRecDepth 100000 in
theorem walk_big (A : Option Addr) (c : Nat) (l : List Int) (w : World) (h : 2147483647 < l.length) :
    Calls Try.prog 4 #[.slice A l.length c] w fun e w' => e = .returned (.bool true) ∧ Below w.heap.size w w' := by
  have d1 : decide (2147483647 < (l.length : Int)) = true := decide_eq_true (by omega)
  have d1' : decide (2147483647 < l.length) = true := decide_eq_true (by omega)
  clear h
  go_enter Try.func4, Try.ntmps4
  go_wp2
  go_ret
  exact ⟨rfl, Below.refl _ _⟩

set_option maxHeartbeats 800000 in
set_option maxRecDepth 100000 in
theorem walk_none (A : Option Addr) (c : Nat) (w : World) :
    Calls Try.prog 4 #[.slice A 0 c] w fun e w' => e = .returned (.bool true) ∧ Below w.heap.size w w' := by
  go_enter Try.func4, Try.ntmps4
  go_wp2
  go_ret
  exact ⟨rfl, Below.refl _ _⟩

set_option maxHeartbeats 800000 in
set_option maxRecDepth 100000 in
theorem walk_long (A : Option Addr) (c : Nat) (l : List Int) (w : World) (hr : Kd.C (Kd.int .u8) w A l.length l) (hc : l.length ≤ c) (h1 : l.length ≤ 2147483647) (h2 : 4096 < l.length) :
    Calls Try.prog 4 #[.slice A l.length c] w fun e w' => e = .returned (.bool true) ∧ Below w.heap.size w w' := by
  have HR := Aside0.mk hr
  have HC := Aside0.mk hc
  clear hr hc
  have d1 : decide (2147483647 < (l.length : Int)) = false := decide_eq_false (by omega)
  have d2 : ((l.length : Int) == 0) = false := by
    have : (l.length : Int) ≠ 0 := by omega
    simpa using this
  go_enter Try.func4, Try.ntmps4
  go_wp2_with fail
  refine (brief_calls ⟨1, brief_no h2⟩ (C_one HR.out HC.out 24)).mono ?_
  rintro e w' ⟨rfl, ⟨nd, rfl⟩⟩
  go_wp2_with fail
  go_ret
  exact ⟨rfl, by repeat (first | apply below_alloc | apply pw_below_drewN | exact Below.refl _ _)⟩

theorem law (A : Option Addr) (c : Nat) (l : List Int) (w : World) (hr : Kd.C (Kd.int .u8) w A l.length l) (hc : l.length ≤ c) (_hm : l.length ≤ maxLen) (hw : ∀ x ∈ l, (Lit.int .u8 x).wf = true) :
    Calls Try.prog 4 #[.slice A l.length c] w fun e w' => e = .returned (.bool true) ∧ Below w.heap.size w w' := by
  by_cases h0 : 2147483647 < l.length
  · exact walk_big A c l w h0
  by_cases h1 : l.length = 0
  · rw [h1]; exact walk_none A c w
  by_cases h2 : 4096 < l.length
  · exact walk_long A c l w hr hc (by omega) h2
  have hb := bytes_of hw
  have hs := same_refl (sh l) (by rw [sh_length]; omega)
  exact walk A c l w hr hc (by omega) (by omega) _ _ _ (sh l) (sh l) (impl_some l hb (by omega) (by omega)) (shifted_some l hb (by omega)) hs
end Go.Proofs.Ytnjbgmobobffmaa.Shift
