-- PRINTED BY print.sh 35421559b90ae4d0a3588c463048766b98c2df88dd9212a6774a882060cdf62d: not written by this session
import Derived.Test.YtnjbgmobobffmaaPFnReasonx0
namespace Go.Proofs.Ytnjbgmobobffmaa.PFnReason
open Go.RowKit Go.Proofs.YtnjbgmobobffmaaW.PrintWords Go.Proofs.YtnjbgmobobffmaaW.PrintLast Go.Proofs.YtnjbgmobobffmaaW.PrintMore
attribute [local go_sem] max2_int min2_int max_two min_two max_three min_three max_four min_four   -- for this text's walks alone
set_option linter.unusedVariables false
set_option linter.unusedSimpArgs false

/-! ### packet_NewReasonForRevocation: function 22 -/
def packet_NewReasonForRevocation.f (a0 : Int) : Option (Int) := if a0 < 4 then (some a0) else (if a0 = 32 then (some a0) else (some 200))
set_option maxHeartbeats 8000000 in
set_option maxRecDepth 100000 in
theorem packet_NewReasonForRevocation.calls (a0 : Int) (r : Int) (w : World) (h : packet_NewReasonForRevocation.f a0 = some r) :
    Calls Try.prog 22 #[.int .u8 a0] w fun e w' => e = .returned (.int .u8 r) ∧ Drawn0 w w' := by
  have H : (if a0 < 4 then (some a0) else (if a0 = 32 then (some a0) else (some 200))) = some r := h
  clear h
  by_cases c2 : a0 < 4
  · rw [if_pos c2] at H
    have c2b0 : decide (a0 < 4) = true := decide_eq_true c2
    clear c2
    obtain rfl := Option.some.inj H
    go_enter Try.func22, Try.ntmps22
    go_wp2
    go_ret
    exact ⟨by first | rfl | (simp; done) | (simp [*]; done), by repeat (first | exact Drawn0.refl _ | apply Drawn0.step)⟩
  · rw [if_neg c2] at H
    have c2b0 : decide (a0 < 4) = false := decide_eq_false c2
    clear c2
    by_cases c3 : a0 = 32
    · rw [if_pos c3] at H
      have c3b0 : (a0 == 32) = true := beq_iff_eq.mpr c3
      have c3b1 : (a0 != 32) = false := bne_eq_false_iff_eq.mpr c3
      clear c3
      obtain rfl := Option.some.inj H
      go_enter Try.func22, Try.ntmps22
      go_wp2
      go_ret
      exact ⟨by first | rfl | (simp; done) | (simp [*]; done), by repeat (first | exact Drawn0.refl _ | apply Drawn0.step)⟩
    · rw [if_neg c3] at H
      have c3b0 : (a0 == 32) = false := beq_eq_false_iff_ne.mpr c3
      have c3b1 : (a0 != 32) = true := bne_iff_ne.mpr c3
      obtain rfl := Option.some.inj H
      go_enter Try.func22, Try.ntmps22
      go_wp2
      go_ret
      exact ⟨by first | rfl | (simp; done) | (simp [*]; done), by repeat (first | exact Drawn0.refl _ | apply Drawn0.step)⟩

/-! ### impl_Reason: function 9 -/
def impl_Reason.f (a0 : Int) : Option (Int) := (packet_NewReasonForRevocation.f a0).bind fun t101 => (some t101)
set_option maxHeartbeats 8000000 in
set_option maxRecDepth 100000 in
theorem impl_Reason.calls (a0 : Int) (r : Int) (w : World) (h : impl_Reason.f a0 = some r) :
    Calls Try.prog 9 #[.int .u8 a0] w fun e w' => e = .returned (.int .u8 r) ∧ Drawn0 w w' := by
  have H : ((packet_NewReasonForRevocation.f a0).bind fun t101 => (some t101)) = some r := h
  clear h
  replace H := Option.bind_eq_some_iff.mp H
  obtain ⟨t101, A20, H⟩ := H
  replace H : (some t101) = some r := H
  have A2 := Aside0.mk A20
  clear A20
  obtain rfl := Option.some.inj H
  go_enter Try.func9, Try.ntmps9
  go_wp2_with (first | ((with_reducible refine gate_callee (f := 22) rfl ?_); refine goesL_ (some 4) rfl rfl Try.func22 (by kernel_rfl) rfl #[.int .u8 a0] rfl (by (try simp only [List.map_toArray, List.map_cons, List.map_nil]); first | done | rfl | (simp only [List.length_drop, List.length_take]; rfl)) ?_; (with_reducible refine (packet_NewReasonForRevocation.calls a0 t101 _ A2.out).mono ?_); rintro e w' ⟨rfl, ⟨nd, rfl⟩⟩; refine ⟨_, rfl, ?_⟩))
  go_ret
  exact ⟨by first | rfl | (simp; done) | (simp [*]; done), by repeat (first | exact Drawn0.refl _ | apply Drawn0.step)⟩

/-! ### laws_FnReason: function 3 -/
def laws_FnReason.f (a0 : Int) : Option (Bool) := if a0 = 0 then ((impl_Reason.f a0).bind fun t102 => (some (t102 == a0))) else (if a0 = 1 then ((impl_Reason.f a0).bind fun t103 => (some (t103 == a0))) else (if a0 = 2 then ((impl_Reason.f a0).bind fun t104 => (some (t104 == a0))) else (if a0 = 3 then ((impl_Reason.f a0).bind fun t105 => (some (t105 == a0))) else (if a0 = 32 then ((impl_Reason.f a0).bind fun t106 => (some (t106 == a0))) else ((impl_Reason.f a0).bind fun t107 => (some (t107 == 200)))))))
set_option maxHeartbeats 8000000 in
set_option maxRecDepth 100000 in
theorem laws_FnReason.calls (a0 : Int) (r : Bool) (w : World) (h : laws_FnReason.f a0 = some r) :
    Calls Try.prog 3 #[.int .u8 a0] w fun e w' => e = .returned (.bool r) ∧ Drawn0 w w' := by
  have H : (if a0 = 0 then ((impl_Reason.f a0).bind fun t102 => (some (t102 == a0))) else (if a0 = 1 then ((impl_Reason.f a0).bind fun t103 => (some (t103 == a0))) else (if a0 = 2 then ((impl_Reason.f a0).bind fun t104 => (some (t104 == a0))) else (if a0 = 3 then ((impl_Reason.f a0).bind fun t105 => (some (t105 == a0))) else (if a0 = 32 then ((impl_Reason.f a0).bind fun t106 => (some (t106 == a0))) else ((impl_Reason.f a0).bind fun t107 => (some (t107 == 200)))))))) = some r := h
  clear h
  by_cases c2 : a0 = 0
  · rw [if_pos c2] at H
    have c2b0 : (a0 == 0) = true := beq_iff_eq.mpr c2
    have c2b1 : (a0 != 0) = false := bne_eq_false_iff_eq.mpr c2
    clear c2
    replace H := Option.bind_eq_some_iff.mp H
    obtain ⟨t102, A30, H⟩ := H
    replace H : (some (t102 == a0)) = some r := H
    have A3 := Aside0.mk A30
    clear A30
    obtain rfl := Option.some.inj H
    go_enter Try.func3, Try.ntmps3
    go_wp2_with (first | ((with_reducible refine gate_callee (f := 9) rfl ?_); refine goesL_ (some 13) rfl rfl Try.func9 (by kernel_rfl) rfl #[.int .u8 a0] rfl (by (try simp only [List.map_toArray, List.map_cons, List.map_nil]); first | done | rfl | (simp only [List.length_drop, List.length_take]; rfl)) ?_; (with_reducible refine (impl_Reason.calls a0 t102 _ A3.out).mono ?_); rintro e w' ⟨rfl, ⟨nd, rfl⟩⟩; refine ⟨_, rfl, ?_⟩))
    go_ret
    exact ⟨by first | rfl | (simp; done) | (simp [*]; done), by repeat (first | exact Drawn0.refl _ | apply Drawn0.step)⟩
  · rw [if_neg c2] at H
    have c2b0 : (a0 == 0) = false := beq_eq_false_iff_ne.mpr c2
    have c2b1 : (a0 != 0) = true := bne_iff_ne.mpr c2
    by_cases c4 : a0 = 1
    · rw [if_pos c4] at H
      have c4b0 : (a0 == 1) = true := beq_iff_eq.mpr c4
      have c4b1 : (a0 != 1) = false := bne_eq_false_iff_eq.mpr c4
      clear c4
      replace H := Option.bind_eq_some_iff.mp H
      obtain ⟨t103, A50, H⟩ := H
      replace H : (some (t103 == a0)) = some r := H
      have A5 := Aside0.mk A50
      clear A50
      obtain rfl := Option.some.inj H
      go_enter Try.func3, Try.ntmps3
      go_wp2_with (first | ((with_reducible refine gate_callee (f := 9) rfl ?_); refine goesL_ (some 13) rfl rfl Try.func9 (by kernel_rfl) rfl #[.int .u8 a0] rfl (by (try simp only [List.map_toArray, List.map_cons, List.map_nil]); first | done | rfl | (simp only [List.length_drop, List.length_take]; rfl)) ?_; (with_reducible refine (impl_Reason.calls a0 t103 _ A5.out).mono ?_); rintro e w' ⟨rfl, ⟨nd, rfl⟩⟩; refine ⟨_, rfl, ?_⟩))
      go_ret
      exact ⟨by first | rfl | (simp; done) | (simp [*]; done), by repeat (first | exact Drawn0.refl _ | apply Drawn0.step)⟩
    · rw [if_neg c4] at H
      have c4b0 : (a0 == 1) = false := beq_eq_false_iff_ne.mpr c4
      have c4b1 : (a0 != 1) = true := bne_iff_ne.mpr c4
      by_cases c6 : a0 = 2
      · rw [if_pos c6] at H
        have c6b0 : (a0 == 2) = true := beq_iff_eq.mpr c6
        have c6b1 : (a0 != 2) = false := bne_eq_false_iff_eq.mpr c6
        clear c6
        replace H := Option.bind_eq_some_iff.mp H
        obtain ⟨t104, A70, H⟩ := H
        replace H : (some (t104 == a0)) = some r := H
        have A7 := Aside0.mk A70
        clear A70
        obtain rfl := Option.some.inj H
        go_enter Try.func3, Try.ntmps3
        go_wp2_with (first | ((with_reducible refine gate_callee (f := 9) rfl ?_); refine goesL_ (some 13) rfl rfl Try.func9 (by kernel_rfl) rfl #[.int .u8 a0] rfl (by (try simp only [List.map_toArray, List.map_cons, List.map_nil]); first | done | rfl | (simp only [List.length_drop, List.length_take]; rfl)) ?_; (with_reducible refine (impl_Reason.calls a0 t104 _ A7.out).mono ?_); rintro e w' ⟨rfl, ⟨nd, rfl⟩⟩; refine ⟨_, rfl, ?_⟩))
        go_ret
        exact ⟨by first | rfl | (simp; done) | (simp [*]; done), by repeat (first | exact Drawn0.refl _ | apply Drawn0.step)⟩
      · rw [if_neg c6] at H
        have c6b0 : (a0 == 2) = false := beq_eq_false_iff_ne.mpr c6
        have c6b1 : (a0 != 2) = true := bne_iff_ne.mpr c6
        by_cases c8 : a0 = 3
        · rw [if_pos c8] at H
          have c8b0 : (a0 == 3) = true := beq_iff_eq.mpr c8
          have c8b1 : (a0 != 3) = false := bne_eq_false_iff_eq.mpr c8
          clear c8
          replace H := Option.bind_eq_some_iff.mp H
          obtain ⟨t105, A90, H⟩ := H
          replace H : (some (t105 == a0)) = some r := H
          have A9 := Aside0.mk A90
          clear A90
          obtain rfl := Option.some.inj H
          go_enter Try.func3, Try.ntmps3
          go_wp2_with (first | ((with_reducible refine gate_callee (f := 9) rfl ?_); refine goesL_ (some 13) rfl rfl Try.func9 (by kernel_rfl) rfl #[.int .u8 a0] rfl (by (try simp only [List.map_toArray, List.map_cons, List.map_nil]); first | done | rfl | (simp only [List.length_drop, List.length_take]; rfl)) ?_; (with_reducible refine (impl_Reason.calls a0 t105 _ A9.out).mono ?_); rintro e w' ⟨rfl, ⟨nd, rfl⟩⟩; refine ⟨_, rfl, ?_⟩))
          go_ret
          exact ⟨by first | rfl | (simp; done) | (simp [*]; done), by repeat (first | exact Drawn0.refl _ | apply Drawn0.step)⟩
        · rw [if_neg c8] at H
          have c8b0 : (a0 == 3) = false := beq_eq_false_iff_ne.mpr c8
          have c8b1 : (a0 != 3) = true := bne_iff_ne.mpr c8
          by_cases c10 : a0 = 32
          · rw [if_pos c10] at H
            have c10b0 : (a0 == 32) = true := beq_iff_eq.mpr c10
            have c10b1 : (a0 != 32) = false := bne_eq_false_iff_eq.mpr c10
            clear c10
            replace H := Option.bind_eq_some_iff.mp H
            obtain ⟨t106, A110, H⟩ := H
            replace H : (some (t106 == a0)) = some r := H
            have A11 := Aside0.mk A110
            clear A110
            obtain rfl := Option.some.inj H
            go_enter Try.func3, Try.ntmps3
            go_wp2_with (first | ((with_reducible refine gate_callee (f := 9) rfl ?_); refine goesL_ (some 13) rfl rfl Try.func9 (by kernel_rfl) rfl #[.int .u8 a0] rfl (by (try simp only [List.map_toArray, List.map_cons, List.map_nil]); first | done | rfl | (simp only [List.length_drop, List.length_take]; rfl)) ?_; (with_reducible refine (impl_Reason.calls a0 t106 _ A11.out).mono ?_); rintro e w' ⟨rfl, ⟨nd, rfl⟩⟩; refine ⟨_, rfl, ?_⟩))
            go_ret
            exact ⟨by first | rfl | (simp; done) | (simp [*]; done), by repeat (first | exact Drawn0.refl _ | apply Drawn0.step)⟩
          · rw [if_neg c10] at H
            have c10b0 : (a0 == 32) = false := beq_eq_false_iff_ne.mpr c10
            have c10b1 : (a0 != 32) = true := bne_iff_ne.mpr c10
            replace H := Option.bind_eq_some_iff.mp H
            obtain ⟨t107, A120, H⟩ := H
            replace H : (some (t107 == 200)) = some r := H
            have A12 := Aside0.mk A120
            clear A120
            obtain rfl := Option.some.inj H
            go_enter Try.func3, Try.ntmps3
            go_wp2_with (first | ((with_reducible refine gate_callee (f := 9) rfl ?_); refine goesL_ (some 13) rfl rfl Try.func9 (by kernel_rfl) rfl #[.int .u8 a0] rfl (by (try simp only [List.map_toArray, List.map_cons, List.map_nil]); first | done | rfl | (simp only [List.length_drop, List.length_take]; rfl)) ?_; (with_reducible refine (impl_Reason.calls a0 t107 _ A12.out).mono ?_); rintro e w' ⟨rfl, ⟨nd, rfl⟩⟩; refine ⟨_, rfl, ?_⟩))
            go_ret
            exact ⟨by first | rfl | (simp; done) | (simp [*]; done), by repeat (first | exact Drawn0.refl _ | apply Drawn0.step)⟩

/-- THE ONE PURE STATEMENT of laws_FnReason: yours. -/
def laws_FnReason.Pure : Prop := ∀ (a0 : Int), (Lit.int .u8 a0).wf = true → laws_FnReason.f a0 = some true
theorem laws_FnReason.walk (P : laws_FnReason.Pure) (a0 : Int) (w : World) (w0 : (Lit.int .u8 a0).wf = true) :
    Calls Try.prog 3 #[.int .u8 a0] w fun e w' => e = .returned (.bool true) ∧ Below w.heap.size w w' := by
  have h := P a0 w0
  refine (laws_FnReason.calls a0 true w h).mono ?_
  rintro e w' ⟨rfl, hd⟩
  exact ⟨rfl, hd.below⟩

end Go.Proofs.Ytnjbgmobobffmaa.PFnReason
