-- PRINTED BY print.sh 35421559b90ae4d0a3588c463048766b98c2df88dd9212a6774a882060cdf62d: not written by this session
import Derived.Test.YtjdnnpfhlkgooaaDoorPFnBodyReadsx0
namespace Go.Proofs.YtjdnnpfhlkgooaaDoor.PFnBodyReads
open Go.RowKit Go.Proofs.YtjdnnpfhlkgooaaDoorW.PrintWords Go.Proofs.YtjdnnpfhlkgooaaDoorW.PrintLast Go.Proofs.YtjdnnpfhlkgooaaDoorW.PrintMore
attribute [local go_sem] max2_int min2_int max_two min_two max_three min_three max_four min_four   -- for this text's walks alone
set_option linter.unusedVariables false
set_option linter.unusedSimpArgs false

/-! ### spec_Number: function 53 -/
def spec_Number.l0 : Nat → Int → List Int → Int → Int → Option (Int)
  | 0, _, _, _, _ => none
  | k + 1, x3, x6, x7, x8 => if x8 < x7 then (if 0 ≤ x8 then (if x8 < (x6.length : Int) then (spec_Number.l0 k (Go.bits .or .i64 (wrap64 (x3 * 256)) (wrap64 (rd x6 x8))) x6 x7 (wrap64 (x8 + 1))) else (none)) else (none)) else (some x3)
def spec_Number.f (k : Nat) (l0 : List Int) : Option (Int) := spec_Number.l0 k 0 l0 (l0.length : Int) 0
theorem spec_Number.mono_l : ∀ k, (∀ y0 y1 y2 y3, LeO (spec_Number.l0 k y0 y1 y2 y3) (spec_Number.l0 (k + 1) y0 y1 y2 y3))
  | 0 => fun _ _ _ _ r h => by simp [spec_Number.l0] at h
  | k + 1 => by
    have ih0 := spec_Number.mono_l k
    · intro y0 y1 y2 y3
      unfold spec_Number.l0
      repeat' first
      | (with_reducible exact ih0 _ _ _ _)
      | (with_reducible exact LeO.refl _)
      | (with_reducible exact LeO.none _)
      | (with_reducible refine LeO.ite ?_ ?_)
      | (with_reducible refine LeO.bind ?_ (fun _ => ?_))
      | exact ih0 _ _ _ _
      | exact LeO.none _
      | refine LeO.ite ?_ ?_
      | refine LeO.bind ?_ (fun _ => ?_)
theorem spec_Number.mono : ∀ a0 k, LeO (spec_Number.f k a0) (spec_Number.f (k + 1) a0) := by
  intro a0 k
  have ih0 := spec_Number.mono_l k
  unfold spec_Number.f
  repeat' first
      | (with_reducible exact ih0 _ _ _ _)
      | (with_reducible exact LeO.refl _)
      | (with_reducible exact LeO.none _)
      | (with_reducible refine LeO.ite ?_ ?_)
      | (with_reducible refine LeO.bind ?_ (fun _ => ?_))
      | exact ih0 _ _ _ _
      | exact LeO.none _
      | refine LeO.ite ?_ ?_
      | refine LeO.bind ?_ (fun _ => ?_)
set_option maxHeartbeats 8000000 in
set_option maxRecDepth 100000 in
theorem spec_Number.calls (k : Nat) (A0 : Option Addr) (c0 : Nat) (l0 : List Int) (r : Int) (w : World) (hr0 : Kd.C (Kd.int .u8) w A0 l0.length l0) (hc0 : l0.length ≤ c0) (h : spec_Number.f k l0 = some r) :
    Calls Tryd.prog 53 #[.slice A0 l0.length c0] w fun e w' => e = .returned (.int .i64 r) ∧ Drawn0 w w' := by
  have HR0 := Aside0.mk hr0
  have HC0 := Aside0.mk hc0
  clear hr0 hc0
  have H : (spec_Number.l0 k 0 l0 (l0.length : Int) 0) = some r := h
  clear h
  have H' := Aside0.mk H
  clear H
  go_enter Tryd.func53, Tryd.ntmps53
  go_wp2
  go_loopg [3, 8] k (fun kq v3 v8 w' => ∃ (x3_1 : Int) (x8_1 : Int), v3 = .int .i64 x3_1 ∧ v8 = .int .i64 x8_1 ∧ Aside0 (spec_Number.l0 kq x3_1 l0 (l0.length : Int) x8_1 = some r) ∧ Aside0 (kq ≤ k) ∧ Drawn0 w w')
  case atStart => exact ⟨(0), (0), (by first | rfl | (simp; done) | (simp [*]; done)), (by first | rfl | (simp; done) | (simp [*]; done)), H', ⟨Nat.le_refl _⟩, by repeat (first | exact Drawn0.refl _ | apply Drawn0.step)⟩
  case round =>
    clear H'
    obtain ⟨x3_1, x8_1, rfl, rfl, HA, HK1, ⟨m1, rfl⟩⟩ := hrel
    cases gk with
    | zero => exact absurd HA.out (by simp [spec_Number.l0])
    | succ k1 =>
      have H := HA.out
      clear HA
      simp only [spec_Number.l0] at H
      by_cases c2 : x8_1 < (l0.length : Int)
      · rw [if_pos c2] at H
        have c2b0 : decide (x8_1 < (l0.length : Int)) = true := decide_eq_true c2
        clear c2
        by_cases c3 : 0 ≤ x8_1
        · rw [if_pos c3] at H
          have c3b0 : decide (0 ≤ x8_1) = true := decide_eq_true c3
          clear c3
          by_cases c4 : x8_1 < (l0.length : Int)
          · rw [if_pos c4] at H
            have c4b0 : decide (x8_1 < (l0.length : Int)) = true := decide_eq_true c4
            clear c4
            have H' := Aside0.mk H
            clear H
            have p101 : 0 ≤ (x8_1 : Int) := of_decide_eq_true (by first | (with_reducible assumption) | assumption)
            have q101 : x8_1 < (l0.length : Int) := of_decide_eq_true (by first | (with_reducible assumption) | assumption)
            obtain ⟨ad101, e101, hx101_0⟩ := Kd.at_int HR0.out x8_1 p101 q101
            cases e101
            replace p101 := eq_true p101
            replace q101 := eq_true q101
            go_wp2
            go_roundg k1
            case measure => have := HK1.out; omega
            case rel => exact ⟨(Go.bits .or .i64 (wrap64 (x3_1 * 256)) (wrap64 (rd l0 x8_1))), (wrap64 (x8_1 + 1)), (by first | rfl | (simp; done) | (simp [*]; done)), (by first | rfl | (simp; done) | (simp [*]; done)), H', ⟨by have := HK1.out; omega⟩, by repeat (first | exact Drawn0.refl _ | apply Drawn0.step)⟩
          · rw [if_neg c4] at H
            exact absurd H (by simp)
        · rw [if_neg c3] at H
          exact absurd H (by simp)
      · rw [if_neg c2] at H
        have c2b0 : decide (x8_1 < (l0.length : Int)) = false := decide_eq_false c2
        clear c2
        obtain rfl := Option.some.inj H
        go_wp2
        go_ret
        exact ⟨by first | rfl | (simp; done) | (simp [*]; done), by repeat (first | exact Drawn0.refl _ | apply Drawn0.step)⟩

/-! ### spec_ReadLength: function 35 -/
def spec_ReadLength.f (k : Nat) (l0 : List Int) : Option (Int × Bool × Int × Int) := if (l0.length : Int) = 0 then (some (0, false, 0, 1)) else (if 0 < (l0.length : Int) then (if (wrap64 (rd l0 0)) < 192 then (some (wrap64 (rd l0 0), false, 1, 0)) else (if (wrap64 (rd l0 0)) < 224 then (if (l0.length : Int) < 2 then (some (0, false, 0, 1)) else (if 1 < (l0.length : Int) then (some (wrap64 ((wrap64 ((wrap64 ((wrap64 ((wrap64 (rd l0 0)) - 192)) * 256)) + (wrap64 (rd l0 1)))) + 192), false, 2, 0)) else (none))) else (if (wrap64 (rd l0 0)) < 255 then (if 0 ≤ (Go.bits .and .i64 (wrap64 (rd l0 0)) 31) then (some (shl .i64 1 (Go.bits .and .i64 (wrap64 (rd l0 0)) 31), true, 1, 0)) else (none)) else (if (l0.length : Int) < 5 then (some (0, false, 0, 1)) else (if 1 ≤ 5 then (if 5 ≤ (l0.length : Int) then ((spec_Number.f k ((l0.take 5).drop 1)).bind fun t105 => (some (t105, false, 5, 0))) else (none)) else (none)))))) else (none))
theorem spec_ReadLength.mono : ∀ a0 k, LeO (spec_ReadLength.f k a0) (spec_ReadLength.f (k + 1) a0) := by
  intro a0 k
  unfold spec_ReadLength.f
  repeat' first
      | (with_reducible exact spec_Number.mono _ _)
      | (with_reducible exact LeO.refl _)
      | (with_reducible exact LeO.none _)
      | (with_reducible refine LeO.ite ?_ ?_)
      | (with_reducible refine LeO.bind ?_ (fun _ => ?_))
      | exact spec_Number.mono _ _
      | exact LeO.none _
      | refine LeO.ite ?_ ?_
      | refine LeO.bind ?_ (fun _ => ?_)
set_option maxHeartbeats 8000000 in
set_option maxRecDepth 100000 in
theorem spec_ReadLength.calls (k : Nat) (A0 : Option Addr) (c0 : Nat) (l0 : List Int) (r1 : Int) (r2 : Bool) (r3 : Int) (r4 : Int) (w : World) (hr0 : Kd.C (Kd.int .u8) w A0 l0.length l0) (hc0 : l0.length ≤ c0) (h : spec_ReadLength.f k l0 = some (r1, r2, r3, r4)) :
    Calls Tryd.prog 35 #[.slice A0 l0.length c0] w fun e w' => e = .returned (.tuple #[.int .i64 r1, .bool r2, .int .i64 r3, .int .i64 r4]) ∧ Drawn0 w w' := by
  have HR0 := Aside0.mk hr0
  have HC0 := Aside0.mk hc0
  clear hr0 hc0
  have H : (if (l0.length : Int) = 0 then (some (0, false, 0, 1)) else (if 0 < (l0.length : Int) then (if (wrap64 (rd l0 0)) < 192 then (some (wrap64 (rd l0 0), false, 1, 0)) else (if (wrap64 (rd l0 0)) < 224 then (if (l0.length : Int) < 2 then (some (0, false, 0, 1)) else (if 1 < (l0.length : Int) then (some (wrap64 ((wrap64 ((wrap64 ((wrap64 ((wrap64 (rd l0 0)) - 192)) * 256)) + (wrap64 (rd l0 1)))) + 192), false, 2, 0)) else (none))) else (if (wrap64 (rd l0 0)) < 255 then (if 0 ≤ (Go.bits .and .i64 (wrap64 (rd l0 0)) 31) then (some (shl .i64 1 (Go.bits .and .i64 (wrap64 (rd l0 0)) 31), true, 1, 0)) else (none)) else (if (l0.length : Int) < 5 then (some (0, false, 0, 1)) else (if 1 ≤ 5 then (if 5 ≤ (l0.length : Int) then ((spec_Number.f k ((l0.take 5).drop 1)).bind fun t105 => (some (t105, false, 5, 0))) else (none)) else (none)))))) else (none))) = some (r1, r2, r3, r4) := h
  clear h
  by_cases c2 : (l0.length : Int) = 0
  · rw [if_pos c2] at H
    have c2b0 : ((l0.length : Int) == 0) = true := beq_iff_eq.mpr c2
    have c2b1 : ((l0.length : Int) != 0) = false := bne_eq_false_iff_eq.mpr c2
    clear c2
    simp only [Option.some.injEq, Prod.mk.injEq] at H
    obtain ⟨rfl, rfl, rfl, rfl⟩ := H
    go_enter Tryd.func35, Tryd.ntmps35
    go_wp2
    refine bodyPost_ret (results_list (rs := [.tmp 2, .tmp 3, .tmp 4, .tmp 5]) rfl (by simp) (.tmp (.tmp (.tmp (.tmp .nil))))) rfl ?_
    exact ⟨by first | rfl | (simp; done) | (simp [*]; done), by repeat (first | exact Drawn0.refl _ | apply Drawn0.step)⟩
  · rw [if_neg c2] at H
    have c2b0 : ((l0.length : Int) == 0) = false := beq_eq_false_iff_ne.mpr c2
    have c2b1 : ((l0.length : Int) != 0) = true := bne_iff_ne.mpr c2
    have c2b2 : ¬ (l0 = []) := fun h_ => c2 (by rw [h_]; rfl)
    by_cases c3 : 0 < (l0.length : Int)
    · rw [if_pos c3] at H
      have c3b0 : decide (0 < (l0.length : Int)) = true := decide_eq_true c3
      have c3b1 : decide (0 < l0.length) = true := decide_eq_true (by omega)
      clear c3
      by_cases c4 : (wrap64 (rd l0 0)) < 192
      · rw [if_pos c4] at H
        have c4b0 : decide ((wrap64 (rd l0 0)) < 192) = true := decide_eq_true c4
        clear c4
        simp only [Option.some.injEq, Prod.mk.injEq] at H
        obtain ⟨rfl, rfl, rfl, rfl⟩ := H
        have p102 : 0 ≤ (0 : Int) := (by omega)
        have q102 : 0 < (l0.length : Int) := of_decide_eq_true (by first | (with_reducible assumption) | assumption)
        obtain ⟨ad102, e102, hx102_0⟩ := Kd.at_int HR0.out 0 p102 q102
        cases e102
        have qi102 : (0 < l0.length) = True := eq_true (by omega)
        (try rw [show ((0 : Int)).toNat = 0 from rfl] at hx102_0)
        (try rw [Addr.add_zero'] at hx102_0)
        replace p102 := eq_true p102
        replace q102 := eq_true q102
        go_enter Tryd.func35, Tryd.ntmps35
        go_wp2
        refine bodyPost_ret (results_list (rs := [.tmp 2, .tmp 3, .tmp 4, .tmp 5]) rfl (by simp) (.tmp (.tmp (.tmp (.tmp .nil))))) rfl ?_
        exact ⟨by first | rfl | (simp; done) | (simp [*]; done), by repeat (first | exact Drawn0.refl _ | apply Drawn0.step)⟩
      · rw [if_neg c4] at H
        have c4b0 : decide ((wrap64 (rd l0 0)) < 192) = false := decide_eq_false c4
        clear c4
        by_cases c5 : (wrap64 (rd l0 0)) < 224
        · rw [if_pos c5] at H
          have c5b0 : decide ((wrap64 (rd l0 0)) < 224) = true := decide_eq_true c5
          clear c5
          by_cases c6 : (l0.length : Int) < 2
          · rw [if_pos c6] at H
            have c6b0 : decide ((l0.length : Int) < 2) = true := decide_eq_true c6
            have c6b1 : decide (l0.length < 2) = true := decide_eq_true (by omega)
            clear c6
            simp only [Option.some.injEq, Prod.mk.injEq] at H
            obtain ⟨rfl, rfl, rfl, rfl⟩ := H
            have p102 : 0 ≤ (0 : Int) := (by omega)
            have q102 : 0 < (l0.length : Int) := of_decide_eq_true (by first | (with_reducible assumption) | assumption)
            obtain ⟨ad102, e102, hx102_0⟩ := Kd.at_int HR0.out 0 p102 q102
            cases e102
            have qi102 : (0 < l0.length) = True := eq_true (by omega)
            (try rw [show ((0 : Int)).toNat = 0 from rfl] at hx102_0)
            (try rw [Addr.add_zero'] at hx102_0)
            replace p102 := eq_true p102
            replace q102 := eq_true q102
            go_enter Tryd.func35, Tryd.ntmps35
            go_wp2
            refine bodyPost_ret (results_list (rs := [.tmp 2, .tmp 3, .tmp 4, .tmp 5]) rfl (by simp) (.tmp (.tmp (.tmp (.tmp .nil))))) rfl ?_
            exact ⟨by first | rfl | (simp; done) | (simp [*]; done), by repeat (first | exact Drawn0.refl _ | apply Drawn0.step)⟩
          · rw [if_neg c6] at H
            have c6b0 : decide ((l0.length : Int) < 2) = false := decide_eq_false c6
            have c6b1 : decide (l0.length < 2) = false := decide_eq_false (by omega)
            clear c6
            by_cases c7 : 1 < (l0.length : Int)
            · rw [if_pos c7] at H
              have c7b0 : decide (1 < (l0.length : Int)) = true := decide_eq_true c7
              have c7b1 : decide (1 < l0.length) = true := decide_eq_true (by omega)
              clear c7
              simp only [Option.some.injEq, Prod.mk.injEq] at H
              obtain ⟨rfl, rfl, rfl, rfl⟩ := H
              have p102 : 0 ≤ (0 : Int) := (by omega)
              have q102 : 0 < (l0.length : Int) := of_decide_eq_true (by first | (with_reducible assumption) | assumption)
              obtain ⟨ad102, e102, hx102_0⟩ := Kd.at_int HR0.out 0 p102 q102
              cases e102
              have qi102 : (0 < l0.length) = True := eq_true (by omega)
              (try rw [show ((0 : Int)).toNat = 0 from rfl] at hx102_0)
              (try rw [Addr.add_zero'] at hx102_0)
              replace p102 := eq_true p102
              replace q102 := eq_true q102
              have p103 : 0 ≤ (1 : Int) := (by omega)
              have q103 : 1 < (l0.length : Int) := of_decide_eq_true (by first | (with_reducible assumption) | assumption)
              obtain ⟨ad103, e103, hx103_0⟩ := Kd.at_int HR0.out 1 p103 q103
              obtain rfl : ad102 = ad103 := (by injection e103)
              (try simp only [show (1 : Int).toNat = 1 from rfl, Nat.reduceMul, Nat.reduceEqDiff, Go.Addr.add, ↓reduceIte] at hx103_0)
              have qi103 : (1 < l0.length) = True := eq_true (by omega)
              (try rw [show ((1 : Int)).toNat = 1 from rfl] at hx103_0)
              replace p103 := eq_true p103
              replace q103 := eq_true q103
              go_enter Tryd.func35, Tryd.ntmps35
              go_wp2
              refine bodyPost_ret (results_list (rs := [.tmp 2, .tmp 3, .tmp 4, .tmp 5]) rfl (by simp) (.tmp (.tmp (.tmp (.tmp .nil))))) rfl ?_
              exact ⟨by first | rfl | (simp; done) | (simp [*]; done), by repeat (first | exact Drawn0.refl _ | apply Drawn0.step)⟩
            · rw [if_neg c7] at H
              exact absurd H (by simp)
        · rw [if_neg c5] at H
          have c5b0 : decide ((wrap64 (rd l0 0)) < 224) = false := decide_eq_false c5
          clear c5
          by_cases c8 : (wrap64 (rd l0 0)) < 255
          · rw [if_pos c8] at H
            have c8b0 : decide ((wrap64 (rd l0 0)) < 255) = true := decide_eq_true c8
            clear c8
            obtain ⟨ji9, hji9⟩ : ∃ j_ : Int, (Go.bits .and .i64 (wrap64 (rd l0 0)) 31) = j_ := ⟨_, rfl⟩
            replace H : (if 0 ≤ (ji9) then (some (shl .i64 1 (ji9), true, 1, 0)) else (none)) = some (r1, r2, r3, r4) := by first | (rw [hji9] at H; exact H) | (simp only [hji9] at H ⊢; exact H)
            by_cases c10 : 0 ≤ (ji9)
            · rw [if_pos c10] at H
              have c10b0 := eq_true c10
              have c10b1 : decide (0 ≤ (ji9)) = true := decide_eq_true c10
              clear c10
              obtain ⟨ji11, hji11⟩ : ∃ j_ : Int, (shl .i64 1 (ji9)) = j_ := ⟨_, rfl⟩
              replace H : (some (ji11, true, 1, 0)) = some (r1, r2, r3, r4) := by first | (rw [hji11] at H; exact H) | (simp only [hji11] at H ⊢; exact H)
              have hji11_ : (IntKind.i64.wrap (1 * 2 ^ min (ji9).toNat 64)) = ji11 := hji11
              have hji11z : (ji9) ≤ 64 → (IntKind.i64.wrap (1 * 2 ^ (ji9).toNat)) = ji11 := shl_small hji11
              have hji11u : (IntKind.i64.wrap (2 ^ min (ji9).toNat 64)) = ji11 := by have h_ := hji11_; rw [Int.one_mul] at h_; exact h_
              have hji11v : (ji9) ≤ 64 → (IntKind.i64.wrap (2 ^ (ji9).toNat)) = ji11 := fun hle_ => by have h_ := hji11z hle_; rw [Int.one_mul] at h_; exact h_
              have hji11y : (wrap64 (1 * 2 ^ min (ji9).toNat 64)) = ji11 := (i64_w _).symm.trans hji11_
              have hji11x : (ji9) ≤ 64 → (wrap64 (1 * 2 ^ (ji9).toNat)) = ji11 := fun h_ => (i64_w _).symm.trans (hji11z h_)
              simp only [Option.some.injEq, Prod.mk.injEq] at H
              obtain ⟨rfl, rfl, rfl, rfl⟩ := H
              have p102 : 0 ≤ (0 : Int) := (by omega)
              have q102 : 0 < (l0.length : Int) := of_decide_eq_true (by first | (with_reducible assumption) | assumption)
              obtain ⟨ad102, e102, hx102_0⟩ := Kd.at_int HR0.out 0 p102 q102
              cases e102
              have qi102 : (0 < l0.length) = True := eq_true (by omega)
              (try rw [show ((0 : Int)).toNat = 0 from rfl] at hx102_0)
              (try rw [Addr.add_zero'] at hx102_0)
              replace p102 := eq_true p102
              replace q102 := eq_true q102
              go_enter Tryd.func35, Tryd.ntmps35
              go_wp2
              refine bodyPost_ret (results_list (rs := [.tmp 2, .tmp 3, .tmp 4, .tmp 5]) rfl (by simp) (.tmp (.tmp (.tmp (.tmp .nil))))) rfl ?_
              exact ⟨by first | rfl | (simp; done) | (simp only [← hji9, ← hji11] <;> (first | rfl | simp)) | (simp [*]; done), by repeat (first | exact Drawn0.refl _ | apply Drawn0.step)⟩
            · rw [if_neg c10] at H
              exact absurd H (by simp)
          · rw [if_neg c8] at H
            have c8b0 : decide ((wrap64 (rd l0 0)) < 255) = false := decide_eq_false c8
            clear c8
            by_cases c12 : (l0.length : Int) < 5
            · rw [if_pos c12] at H
              have c12b0 : decide ((l0.length : Int) < 5) = true := decide_eq_true c12
              have c12b1 : decide (l0.length < 5) = true := decide_eq_true (by omega)
              clear c12
              simp only [Option.some.injEq, Prod.mk.injEq] at H
              obtain ⟨rfl, rfl, rfl, rfl⟩ := H
              have p102 : 0 ≤ (0 : Int) := (by omega)
              have q102 : 0 < (l0.length : Int) := of_decide_eq_true (by first | (with_reducible assumption) | assumption)
              obtain ⟨ad102, e102, hx102_0⟩ := Kd.at_int HR0.out 0 p102 q102
              cases e102
              have qi102 : (0 < l0.length) = True := eq_true (by omega)
              (try rw [show ((0 : Int)).toNat = 0 from rfl] at hx102_0)
              (try rw [Addr.add_zero'] at hx102_0)
              replace p102 := eq_true p102
              replace q102 := eq_true q102
              go_enter Tryd.func35, Tryd.ntmps35
              go_wp2
              refine bodyPost_ret (results_list (rs := [.tmp 2, .tmp 3, .tmp 4, .tmp 5]) rfl (by simp) (.tmp (.tmp (.tmp (.tmp .nil))))) rfl ?_
              exact ⟨by first | rfl | (simp; done) | (simp [*]; done), by repeat (first | exact Drawn0.refl _ | apply Drawn0.step)⟩
            · rw [if_neg c12] at H
              have c12b0 : decide ((l0.length : Int) < 5) = false := decide_eq_false c12
              have c12b1 : decide (l0.length < 5) = false := decide_eq_false (by omega)
              clear c12
              by_cases c13 : 1 ≤ 5
              · rw [if_pos c13] at H
                have c13b0 := eq_true c13
                have c13b1 : decide (1 ≤ 5) = true := decide_eq_true c13
                clear c13
                by_cases c14 : 5 ≤ (l0.length : Int)
                · rw [if_pos c14] at H
                  have c14b0 := eq_true c14
                  have c14b1 : decide (5 ≤ (l0.length : Int)) = true := decide_eq_true c14
                  clear c14
                  replace H := Option.bind_eq_some_iff.mp H
                  obtain ⟨t105, A150, H⟩ := H
                  replace H : (some (t105, false, 5, 0)) = some (r1, r2, r3, r4) := H
                  have A15 := Aside0.mk A150
                  clear A150
                  simp only [Option.some.injEq, Prod.mk.injEq] at H
                  obtain ⟨rfl, rfl, rfl, rfl⟩ := H
                  have p102 : 0 ≤ (0 : Int) := (by omega)
                  have q102 : 0 < (l0.length : Int) := of_decide_eq_true (by first | (with_reducible assumption) | assumption)
                  obtain ⟨ad102, e102, hx102_0⟩ := Kd.at_int HR0.out 0 p102 q102
                  cases e102
                  have qi102 : (0 < l0.length) = True := eq_true (by omega)
                  (try rw [show ((0 : Int)).toNat = 0 from rfl] at hx102_0)
                  (try rw [Addr.add_zero'] at hx102_0)
                  replace p102 := eq_true p102
                  replace q102 := eq_true q102
                  obtain ⟨i016, hi016, _, hsz16, _⟩ := info_parts info5
                  obtain ⟨A16, hcut16, hA16, hC16⟩ := print_mid_of (P := Tryd.prog) (Value.int .u8) 0 22 5 .i64 .i64 Tryd.underlying22 hi016 hsz16 (some ad102) c0 l0 1 5 (by omega) (by first | omega | exact of_decide_eq_true (by first | (with_reducible assumption) | assumption)) (of_decide_eq_true (by first | (with_reducible assumption) | assumption)) HC0.out
                  have HR104 := Aside0.mk (Kd.C_of_reads (h1 := fun _ => rfl) (hA16 _ (Kd.reads_of_C HR0.out)))
                  have HC104 := Aside0.mk hC16
                  clear hA16 hC16 hi016 hsz16
                  go_enter Tryd.func35, Tryd.ntmps35
                  go_wp2_with (first | ((with_reducible refine gate_callee (f := 53) rfl ?_); refine goesL_ (some 44) rfl rfl Tryd.func53 (by kernel_rfl) rfl #[.slice A16 ((l0.take 5).drop 1).length (c0 - 1)] rfl (by (try simp only [List.map_toArray, List.map_cons, List.map_nil]); first | done | (rw [show ((l0.take 5).drop 1).length = (5 - 1) from (by rw [List.length_drop, List.length_take]; have h_ : (5 : Int) ≤ (l0.length : Int) := of_decide_eq_true (by first | (with_reducible assumption) | assumption); omega)] <;> rfl) | rfl | (simp only [List.length_drop, List.length_take]; rfl)) ?_; (with_reducible refine (spec_Number.calls k _ _ ((l0.take 5).drop 1) t105 _ ?side1 ?side2 A15.out).mono ?_); (case side1 => repeat (first | exact HR104.out | (with_reducible refine Kd.C_alloc ?_ _) | (with_reducible refine Kd.C_drewN ?_ _) | (with_reducible refine Kd.C_drew ?_))); (case side2 => exact HC104.out); rintro e w' ⟨rfl, ⟨nd, rfl⟩⟩; refine ⟨_, rfl, ?_⟩))
                  refine bodyPost_ret (results_list (rs := [.tmp 2, .tmp 3, .tmp 4, .tmp 5]) rfl (by simp) (.tmp (.tmp (.tmp (.tmp .nil))))) rfl ?_
                  exact ⟨by first | rfl | (simp; done) | (simp [*]; done), by repeat (first | exact Drawn0.refl _ | apply Drawn0.step)⟩
                · rw [if_neg c14] at H
                  exact absurd H (by simp)
              · rw [if_neg c13] at H
                exact absurd H (by simp)
    · rw [if_neg c3] at H
      exact absurd H (by simp)

/-! ### spec_ReadHead: function 34 -/
def spec_ReadHead.f (k : Nat) (l0 : List Int) : Option (Int × Bool × Int × Bool × Int × Int) := if (l0.length : Int) = 0 then (some (0, false, 0, false, 0, 1)) else (if 0 < (l0.length : Int) then (if (Go.bits .and .i64 (wrap64 (rd l0 0)) 128) = 0 then (some (0, false, 0, false, 0, 2)) else (if (Go.bits .and .i64 (wrap64 (rd l0 0)) 64) = 0 then (if (Go.bits .and .i64 (wrap64 (rd l0 0)) 3) = 3 then (some (Go.bits .and .i64 ((wrap64 (rd l0 0)) / 4) 15, true, (-1), false, 1, 0)) else (if 0 ≤ (Go.bits .and .i64 (wrap64 (rd l0 0)) 3) then (if (l0.length : Int) < (wrap64 (1 + (shl .i64 1 (Go.bits .and .i64 (wrap64 (rd l0 0)) 3)))) then (some (0, false, 0, false, 0, 1)) else (if 1 ≤ (wrap64 (1 + (shl .i64 1 (Go.bits .and .i64 (wrap64 (rd l0 0)) 3)))) then (if (wrap64 (1 + (shl .i64 1 (Go.bits .and .i64 (wrap64 (rd l0 0)) 3)))) ≤ (l0.length : Int) then ((spec_Number.f k ((l0.take ((wrap64 (1 + (shl .i64 1 (Go.bits .and .i64 (wrap64 (rd l0 0)) 3)))) : Int).toNat).drop 1)).bind fun t115 => (some (Go.bits .and .i64 ((wrap64 (rd l0 0)) / 4) 15, true, t115, false, wrap64 (1 + (shl .i64 1 (Go.bits .and .i64 (wrap64 (rd l0 0)) 3))), 0))) else (none)) else (none))) else (none))) else (if 1 ≤ (l0.length : Int) then ((spec_ReadLength.f k (l0.drop 1)).bind fun bt109 => (if bt109.2.2.2 = 0 then (some (Go.bits .and .i64 (wrap64 (rd l0 0)) 63, false, bt109.1, bt109.2.1, wrap64 (1 + bt109.2.2.1), 0)) else (some (0, false, 0, false, 0, bt109.2.2.2)))) else (none)))) else (none))
theorem spec_ReadHead.mono : ∀ a0 k, LeO (spec_ReadHead.f k a0) (spec_ReadHead.f (k + 1) a0) := by
  intro a0 k
  unfold spec_ReadHead.f
  repeat' first
      | (with_reducible exact spec_Number.mono _ _)
      | (with_reducible exact spec_ReadLength.mono _ _)
      | (with_reducible exact LeO.refl _)
      | (with_reducible exact LeO.none _)
      | (with_reducible refine LeO.ite ?_ ?_)
      | (with_reducible refine LeO.bind ?_ (fun _ => ?_))
      | exact spec_Number.mono _ _
      | exact spec_ReadLength.mono _ _
      | exact LeO.none _
      | refine LeO.ite ?_ ?_
      | refine LeO.bind ?_ (fun _ => ?_)
set_option maxHeartbeats 8000000 in
set_option maxRecDepth 100000 in
theorem spec_ReadHead.calls (k : Nat) (A0 : Option Addr) (c0 : Nat) (l0 : List Int) (r1 : Int) (r2 : Bool) (r3 : Int) (r4 : Bool) (r5 : Int) (r6 : Int) (w : World) (hr0 : Kd.C (Kd.int .u8) w A0 l0.length l0) (hc0 : l0.length ≤ c0) (h : spec_ReadHead.f k l0 = some (r1, r2, r3, r4, r5, r6)) :
    Calls Tryd.prog 34 #[.slice A0 l0.length c0] w fun e w' => e = .returned (.tuple #[.agg #[.int .i64 r1, .bool r2, .int .i64 r3, .bool r4, .int .i64 r5], .int .i64 r6]) ∧ Below w.heap.size w w' := by
  have hu77 := Tryd.underlying77
  have HR0 := Aside0.mk hr0
  have HC0 := Aside0.mk hc0
  clear hr0 hc0
  have HB := Aside0.mk (Below.refl w.heap.size w)
  have H : (if (l0.length : Int) = 0 then (some (0, false, 0, false, 0, 1)) else (if 0 < (l0.length : Int) then (if (Go.bits .and .i64 (wrap64 (rd l0 0)) 128) = 0 then (some (0, false, 0, false, 0, 2)) else (if (Go.bits .and .i64 (wrap64 (rd l0 0)) 64) = 0 then (if (Go.bits .and .i64 (wrap64 (rd l0 0)) 3) = 3 then (some (Go.bits .and .i64 ((wrap64 (rd l0 0)) / 4) 15, true, (-1), false, 1, 0)) else (if 0 ≤ (Go.bits .and .i64 (wrap64 (rd l0 0)) 3) then (if (l0.length : Int) < (wrap64 (1 + (shl .i64 1 (Go.bits .and .i64 (wrap64 (rd l0 0)) 3)))) then (some (0, false, 0, false, 0, 1)) else (if 1 ≤ (wrap64 (1 + (shl .i64 1 (Go.bits .and .i64 (wrap64 (rd l0 0)) 3)))) then (if (wrap64 (1 + (shl .i64 1 (Go.bits .and .i64 (wrap64 (rd l0 0)) 3)))) ≤ (l0.length : Int) then ((spec_Number.f k ((l0.take ((wrap64 (1 + (shl .i64 1 (Go.bits .and .i64 (wrap64 (rd l0 0)) 3)))) : Int).toNat).drop 1)).bind fun t115 => (some (Go.bits .and .i64 ((wrap64 (rd l0 0)) / 4) 15, true, t115, false, wrap64 (1 + (shl .i64 1 (Go.bits .and .i64 (wrap64 (rd l0 0)) 3))), 0))) else (none)) else (none))) else (none))) else (if 1 ≤ (l0.length : Int) then ((spec_ReadLength.f k (l0.drop 1)).bind fun bt109 => (if bt109.2.2.2 = 0 then (some (Go.bits .and .i64 (wrap64 (rd l0 0)) 63, false, bt109.1, bt109.2.1, wrap64 (1 + bt109.2.2.1), 0)) else (some (0, false, 0, false, 0, bt109.2.2.2)))) else (none)))) else (none))) = some (r1, r2, r3, r4, r5, r6) := h
  clear h
  by_cases c2 : (l0.length : Int) = 0
  · rw [if_pos c2] at H
    have c2b0 : ((l0.length : Int) == 0) = true := beq_iff_eq.mpr c2
    have c2b1 : ((l0.length : Int) != 0) = false := bne_eq_false_iff_eq.mpr c2
    clear c2
    simp only [Option.some.injEq, Prod.mk.injEq] at H
    obtain ⟨rfl, rfl, rfl, rfl, rfl, rfl⟩ := H
    go_enter Tryd.func34, Tryd.ntmps34
    go_wp2_with (first | ((with_reducible refine gate_dst (N := 2) rfl ?_); refine box_event ?hg (N := 2) ?hd (cs := #[.int .i64 0, .bool false, .int .i64 0, .bool false, .int .i64 0]) (t := 77) ?hr ?_; (case hd => rfl); (case hg => rfl); (case hr => first | (go_simp; done) | (go_simp; rfl)); intro gb106 hg w3 hbox hb; have n0_ := Aside0.mk (below_step (by repeat (first | (with_reducible first | exact HB.out | apply below_alloc | apply pw_below_drewN | apply below_drew1) | exact HB.out)) hb); have n1_ := Aside0.mk (hbox); have n2_ := Aside0.mk ((by rw [hg]; exact (below_size (by repeat (first | (with_reducible first | exact HB.out | apply below_alloc | apply pw_below_drewN | apply below_drew1) | exact HB.out))) : w.heap.size ≤ gb106)); have n3_ := Aside0.mk ((by rw [hg]; exact (below_size (by repeat (first | (with_reducible first | exact HB.out | apply below_alloc | apply pw_below_drewN | apply below_drew1) | exact HB.out))) : w.heap.size ≤ gb106)); clear HB; have HB := n0_; have BK106 := n1_; have GW106 := n2_; have GE106 := n3_; clear n0_ n1_ n2_ n3_; clear hb hbox hg; have hcz4_0 : w3.cell? ⟨gb106, 0, none⟩ = some (.int .i64 0) := (blk_cell BK106.out 0).trans rfl; have hcz4_1 : w3.cell? ⟨gb106, 1, none⟩ = some (.bool false) := (blk_cell BK106.out 1).trans rfl; have hcz4_2 : w3.cell? ⟨gb106, 2, none⟩ = some (.int .i64 0) := (blk_cell BK106.out 2).trans rfl; have hcz4_3 : w3.cell? ⟨gb106, 3, none⟩ = some (.bool false) := (blk_cell BK106.out 3).trans rfl; have hcz4_4 : w3.cell? ⟨gb106, 4, none⟩ = some (.int .i64 0) := (blk_cell BK106.out 4).trans rfl; have hfz4_0 := blk_frozen BK106.out 0; have hfz4_1 := blk_frozen BK106.out 1; have hfz4_2 := blk_frozen BK106.out 2; have hfz4_3 := blk_frozen BK106.out 3; have hfz4_4 := blk_frozen BK106.out 4))
    refine bodyPost_ret (results_ct rfl _ _ gb106 77 #[.int .i64 0, .bool false, .int .i64 0, .bool false, .int .i64 0] (0, 0) _ rfl (by (with_reducible repeat (first | refine blk_drewN ?_ _ | refine blk_drew ?_ | refine blk_alloc ?_ _)); refine blk_put (cs := #[.int .i64 0, .bool false, .int .i64 0, .bool false, .int .i64 0]) ?_ 4 _ rfl; (with_reducible repeat (first | refine blk_drewN ?_ _ | refine blk_drew ?_ | refine blk_alloc ?_ _)); refine blk_put (cs := #[.int .i64 0, .bool false, .int .i64 0, .bool false, .int .i64 0]) ?_ 3 _ rfl; (with_reducible repeat (first | refine blk_drewN ?_ _ | refine blk_drew ?_ | refine blk_alloc ?_ _)); refine blk_put (cs := #[.int .i64 0, .bool false, .int .i64 0, .bool false, .int .i64 0]) ?_ 2 _ rfl; (with_reducible repeat (first | refine blk_drewN ?_ _ | refine blk_drew ?_ | refine blk_alloc ?_ _)); refine blk_put (cs := #[.int .i64 0, .bool false, .int .i64 0, .bool false, .int .i64 0]) ?_ 1 _ rfl; (with_reducible repeat (first | refine blk_drewN ?_ _ | refine blk_drew ?_ | refine blk_alloc ?_ _)); refine blk_put (cs := #[.int .i64 0, .bool false, .int .i64 0, .bool false, .int .i64 0]) ?_ 0 _ rfl; (with_reducible repeat (first | refine blk_drewN ?_ _ | refine blk_drew ?_ | refine blk_alloc ?_ _)); exact BK106.out) Tryd.underlying77 rfl (by kernel_rfl)) rfl ?_
    exact ⟨by first | rfl | (simp [errW_none, errW_some] <;> rfl) | (simp [*, errW_none, errW_some] <;> rfl), by repeat (first | (with_reducible first | exact HB.out | apply below_alloc | apply pw_below_drewN | apply below_drew1 | refine below_set ?_ GE106.out) | exact HB.out)⟩
  · rw [if_neg c2] at H
    have c2b0 : ((l0.length : Int) == 0) = false := beq_eq_false_iff_ne.mpr c2
    have c2b1 : ((l0.length : Int) != 0) = true := bne_iff_ne.mpr c2
    have c2b2 : ¬ (l0 = []) := fun h_ => c2 (by rw [h_]; rfl)
    by_cases c5 : 0 < (l0.length : Int)
    · rw [if_pos c5] at H
      have c5b0 : decide (0 < (l0.length : Int)) = true := decide_eq_true c5
      have c5b1 : decide (0 < l0.length) = true := decide_eq_true (by omega)
      clear c5
      by_cases c6 : (Go.bits .and .i64 (wrap64 (rd l0 0)) 128) = 0
      · rw [if_pos c6] at H
        have c6b0 : ((Go.bits .and .i64 (wrap64 (rd l0 0)) 128) == 0) = true := beq_iff_eq.mpr c6
        have c6b1 : ((Go.bits .and .i64 (wrap64 (rd l0 0)) 128) != 0) = false := bne_eq_false_iff_eq.mpr c6
        clear c6
        simp only [Option.some.injEq, Prod.mk.injEq] at H
        obtain ⟨rfl, rfl, rfl, rfl, rfl, rfl⟩ := H
        go_enter Tryd.func34, Tryd.ntmps34
        go_wp2_with (first | ((with_reducible refine gate_dst (N := 2) rfl ?_); refine box_event ?hg (N := 2) ?hd (cs := #[.int .i64 0, .bool false, .int .i64 0, .bool false, .int .i64 0]) (t := 77) ?hr ?_; (case hd => rfl); (case hg => rfl); (case hr => first | (go_simp; done) | (go_simp; rfl)); intro gb106 hg w7 hbox hb; have n0_ := Aside0.mk (below_step (by repeat (first | (with_reducible first | exact HB.out | apply below_alloc | apply pw_below_drewN | apply below_drew1) | exact HB.out)) hb); have n1_ := Aside0.mk (hbox); have n2_ := Aside0.mk ((by rw [hg]; exact (below_size (by repeat (first | (with_reducible first | exact HB.out | apply below_alloc | apply pw_below_drewN | apply below_drew1) | exact HB.out))) : w.heap.size ≤ gb106)); have n3_ := Aside0.mk ((by rw [hg]; exact (below_size (by repeat (first | (with_reducible first | exact HB.out | apply below_alloc | apply pw_below_drewN | apply below_drew1) | exact HB.out))) : w.heap.size ≤ gb106)); clear HB; have HB := n0_; have BK106 := n1_; have GW106 := n2_; have GE106 := n3_; clear n0_ n1_ n2_ n3_; clear hb hbox hg; have p107 : 0 ≤ (0 : Int) := (by omega); have q107 : 0 < (l0.length : Int) := of_decide_eq_true (by first | (with_reducible assumption) | assumption); obtain ⟨ad107, e107, hx107_0⟩ := Kd.at_int HR0.out 0 p107 q107; cases e107; have qi107 : (0 < l0.length) = True := eq_true (by omega); (try rw [show ((0 : Int)).toNat = 0 from rfl] at hx107_0); (try rw [Addr.add_zero'] at hx107_0); replace hx107_0 := (HB.out.cell (World.block_lt_of_cell? w _ hx107_0)).trans hx107_0; replace p107 := eq_true p107; replace q107 := eq_true q107; have hcz8_0 : w7.cell? ⟨gb106, 0, none⟩ = some (.int .i64 0) := (blk_cell BK106.out 0).trans rfl; have hcz8_1 : w7.cell? ⟨gb106, 1, none⟩ = some (.bool false) := (blk_cell BK106.out 1).trans rfl; have hcz8_2 : w7.cell? ⟨gb106, 2, none⟩ = some (.int .i64 0) := (blk_cell BK106.out 2).trans rfl; have hcz8_3 : w7.cell? ⟨gb106, 3, none⟩ = some (.bool false) := (blk_cell BK106.out 3).trans rfl; have hcz8_4 : w7.cell? ⟨gb106, 4, none⟩ = some (.int .i64 0) := (blk_cell BK106.out 4).trans rfl; have hfz8_0 := blk_frozen BK106.out 0; have hfz8_1 := blk_frozen BK106.out 1; have hfz8_2 := blk_frozen BK106.out 2; have hfz8_3 := blk_frozen BK106.out 3; have hfz8_4 := blk_frozen BK106.out 4))
        refine bodyPost_ret (results_ct rfl _ _ gb106 77 #[.int .i64 0, .bool false, .int .i64 0, .bool false, .int .i64 0] (0, 0) _ rfl (by (with_reducible repeat (first | refine blk_drewN ?_ _ | refine blk_drew ?_ | refine blk_alloc ?_ _)); refine blk_put (cs := #[.int .i64 0, .bool false, .int .i64 0, .bool false, .int .i64 0]) ?_ 4 _ rfl; (with_reducible repeat (first | refine blk_drewN ?_ _ | refine blk_drew ?_ | refine blk_alloc ?_ _)); refine blk_put (cs := #[.int .i64 0, .bool false, .int .i64 0, .bool false, .int .i64 0]) ?_ 3 _ rfl; (with_reducible repeat (first | refine blk_drewN ?_ _ | refine blk_drew ?_ | refine blk_alloc ?_ _)); refine blk_put (cs := #[.int .i64 0, .bool false, .int .i64 0, .bool false, .int .i64 0]) ?_ 2 _ rfl; (with_reducible repeat (first | refine blk_drewN ?_ _ | refine blk_drew ?_ | refine blk_alloc ?_ _)); refine blk_put (cs := #[.int .i64 0, .bool false, .int .i64 0, .bool false, .int .i64 0]) ?_ 1 _ rfl; (with_reducible repeat (first | refine blk_drewN ?_ _ | refine blk_drew ?_ | refine blk_alloc ?_ _)); refine blk_put (cs := #[.int .i64 0, .bool false, .int .i64 0, .bool false, .int .i64 0]) ?_ 0 _ rfl; (with_reducible repeat (first | refine blk_drewN ?_ _ | refine blk_drew ?_ | refine blk_alloc ?_ _)); exact BK106.out) Tryd.underlying77 rfl (by kernel_rfl)) rfl ?_
        exact ⟨by first | rfl | (simp [errW_none, errW_some] <;> rfl) | (simp [*, errW_none, errW_some] <;> rfl), by repeat (first | (with_reducible first | exact HB.out | apply below_alloc | apply pw_below_drewN | apply below_drew1 | refine below_set ?_ GE106.out) | exact HB.out)⟩
      · rw [if_neg c6] at H
        have c6b0 : ((Go.bits .and .i64 (wrap64 (rd l0 0)) 128) == 0) = false := beq_eq_false_iff_ne.mpr c6
        have c6b1 : ((Go.bits .and .i64 (wrap64 (rd l0 0)) 128) != 0) = true := bne_iff_ne.mpr c6
        by_cases c9 : (Go.bits .and .i64 (wrap64 (rd l0 0)) 64) = 0
        · rw [if_pos c9] at H
          have c9b0 : ((Go.bits .and .i64 (wrap64 (rd l0 0)) 64) == 0) = true := beq_iff_eq.mpr c9
          have c9b1 : ((Go.bits .and .i64 (wrap64 (rd l0 0)) 64) != 0) = false := bne_eq_false_iff_eq.mpr c9
          clear c9
          by_cases c10 : (Go.bits .and .i64 (wrap64 (rd l0 0)) 3) = 3
          · rw [if_pos c10] at H
            have c10b0 : ((Go.bits .and .i64 (wrap64 (rd l0 0)) 3) == 3) = true := beq_iff_eq.mpr c10
            have c10b1 : ((Go.bits .and .i64 (wrap64 (rd l0 0)) 3) != 3) = false := bne_eq_false_iff_eq.mpr c10
            clear c10
            simp only [Option.some.injEq, Prod.mk.injEq] at H
            obtain ⟨rfl, rfl, rfl, rfl, rfl, rfl⟩ := H
            go_enter Tryd.func34, Tryd.ntmps34
            go_wp2_with (first | ((with_reducible refine gate_dst (N := 2) rfl ?_); refine box_event ?hg (N := 2) ?hd (cs := #[.int .i64 0, .bool false, .int .i64 0, .bool false, .int .i64 0]) (t := 77) ?hr ?_; (case hd => rfl); (case hg => rfl); (case hr => first | (go_simp; done) | (go_simp; rfl)); intro gb106 hg w11 hbox hb; have n0_ := Aside0.mk (below_step (by repeat (first | (with_reducible first | exact HB.out | apply below_alloc | apply pw_below_drewN | apply below_drew1) | exact HB.out)) hb); have n1_ := Aside0.mk (hbox); have n2_ := Aside0.mk ((by rw [hg]; exact (below_size (by repeat (first | (with_reducible first | exact HB.out | apply below_alloc | apply pw_below_drewN | apply below_drew1) | exact HB.out))) : w.heap.size ≤ gb106)); have n3_ := Aside0.mk ((by rw [hg]; exact (below_size (by repeat (first | (with_reducible first | exact HB.out | apply below_alloc | apply pw_below_drewN | apply below_drew1) | exact HB.out))) : w.heap.size ≤ gb106)); clear HB; have HB := n0_; have BK106 := n1_; have GW106 := n2_; have GE106 := n3_; clear n0_ n1_ n2_ n3_; clear hb hbox hg; have p107 : 0 ≤ (0 : Int) := (by omega); have q107 : 0 < (l0.length : Int) := of_decide_eq_true (by first | (with_reducible assumption) | assumption); obtain ⟨ad107, e107, hx107_0⟩ := Kd.at_int HR0.out 0 p107 q107; cases e107; have qi107 : (0 < l0.length) = True := eq_true (by omega); (try rw [show ((0 : Int)).toNat = 0 from rfl] at hx107_0); (try rw [Addr.add_zero'] at hx107_0); replace hx107_0 := (HB.out.cell (World.block_lt_of_cell? w _ hx107_0)).trans hx107_0; replace p107 := eq_true p107; replace q107 := eq_true q107) | ((with_reducible refine gate_dst (N := 9) rfl ?_); refine box_event ?hg (N := 9) ?hd (cs := #[.int .i64 0, .bool false, .int .i64 0, .bool false, .int .i64 0]) (t := 77) ?hr ?_; (case hd => rfl); (case hg => rfl); (case hr => first | (go_simp; done) | (go_simp; rfl)); intro gb113 hg w12 hbox hb; have n0_ := Aside0.mk (blk_below (g := gb106) (o := .cells #[.int .i64 0, .bool false, .int .i64 0, .bool false, .int .i64 0] 77 (0, 0)) (by (with_reducible repeat (first | refine blk_drewN ?_ _ | refine blk_drew ?_ | refine blk_alloc ?_ _)); exact BK106.out) hb); have n1_ := Aside0.mk (below_step (by repeat (first | (with_reducible first | exact HB.out | apply below_alloc | apply pw_below_drewN | apply below_drew1 | refine below_set ?_ GE106.out) | exact HB.out)) hb); have n2_ := Aside0.mk (hbox); have n3_ := Aside0.mk ((by rw [hg]; exact (below_size (by repeat (first | (with_reducible first | exact HB.out | apply below_alloc | apply pw_below_drewN | apply below_drew1 | refine below_set ?_ GE106.out) | exact HB.out))) : w.heap.size ≤ gb113)); have n4_ := Aside0.mk ((by rw [hg]; exact (below_size (by repeat (first | (with_reducible first | exact HB.out | apply below_alloc | apply pw_below_drewN | apply below_drew1 | refine below_set ?_ GE106.out) | exact HB.out))) : w.heap.size ≤ gb113)); have n5_ := Aside0.mk ((by rw [hg]; exact Nat.ne_of_lt (blk_lt (g := gb106) (o := .cells #[.int .i64 0, .bool false, .int .i64 0, .bool false, .int .i64 0] 77 (0, 0)) (by (with_reducible repeat (first | refine blk_drewN ?_ _ | refine blk_drew ?_ | refine blk_alloc ?_ _)); exact BK106.out)) : gb106 ≠ gb113)); have n6_ := Aside0.mk ((by rw [hg]; exact Nat.ne_of_gt (blk_lt (g := gb106) (o := .cells #[.int .i64 0, .bool false, .int .i64 0, .bool false, .int .i64 0] 77 (0, 0)) (by (with_reducible repeat (first | refine blk_drewN ?_ _ | refine blk_drew ?_ | refine blk_alloc ?_ _)); exact BK106.out)) : gb113 ≠ gb106)); clear BK106; clear HB; have BK106 := n0_; have HB := n1_; have BK113 := n2_; have GW113 := n3_; have GE113 := n4_; have NB106_113 := n5_; have NB113_106 := n6_; clear n0_ n1_ n2_ n3_ n4_ n5_ n6_; clear hb hbox hg; have hnb13 := NB113_106.out; have hnc13 := NB106_113.out; have hcz14_0 : w12.cell? ⟨gb113, 0, none⟩ = some (.int .i64 0) := (blk_cell BK113.out 0).trans rfl; have hcz14_1 : w12.cell? ⟨gb113, 1, none⟩ = some (.bool false) := (blk_cell BK113.out 1).trans rfl; have hcz14_2 : w12.cell? ⟨gb113, 2, none⟩ = some (.int .i64 0) := (blk_cell BK113.out 2).trans rfl; have hcz14_3 : w12.cell? ⟨gb113, 3, none⟩ = some (.bool false) := (blk_cell BK113.out 3).trans rfl; have hcz14_4 : w12.cell? ⟨gb113, 4, none⟩ = some (.int .i64 0) := (blk_cell BK113.out 4).trans rfl; have hfz14_0 := blk_frozen BK113.out 0; have hfz14_1 := blk_frozen BK113.out 1; have hfz14_2 := blk_frozen BK113.out 2; have hfz14_3 := blk_frozen BK113.out 3; have hfz14_4 := blk_frozen BK113.out 4; have hcz15_0 : w12.cell? ⟨gb106, 0, none⟩ = some (.int .i64 0) := (blk_cell BK106.out 0).trans rfl; have hcz15_1 : w12.cell? ⟨gb106, 1, none⟩ = some (.bool false) := (blk_cell BK106.out 1).trans rfl; have hcz15_2 : w12.cell? ⟨gb106, 2, none⟩ = some (.int .i64 0) := (blk_cell BK106.out 2).trans rfl; have hcz15_3 : w12.cell? ⟨gb106, 3, none⟩ = some (.bool false) := (blk_cell BK106.out 3).trans rfl; have hcz15_4 : w12.cell? ⟨gb106, 4, none⟩ = some (.int .i64 0) := (blk_cell BK106.out 4).trans rfl; have hfz15_0 := blk_frozen BK106.out 0; have hfz15_1 := blk_frozen BK106.out 1; have hfz15_2 := blk_frozen BK106.out 2; have hfz15_3 := blk_frozen BK106.out 3; have hfz15_4 := blk_frozen BK106.out 4))
            refine bodyPost_ret (results_ct rfl _ _ gb106 77 #[.int .i64 (Go.bits .and .i64 ((wrap64 (rd l0 0)) / 4) 15), .bool true, .int .i64 (-1), .bool false, .int .i64 1] (0, 0) _ rfl (by (with_reducible repeat (first | refine blk_drewN ?_ _ | refine blk_drew ?_ | refine blk_alloc ?_ _)); refine blk_put (cs := #[.int .i64 (Go.bits .and .i64 ((wrap64 (rd l0 0)) / 4) 15), .bool true, .int .i64 (-1), .bool false, .int .i64 0]) ?_ 4 _ rfl; (with_reducible repeat (first | refine blk_drewN ?_ _ | refine blk_drew ?_ | refine blk_alloc ?_ _)); refine blk_put (cs := #[.int .i64 (Go.bits .and .i64 ((wrap64 (rd l0 0)) / 4) 15), .bool true, .int .i64 (-1), .bool false, .int .i64 0]) ?_ 3 _ rfl; (with_reducible repeat (first | refine blk_drewN ?_ _ | refine blk_drew ?_ | refine blk_alloc ?_ _)); refine blk_put (cs := #[.int .i64 (Go.bits .and .i64 ((wrap64 (rd l0 0)) / 4) 15), .bool true, .int .i64 0, .bool false, .int .i64 0]) ?_ 2 _ rfl; (with_reducible repeat (first | refine blk_drewN ?_ _ | refine blk_drew ?_ | refine blk_alloc ?_ _)); refine blk_put (cs := #[.int .i64 (Go.bits .and .i64 ((wrap64 (rd l0 0)) / 4) 15), .bool false, .int .i64 0, .bool false, .int .i64 0]) ?_ 1 _ rfl; (with_reducible repeat (first | refine blk_drewN ?_ _ | refine blk_drew ?_ | refine blk_alloc ?_ _)); refine blk_put (cs := #[.int .i64 0, .bool false, .int .i64 0, .bool false, .int .i64 0]) ?_ 0 _ rfl; (with_reducible repeat (first | refine blk_drewN ?_ _ | refine blk_drew ?_ | refine blk_alloc ?_ _)); refine blk_far ?_ NB106_113.out _; (with_reducible repeat (first | refine blk_drewN ?_ _ | refine blk_drew ?_ | refine blk_alloc ?_ _)); refine blk_far ?_ NB106_113.out _; (with_reducible repeat (first | refine blk_drewN ?_ _ | refine blk_drew ?_ | refine blk_alloc ?_ _)); refine blk_far ?_ NB106_113.out _; (with_reducible repeat (first | refine blk_drewN ?_ _ | refine blk_drew ?_ | refine blk_alloc ?_ _)); refine blk_far ?_ NB106_113.out _; (with_reducible repeat (first | refine blk_drewN ?_ _ | refine blk_drew ?_ | refine blk_alloc ?_ _)); refine blk_far ?_ NB106_113.out _; (with_reducible repeat (first | refine blk_drewN ?_ _ | refine blk_drew ?_ | refine blk_alloc ?_ _)); exact BK106.out) Tryd.underlying77 rfl (by kernel_rfl)) rfl ?_
            exact ⟨by first | rfl | (simp [errW_none, errW_some] <;> rfl) | (simp [*, errW_none, errW_some] <;> rfl), by repeat (first | (with_reducible first | exact HB.out | apply below_alloc | apply pw_below_drewN | apply below_drew1 | refine below_set ?_ GE106.out | refine below_set ?_ GE113.out) | exact HB.out)⟩
          · rw [if_neg c10] at H
            have c10b0 : ((Go.bits .and .i64 (wrap64 (rd l0 0)) 3) == 3) = false := beq_eq_false_iff_ne.mpr c10
            have c10b1 : ((Go.bits .and .i64 (wrap64 (rd l0 0)) 3) != 3) = true := bne_iff_ne.mpr c10
            obtain ⟨ji16, hji16⟩ : ∃ j_ : Int, (Go.bits .and .i64 (wrap64 (rd l0 0)) 3) = j_ := ⟨_, rfl⟩
            replace H : (if 0 ≤ (ji16) then (if (l0.length : Int) < (wrap64 (1 + (shl .i64 1 (ji16)))) then (some (0, false, 0, false, 0, 1)) else (if 1 ≤ (wrap64 (1 + (shl .i64 1 (ji16)))) then (if (wrap64 (1 + (shl .i64 1 (ji16)))) ≤ (l0.length : Int) then ((spec_Number.f k ((l0.take ((wrap64 (1 + (shl .i64 1 (ji16)))) : Int).toNat).drop 1)).bind fun t115 => (some (Go.bits .and .i64 ((wrap64 (rd l0 0)) / 4) 15, true, t115, false, wrap64 (1 + (shl .i64 1 (ji16))), 0))) else (none)) else (none))) else (none)) = some (r1, r2, r3, r4, r5, r6) := by first | (rw [hji16] at H; exact H) | (simp only [hji16] at H ⊢; exact H)
            (try rw [hji16] at c10b0)
            (try rw [hji16] at c10b1)
            by_cases c17 : 0 ≤ (ji16)
            · rw [if_pos c17] at H
              have c17b0 := eq_true c17
              have c17b1 : decide (0 ≤ (ji16)) = true := decide_eq_true c17
              clear c17
              obtain ⟨ji18, hji18⟩ : ∃ j_ : Int, (shl .i64 1 (ji16)) = j_ := ⟨_, rfl⟩
              replace H : (if (l0.length : Int) < (wrap64 (1 + (ji18))) then (some (0, false, 0, false, 0, 1)) else (if 1 ≤ (wrap64 (1 + (ji18))) then (if (wrap64 (1 + (ji18))) ≤ (l0.length : Int) then ((spec_Number.f k ((l0.take ((wrap64 (1 + (ji18))) : Int).toNat).drop 1)).bind fun t115 => (some (Go.bits .and .i64 ((wrap64 (rd l0 0)) / 4) 15, true, t115, false, wrap64 (1 + (ji18)), 0))) else (none)) else (none))) = some (r1, r2, r3, r4, r5, r6) := by first | (rw [hji18] at H; exact H) | (simp only [hji18] at H ⊢; exact H)
              have hji18_ : (IntKind.i64.wrap (1 * 2 ^ min (ji16).toNat 64)) = ji18 := hji18
              have hji18z : (ji16) ≤ 64 → (IntKind.i64.wrap (1 * 2 ^ (ji16).toNat)) = ji18 := shl_small hji18
              have hji18u : (IntKind.i64.wrap (2 ^ min (ji16).toNat 64)) = ji18 := by have h_ := hji18_; rw [Int.one_mul] at h_; exact h_
              have hji18v : (ji16) ≤ 64 → (IntKind.i64.wrap (2 ^ (ji16).toNat)) = ji18 := fun hle_ => by have h_ := hji18z hle_; rw [Int.one_mul] at h_; exact h_
              have hji18y : (wrap64 (1 * 2 ^ min (ji16).toNat 64)) = ji18 := (i64_w _).symm.trans hji18_
              have hji18x : (ji16) ≤ 64 → (wrap64 (1 * 2 ^ (ji16).toNat)) = ji18 := fun h_ => (i64_w _).symm.trans (hji18z h_)
              by_cases c19 : (l0.length : Int) < (wrap64 (1 + (ji18)))
              · rw [if_pos c19] at H
                have c19b0 : decide ((l0.length : Int) < (wrap64 (1 + (ji18)))) = true := decide_eq_true c19
                clear c19
                simp only [Option.some.injEq, Prod.mk.injEq] at H
                obtain ⟨rfl, rfl, rfl, rfl, rfl, rfl⟩ := H
                go_enter Tryd.func34, Tryd.ntmps34
                try go_wp2_with (first | ((with_reducible refine gate_dst (N := 2) rfl ?_); refine box_event ?hg (N := 2) ?hd (cs := #[.int .i64 0, .bool false, .int .i64 0, .bool false, .int .i64 0]) (t := 77) ?hr ?_; (case hd => rfl); (case hg => rfl); (case hr => first | (go_simp; done) | (go_simp; rfl)); intro gb106 hg w20 hbox hb; have n0_ := Aside0.mk (below_step (by repeat (first | (with_reducible first | exact HB.out | apply below_alloc | apply pw_below_drewN | apply below_drew1) | exact HB.out)) hb); have n1_ := Aside0.mk (hbox); have n2_ := Aside0.mk ((by rw [hg]; exact (below_size (by repeat (first | (with_reducible first | exact HB.out | apply below_alloc | apply pw_below_drewN | apply below_drew1) | exact HB.out))) : w.heap.size ≤ gb106)); have n3_ := Aside0.mk ((by rw [hg]; exact (below_size (by repeat (first | (with_reducible first | exact HB.out | apply below_alloc | apply pw_below_drewN | apply below_drew1) | exact HB.out))) : w.heap.size ≤ gb106)); clear HB; have HB := n0_; have BK106 := n1_; have GW106 := n2_; have GE106 := n3_; clear n0_ n1_ n2_ n3_; clear hb hbox hg; have p107 : 0 ≤ (0 : Int) := (by omega); have q107 : 0 < (l0.length : Int) := of_decide_eq_true (by first | (with_reducible assumption) | assumption); obtain ⟨ad107, e107, hx107_0⟩ := Kd.at_int HR0.out 0 p107 q107; cases e107; have qi107 : (0 < l0.length) = True := eq_true (by omega); (try rw [show ((0 : Int)).toNat = 0 from rfl] at hx107_0); (try rw [Addr.add_zero'] at hx107_0); replace hx107_0 := (HB.out.cell (World.block_lt_of_cell? w _ hx107_0)).trans hx107_0; replace p107 := eq_true p107; replace q107 := eq_true q107) | ((with_reducible refine gate_dst (N := 9) rfl ?_); refine box_event ?hg (N := 9) ?hd (cs := #[.int .i64 0, .bool false, .int .i64 0, .bool false, .int .i64 0]) (t := 77) ?hr ?_; (case hd => rfl); (case hg => rfl); (case hr => first | (go_simp; done) | (go_simp; rfl)); intro gb113 hg w21 hbox hb; have n0_ := Aside0.mk (blk_below (g := gb106) (o := .cells #[.int .i64 0, .bool false, .int .i64 0, .bool false, .int .i64 0] 77 (0, 0)) (by (with_reducible repeat (first | refine blk_drewN ?_ _ | refine blk_drew ?_ | refine blk_alloc ?_ _)); exact BK106.out) hb); have n1_ := Aside0.mk (below_step (by repeat (first | (with_reducible first | exact HB.out | apply below_alloc | apply pw_below_drewN | apply below_drew1 | refine below_set ?_ GE106.out) | exact HB.out)) hb); have n2_ := Aside0.mk (hbox); have n3_ := Aside0.mk ((by rw [hg]; exact (below_size (by repeat (first | (with_reducible first | exact HB.out | apply below_alloc | apply pw_below_drewN | apply below_drew1 | refine below_set ?_ GE106.out) | exact HB.out))) : w.heap.size ≤ gb113)); have n4_ := Aside0.mk ((by rw [hg]; exact (below_size (by repeat (first | (with_reducible first | exact HB.out | apply below_alloc | apply pw_below_drewN | apply below_drew1 | refine below_set ?_ GE106.out) | exact HB.out))) : w.heap.size ≤ gb113)); have n5_ := Aside0.mk ((by rw [hg]; exact Nat.ne_of_lt (blk_lt (g := gb106) (o := .cells #[.int .i64 0, .bool false, .int .i64 0, .bool false, .int .i64 0] 77 (0, 0)) (by (with_reducible repeat (first | refine blk_drewN ?_ _ | refine blk_drew ?_ | refine blk_alloc ?_ _)); exact BK106.out)) : gb106 ≠ gb113)); have n6_ := Aside0.mk ((by rw [hg]; exact Nat.ne_of_gt (blk_lt (g := gb106) (o := .cells #[.int .i64 0, .bool false, .int .i64 0, .bool false, .int .i64 0] 77 (0, 0)) (by (with_reducible repeat (first | refine blk_drewN ?_ _ | refine blk_drew ?_ | refine blk_alloc ?_ _)); exact BK106.out)) : gb113 ≠ gb106)); clear BK106; clear HB; have BK106 := n0_; have HB := n1_; have BK113 := n2_; have GW113 := n3_; have GE113 := n4_; have NB106_113 := n5_; have NB113_106 := n6_; clear n0_ n1_ n2_ n3_ n4_ n5_ n6_; clear hb hbox hg; have hnb22 := NB113_106.out; have hnc22 := NB106_113.out; have hcz23_0 : w21.cell? ⟨gb113, 0, none⟩ = some (.int .i64 0) := (blk_cell BK113.out 0).trans rfl; have hcz23_1 : w21.cell? ⟨gb113, 1, none⟩ = some (.bool false) := (blk_cell BK113.out 1).trans rfl; have hcz23_2 : w21.cell? ⟨gb113, 2, none⟩ = some (.int .i64 0) := (blk_cell BK113.out 2).trans rfl; have hcz23_3 : w21.cell? ⟨gb113, 3, none⟩ = some (.bool false) := (blk_cell BK113.out 3).trans rfl; have hcz23_4 : w21.cell? ⟨gb113, 4, none⟩ = some (.int .i64 0) := (blk_cell BK113.out 4).trans rfl; have hfz23_0 := blk_frozen BK113.out 0; have hfz23_1 := blk_frozen BK113.out 1; have hfz23_2 := blk_frozen BK113.out 2; have hfz23_3 := blk_frozen BK113.out 3; have hfz23_4 := blk_frozen BK113.out 4))
                have n0_ : Aside0 ((((((w21.setCell ⟨gb113, 0, none⟩ (.int .i64 (Go.bits .and .i64 ((wrap64 (rd l0 0)) / 4) 15))).setCell ⟨gb113, 1, none⟩ (.bool true)).setCell ⟨gb113, 2, none⟩ (.int .i64 (-1))).setCell ⟨gb113, 3, none⟩ (.bool false)).setCell ⟨gb113, 4, none⟩ (.int .i64 1)).heap[gb106]? = some (.cells #[.int .i64 0, .bool false, .int .i64 0, .bool false, .int .i64 0] 77 (0, 0))) := ⟨by (with_reducible repeat (first | refine blk_drewN ?_ _ | refine blk_drew ?_ | refine blk_alloc ?_ _)); refine blk_far ?_ NB106_113.out _; (with_reducible repeat (first | refine blk_drewN ?_ _ | refine blk_drew ?_ | refine blk_alloc ?_ _)); refine blk_far ?_ NB106_113.out _; (with_reducible repeat (first | refine blk_drewN ?_ _ | refine blk_drew ?_ | refine blk_alloc ?_ _)); refine blk_far ?_ NB106_113.out _; (with_reducible repeat (first | refine blk_drewN ?_ _ | refine blk_drew ?_ | refine blk_alloc ?_ _)); refine blk_far ?_ NB106_113.out _; (with_reducible repeat (first | refine blk_drewN ?_ _ | refine blk_drew ?_ | refine blk_alloc ?_ _)); refine blk_far ?_ NB106_113.out _; (with_reducible repeat (first | refine blk_drewN ?_ _ | refine blk_drew ?_ | refine blk_alloc ?_ _)); exact BK106.out⟩
                have n1_ : Aside0 ((((((w21.setCell ⟨gb113, 0, none⟩ (.int .i64 (Go.bits .and .i64 ((wrap64 (rd l0 0)) / 4) 15))).setCell ⟨gb113, 1, none⟩ (.bool true)).setCell ⟨gb113, 2, none⟩ (.int .i64 (-1))).setCell ⟨gb113, 3, none⟩ (.bool false)).setCell ⟨gb113, 4, none⟩ (.int .i64 1)).heap[gb113]? = some (.cells #[.int .i64 (Go.bits .and .i64 ((wrap64 (rd l0 0)) / 4) 15), .bool true, .int .i64 (-1), .bool false, .int .i64 1] 77 (0, 0))) := ⟨by (with_reducible repeat (first | refine blk_drewN ?_ _ | refine blk_drew ?_ | refine blk_alloc ?_ _)); refine blk_put (cs := #[.int .i64 (Go.bits .and .i64 ((wrap64 (rd l0 0)) / 4) 15), .bool true, .int .i64 (-1), .bool false, .int .i64 0]) ?_ 4 _ rfl; (with_reducible repeat (first | refine blk_drewN ?_ _ | refine blk_drew ?_ | refine blk_alloc ?_ _)); refine blk_put (cs := #[.int .i64 (Go.bits .and .i64 ((wrap64 (rd l0 0)) / 4) 15), .bool true, .int .i64 (-1), .bool false, .int .i64 0]) ?_ 3 _ rfl; (with_reducible repeat (first | refine blk_drewN ?_ _ | refine blk_drew ?_ | refine blk_alloc ?_ _)); refine blk_put (cs := #[.int .i64 (Go.bits .and .i64 ((wrap64 (rd l0 0)) / 4) 15), .bool true, .int .i64 0, .bool false, .int .i64 0]) ?_ 2 _ rfl; (with_reducible repeat (first | refine blk_drewN ?_ _ | refine blk_drew ?_ | refine blk_alloc ?_ _)); refine blk_put (cs := #[.int .i64 (Go.bits .and .i64 ((wrap64 (rd l0 0)) / 4) 15), .bool false, .int .i64 0, .bool false, .int .i64 0]) ?_ 1 _ rfl; (with_reducible repeat (first | refine blk_drewN ?_ _ | refine blk_drew ?_ | refine blk_alloc ?_ _)); refine blk_put (cs := #[.int .i64 0, .bool false, .int .i64 0, .bool false, .int .i64 0]) ?_ 0 _ rfl; (with_reducible repeat (first | refine blk_drewN ?_ _ | refine blk_drew ?_ | refine blk_alloc ?_ _)); exact BK113.out⟩
                have n2_ : Aside0 (Below w.heap.size w (((((w21.setCell ⟨gb113, 0, none⟩ (.int .i64 (Go.bits .and .i64 ((wrap64 (rd l0 0)) / 4) 15))).setCell ⟨gb113, 1, none⟩ (.bool true)).setCell ⟨gb113, 2, none⟩ (.int .i64 (-1))).setCell ⟨gb113, 3, none⟩ (.bool false)).setCell ⟨gb113, 4, none⟩ (.int .i64 1))) := ⟨by repeat (first | (with_reducible first | exact HB.out | apply below_alloc | apply pw_below_drewN | apply below_drew1 | refine below_set ?_ GE106.out | refine below_set ?_ GE113.out) | exact HB.out)⟩
                (try clear BK106)
                (try clear BK113)
                (try clear HB)
                generalize (((((w21.setCell ⟨gb113, 0, none⟩ (.int .i64 (Go.bits .and .i64 ((wrap64 (rd l0 0)) / 4) 15))).setCell ⟨gb113, 1, none⟩ (.bool true)).setCell ⟨gb113, 2, none⟩ (.int .i64 (-1))).setCell ⟨gb113, 3, none⟩ (.bool false)).setCell ⟨gb113, 4, none⟩ (.int .i64 1)) = w24 at n0_ n1_ n2_ ⊢
                have BK106 := n0_
                have BK113 := n1_
                have HB := n2_
                clear n0_ n1_ n2_
                have n0_ := Aside0.mk (blk_drew BK106.out)
                have n1_ := Aside0.mk (blk_drew BK113.out)
                have n2_ := Aside0.mk (below_drew1 HB.out)
                clear BK106
                clear BK113
                clear HB
                have BK106 := n0_
                have BK113 := n1_
                have HB := n2_
                clear n0_ n1_ n2_
                refine start_ (n := 7) (S := fun w' => w'.cell? ⟨gb113, 0, none⟩ = some (.int .i64 (Go.bits .and .i64 ((wrap64 (rd l0 0)) / 4) 15)) ∧ w'.cell? ⟨gb113, 1, none⟩ = some (.bool true) ∧ w'.cell? ⟨gb113, 2, none⟩ = some (.int .i64 (-1)) ∧ w'.cell? ⟨gb113, 3, none⟩ = some (.bool false) ∧ w'.cell? ⟨gb113, 4, none⟩ = some (.int .i64 1)) (ds := [6]) #[false, false, false, false, false, false, false] (by kernel_rfl) rfl rfl ⟨(blk_cell BK113.out 0).trans rfl, (blk_cell BK113.out 1).trans rfl, (blk_cell BK113.out 2).trans rfl, (blk_cell BK113.out 3).trans rfl, (blk_cell BK113.out 4).trans rfl⟩ (fun hHeld => ?_)
                generalize w24.drew = w25 at BK106 BK113 HB hHeld ⊢
                refine pure_ (i := 0) (N := some 54) (v := ?_) (a' := ?_) #[true, false, false, false, false, false, false] rfl rfl (by kernel_rfl) (fun _ _ _ h => h) (Or.inl ⟨by rfl, ?_⟩) ?_ ?_
                rotate_left
                · intro w'
                  go_simp
                  with_reducible rfl
                rotate_left
                · simp only [Act.put, List.setIfInBounds_toArray, List.set_cons_zero, List.set_cons_succ, i64_w, i32_w]
                  rfl
                refine pure_ (i := 2) (N := some 56) (v := ?_) (a' := ?_) #[true, false, true, false, false, false, false] rfl rfl (by kernel_rfl) (fun _ _ _ h => h) (Or.inl ⟨by rfl, ?_⟩) ?_ ?_
                rotate_left
                · intro w'
                  go_simp
                  with_reducible rfl
                rotate_left
                · simp only [Act.put, List.setIfInBounds_toArray, List.set_cons_zero, List.set_cons_succ, i64_w, i32_w]
                  rfl
                refine pure_ (i := 3) (N := some 57) (v := ?_) (a' := ?_) #[true, false, true, true, false, false, false] rfl rfl (by kernel_rfl) (fun _ _ _ h => h) (Or.inl ⟨by rfl, ?_⟩) ?_ ?_
                rotate_left
                · intro w'
                  go_simp
                  with_reducible rfl
                rotate_left
                · simp only [Act.put, List.setIfInBounds_toArray, List.set_cons_zero, List.set_cons_succ, i64_w, i32_w]
                  rfl
                refine take_ (i := 1) (N := some 55) (v := ?_) (a' := ?_) #[true, true, true, true, false, false, false] rfl rfl (by kernel_rfl) (fun _ _ _ h => h) (Or.inl ⟨by rfl, ?_⟩) hHeld ?_ ?_
                rotate_left
                · rintro w' ⟨s0, s1, s2, s3, s4⟩
                  go_simp
                  with_reducible rfl
                rotate_left
                · simp only [Act.put, List.setIfInBounds_toArray, List.set_cons_zero, List.set_cons_succ, i64_w, i32_w]
                  rfl
                refine pure_ (i := 4) (N := some 58) (v := ?_) (a' := ?_) #[true, true, true, true, true, false, false] rfl rfl (by kernel_rfl) (fun _ _ _ h => h) (Or.inl ⟨by rfl, ?_⟩) ?_ ?_
                rotate_left
                · intro w'
                  go_simp
                  with_reducible rfl
                rotate_left
                · simp only [Act.put, List.setIfInBounds_toArray, List.set_cons_zero, List.set_cons_succ, i64_w, i32_w]
                  rfl
                refine pure_ (i := 5) (N := some 59) (v := ?_) (a' := ?_) #[true, true, true, true, true, true, false] rfl rfl (by kernel_rfl) (fun _ _ _ h => h) (Or.inl ⟨by rfl, ?_⟩) ?_ ?_
                rotate_left
                · intro w'
                  go_simp
                  with_reducible rfl
                rotate_left
                · simp only [Act.put, List.setIfInBounds_toArray, List.set_cons_zero, List.set_cons_succ, i64_w, i32_w]
                  rfl
                refine last_ (i := 6) (N := none) #[true, true, true, true, true, true, true] rfl rfl (by kernel_rfl) (by decide) (fun K hK => ?_)
                have hs26 : w25.cell? ⟨gb113, 4, none⟩ = some (.int .i64 1) := (blk_cell BK113.out 4).trans rfl
                have hfs26 := blk_frozen BK113.out 4
                have hns26_0 := NB106_113.out
                have hms26_0 := NB113_106.out
                refine skip_ (w1 := ?_) (by rfl) rfl ?_ ?_
                rotate_left
                · go_simp
                  rfl
                refine hK.out _ _ ?_
                clear hK K
                refine done_ (by kernel_rfl) ?_
                have hcz27_0 : w25.cell? ⟨gb113, 0, none⟩ = some (.int .i64 (Go.bits .and .i64 ((wrap64 (rd l0 0)) / 4) 15)) := (blk_cell BK113.out 0).trans rfl
                have hcz27_1 : w25.cell? ⟨gb113, 1, none⟩ = some (.bool true) := (blk_cell BK113.out 1).trans rfl
                have hcz27_2 : w25.cell? ⟨gb113, 2, none⟩ = some (.int .i64 (-1)) := (blk_cell BK113.out 2).trans rfl
                have hcz27_3 : w25.cell? ⟨gb113, 3, none⟩ = some (.bool false) := (blk_cell BK113.out 3).trans rfl
                have hcz27_4 : w25.cell? ⟨gb113, 4, none⟩ = some (.int .i64 1) := (blk_cell BK113.out 4).trans rfl
                have hfz27_0 := blk_frozen BK113.out 0
                have hfz27_1 := blk_frozen BK113.out 1
                have hfz27_2 := blk_frozen BK113.out 2
                have hfz27_3 := blk_frozen BK113.out 3
                have hfz27_4 := blk_frozen BK113.out 4
                have hcz28_0 : w25.cell? ⟨gb106, 0, none⟩ = some (.int .i64 0) := (blk_cell BK106.out 0).trans rfl
                have hcz28_1 : w25.cell? ⟨gb106, 1, none⟩ = some (.bool false) := (blk_cell BK106.out 1).trans rfl
                have hcz28_2 : w25.cell? ⟨gb106, 2, none⟩ = some (.int .i64 0) := (blk_cell BK106.out 2).trans rfl
                have hcz28_3 : w25.cell? ⟨gb106, 3, none⟩ = some (.bool false) := (blk_cell BK106.out 3).trans rfl
                have hcz28_4 : w25.cell? ⟨gb106, 4, none⟩ = some (.int .i64 0) := (blk_cell BK106.out 4).trans rfl
                have hfz28_0 := blk_frozen BK106.out 0
                have hfz28_1 := blk_frozen BK106.out 1
                have hfz28_2 := blk_frozen BK106.out 2
                have hfz28_3 := blk_frozen BK106.out 3
                have hfz28_4 := blk_frozen BK106.out 4
                try go_wp2
                refine bodyPost_ret (results_ct rfl _ _ gb106 77 #[.int .i64 0, .bool false, .int .i64 0, .bool false, .int .i64 0] (0, 0) _ rfl (by (with_reducible repeat (first | refine blk_drewN ?_ _ | refine blk_drew ?_ | refine blk_alloc ?_ _)); refine blk_put (cs := #[.int .i64 0, .bool false, .int .i64 0, .bool false, .int .i64 0]) ?_ 4 _ rfl; (with_reducible repeat (first | refine blk_drewN ?_ _ | refine blk_drew ?_ | refine blk_alloc ?_ _)); refine blk_put (cs := #[.int .i64 0, .bool false, .int .i64 0, .bool false, .int .i64 0]) ?_ 3 _ rfl; (with_reducible repeat (first | refine blk_drewN ?_ _ | refine blk_drew ?_ | refine blk_alloc ?_ _)); refine blk_put (cs := #[.int .i64 0, .bool false, .int .i64 0, .bool false, .int .i64 0]) ?_ 2 _ rfl; (with_reducible repeat (first | refine blk_drewN ?_ _ | refine blk_drew ?_ | refine blk_alloc ?_ _)); refine blk_put (cs := #[.int .i64 0, .bool false, .int .i64 0, .bool false, .int .i64 0]) ?_ 1 _ rfl; (with_reducible repeat (first | refine blk_drewN ?_ _ | refine blk_drew ?_ | refine blk_alloc ?_ _)); refine blk_put (cs := #[.int .i64 0, .bool false, .int .i64 0, .bool false, .int .i64 0]) ?_ 0 _ rfl; (with_reducible repeat (first | refine blk_drewN ?_ _ | refine blk_drew ?_ | refine blk_alloc ?_ _)); refine blk_far ?_ NB106_113.out _; (with_reducible repeat (first | refine blk_drewN ?_ _ | refine blk_drew ?_ | refine blk_alloc ?_ _)); exact BK106.out) Tryd.underlying77 rfl (by kernel_rfl)) rfl ?_
                exact ⟨by first | rfl | (simp [errW_none, errW_some] <;> rfl) | (simp only [← hji16, ← hji18]; first | rfl | (simp [errW_none, errW_some] <;> rfl)) | (simp [*, errW_none, errW_some] <;> rfl), by repeat (first | (with_reducible first | exact HB.out | apply below_alloc | apply pw_below_drewN | apply below_drew1 | refine below_set ?_ GE106.out | refine below_set ?_ GE113.out) | exact HB.out)⟩
              · rw [if_neg c19] at H
                have c19b0 : decide ((l0.length : Int) < (wrap64 (1 + (ji18)))) = false := decide_eq_false c19
                clear c19
                by_cases c29 : 1 ≤ (wrap64 (1 + (ji18)))
                · rw [if_pos c29] at H
                  have c29b0 := eq_true c29
                  have c29b1 : decide (1 ≤ (wrap64 (1 + (ji18)))) = true := decide_eq_true c29
                  by_cases c30 : (wrap64 (1 + (ji18))) ≤ (l0.length : Int)
                  · rw [if_pos c30] at H
                    have c30b0 := eq_true c30
                    have c30b1 : decide ((wrap64 (1 + (ji18))) ≤ (l0.length : Int)) = true := decide_eq_true c30
                    replace H := Option.bind_eq_some_iff.mp H
                    obtain ⟨t115, A310, H⟩ := H
                    replace H : (some (Go.bits .and .i64 ((wrap64 (rd l0 0)) / 4) 15, true, t115, false, wrap64 (1 + (ji18)), 0)) = some (r1, r2, r3, r4, r5, r6) := H
                    have A31 := Aside0.mk A310
                    clear A310
                    simp only [Option.some.injEq, Prod.mk.injEq] at H
                    obtain ⟨rfl, rfl, rfl, rfl, rfl, rfl⟩ := H
                    go_enter Tryd.func34, Tryd.ntmps34
                    try go_wp2_with (first | ((with_reducible refine gate_dst (N := 2) rfl ?_); refine box_event ?hg (N := 2) ?hd (cs := #[.int .i64 0, .bool false, .int .i64 0, .bool false, .int .i64 0]) (t := 77) ?hr ?_; (case hd => rfl); (case hg => rfl); (case hr => first | (go_simp; done) | (go_simp; rfl)); intro gb106 hg w32 hbox hb; have n0_ := Aside0.mk (below_step (by repeat (first | (with_reducible first | exact HB.out | apply below_alloc | apply pw_below_drewN | apply below_drew1) | exact HB.out)) hb); have n1_ := Aside0.mk (hbox); have n2_ := Aside0.mk ((by rw [hg]; exact (below_size (by repeat (first | (with_reducible first | exact HB.out | apply below_alloc | apply pw_below_drewN | apply below_drew1) | exact HB.out))) : w.heap.size ≤ gb106)); have n3_ := Aside0.mk ((by rw [hg]; exact (below_size (by repeat (first | (with_reducible first | exact HB.out | apply below_alloc | apply pw_below_drewN | apply below_drew1) | exact HB.out))) : w.heap.size ≤ gb106)); clear HB; have HB := n0_; have BK106 := n1_; have GW106 := n2_; have GE106 := n3_; clear n0_ n1_ n2_ n3_; clear hb hbox hg; have p107 : 0 ≤ (0 : Int) := (by omega); have q107 : 0 < (l0.length : Int) := of_decide_eq_true (by first | (with_reducible assumption) | assumption); obtain ⟨ad107, e107, hx107_0⟩ := Kd.at_int HR0.out 0 p107 q107; cases e107; have qi107 : (0 < l0.length) = True := eq_true (by omega); (try rw [show ((0 : Int)).toNat = 0 from rfl] at hx107_0); (try rw [Addr.add_zero'] at hx107_0); replace hx107_0 := (HB.out.cell (World.block_lt_of_cell? w _ hx107_0)).trans hx107_0; replace p107 := eq_true p107; replace q107 := eq_true q107) | ((with_reducible refine gate_dst (N := 9) rfl ?_); refine box_event ?hg (N := 9) ?hd (cs := #[.int .i64 0, .bool false, .int .i64 0, .bool false, .int .i64 0]) (t := 77) ?hr ?_; (case hd => rfl); (case hg => rfl); (case hr => first | (go_simp; done) | (go_simp; rfl)); intro gb113 hg w33 hbox hb; have n0_ := Aside0.mk (blk_below (g := gb106) (o := .cells #[.int .i64 0, .bool false, .int .i64 0, .bool false, .int .i64 0] 77 (0, 0)) (by (with_reducible repeat (first | refine blk_drewN ?_ _ | refine blk_drew ?_ | refine blk_alloc ?_ _)); exact BK106.out) hb); have n1_ := Aside0.mk (below_step (by repeat (first | (with_reducible first | exact HB.out | apply below_alloc | apply pw_below_drewN | apply below_drew1 | refine below_set ?_ GE106.out) | exact HB.out)) hb); have n2_ := Aside0.mk (hbox); have n3_ := Aside0.mk ((by rw [hg]; exact (below_size (by repeat (first | (with_reducible first | exact HB.out | apply below_alloc | apply pw_below_drewN | apply below_drew1 | refine below_set ?_ GE106.out) | exact HB.out))) : w.heap.size ≤ gb113)); have n4_ := Aside0.mk ((by rw [hg]; exact (below_size (by repeat (first | (with_reducible first | exact HB.out | apply below_alloc | apply pw_below_drewN | apply below_drew1 | refine below_set ?_ GE106.out) | exact HB.out))) : w.heap.size ≤ gb113)); have n5_ := Aside0.mk ((by rw [hg]; exact Nat.ne_of_lt (blk_lt (g := gb106) (o := .cells #[.int .i64 0, .bool false, .int .i64 0, .bool false, .int .i64 0] 77 (0, 0)) (by (with_reducible repeat (first | refine blk_drewN ?_ _ | refine blk_drew ?_ | refine blk_alloc ?_ _)); exact BK106.out)) : gb106 ≠ gb113)); have n6_ := Aside0.mk ((by rw [hg]; exact Nat.ne_of_gt (blk_lt (g := gb106) (o := .cells #[.int .i64 0, .bool false, .int .i64 0, .bool false, .int .i64 0] 77 (0, 0)) (by (with_reducible repeat (first | refine blk_drewN ?_ _ | refine blk_drew ?_ | refine blk_alloc ?_ _)); exact BK106.out)) : gb113 ≠ gb106)); clear BK106; clear HB; have BK106 := n0_; have HB := n1_; have BK113 := n2_; have GW113 := n3_; have GE113 := n4_; have NB106_113 := n5_; have NB113_106 := n6_; clear n0_ n1_ n2_ n3_ n4_ n5_ n6_; clear hb hbox hg; have hnb34 := NB113_106.out; have hnc34 := NB106_113.out; have hcz35_0 : w33.cell? ⟨gb113, 0, none⟩ = some (.int .i64 0) := (blk_cell BK113.out 0).trans rfl; have hcz35_1 : w33.cell? ⟨gb113, 1, none⟩ = some (.bool false) := (blk_cell BK113.out 1).trans rfl; have hcz35_2 : w33.cell? ⟨gb113, 2, none⟩ = some (.int .i64 0) := (blk_cell BK113.out 2).trans rfl; have hcz35_3 : w33.cell? ⟨gb113, 3, none⟩ = some (.bool false) := (blk_cell BK113.out 3).trans rfl; have hcz35_4 : w33.cell? ⟨gb113, 4, none⟩ = some (.int .i64 0) := (blk_cell BK113.out 4).trans rfl; have hfz35_0 := blk_frozen BK113.out 0; have hfz35_1 := blk_frozen BK113.out 1; have hfz35_2 := blk_frozen BK113.out 2; have hfz35_3 := blk_frozen BK113.out 3; have hfz35_4 := blk_frozen BK113.out 4))
                    have n0_ : Aside0 ((((((w33.setCell ⟨gb113, 0, none⟩ (.int .i64 (Go.bits .and .i64 ((wrap64 (rd l0 0)) / 4) 15))).setCell ⟨gb113, 1, none⟩ (.bool true)).setCell ⟨gb113, 2, none⟩ (.int .i64 (-1))).setCell ⟨gb113, 3, none⟩ (.bool false)).setCell ⟨gb113, 4, none⟩ (.int .i64 1)).heap[gb106]? = some (.cells #[.int .i64 0, .bool false, .int .i64 0, .bool false, .int .i64 0] 77 (0, 0))) := ⟨by (with_reducible repeat (first | refine blk_drewN ?_ _ | refine blk_drew ?_ | refine blk_alloc ?_ _)); refine blk_far ?_ NB106_113.out _; (with_reducible repeat (first | refine blk_drewN ?_ _ | refine blk_drew ?_ | refine blk_alloc ?_ _)); refine blk_far ?_ NB106_113.out _; (with_reducible repeat (first | refine blk_drewN ?_ _ | refine blk_drew ?_ | refine blk_alloc ?_ _)); refine blk_far ?_ NB106_113.out _; (with_reducible repeat (first | refine blk_drewN ?_ _ | refine blk_drew ?_ | refine blk_alloc ?_ _)); refine blk_far ?_ NB106_113.out _; (with_reducible repeat (first | refine blk_drewN ?_ _ | refine blk_drew ?_ | refine blk_alloc ?_ _)); refine blk_far ?_ NB106_113.out _; (with_reducible repeat (first | refine blk_drewN ?_ _ | refine blk_drew ?_ | refine blk_alloc ?_ _)); exact BK106.out⟩
                    have n1_ : Aside0 ((((((w33.setCell ⟨gb113, 0, none⟩ (.int .i64 (Go.bits .and .i64 ((wrap64 (rd l0 0)) / 4) 15))).setCell ⟨gb113, 1, none⟩ (.bool true)).setCell ⟨gb113, 2, none⟩ (.int .i64 (-1))).setCell ⟨gb113, 3, none⟩ (.bool false)).setCell ⟨gb113, 4, none⟩ (.int .i64 1)).heap[gb113]? = some (.cells #[.int .i64 (Go.bits .and .i64 ((wrap64 (rd l0 0)) / 4) 15), .bool true, .int .i64 (-1), .bool false, .int .i64 1] 77 (0, 0))) := ⟨by (with_reducible repeat (first | refine blk_drewN ?_ _ | refine blk_drew ?_ | refine blk_alloc ?_ _)); refine blk_put (cs := #[.int .i64 (Go.bits .and .i64 ((wrap64 (rd l0 0)) / 4) 15), .bool true, .int .i64 (-1), .bool false, .int .i64 0]) ?_ 4 _ rfl; (with_reducible repeat (first | refine blk_drewN ?_ _ | refine blk_drew ?_ | refine blk_alloc ?_ _)); refine blk_put (cs := #[.int .i64 (Go.bits .and .i64 ((wrap64 (rd l0 0)) / 4) 15), .bool true, .int .i64 (-1), .bool false, .int .i64 0]) ?_ 3 _ rfl; (with_reducible repeat (first | refine blk_drewN ?_ _ | refine blk_drew ?_ | refine blk_alloc ?_ _)); refine blk_put (cs := #[.int .i64 (Go.bits .and .i64 ((wrap64 (rd l0 0)) / 4) 15), .bool true, .int .i64 0, .bool false, .int .i64 0]) ?_ 2 _ rfl; (with_reducible repeat (first | refine blk_drewN ?_ _ | refine blk_drew ?_ | refine blk_alloc ?_ _)); refine blk_put (cs := #[.int .i64 (Go.bits .and .i64 ((wrap64 (rd l0 0)) / 4) 15), .bool false, .int .i64 0, .bool false, .int .i64 0]) ?_ 1 _ rfl; (with_reducible repeat (first | refine blk_drewN ?_ _ | refine blk_drew ?_ | refine blk_alloc ?_ _)); refine blk_put (cs := #[.int .i64 0, .bool false, .int .i64 0, .bool false, .int .i64 0]) ?_ 0 _ rfl; (with_reducible repeat (first | refine blk_drewN ?_ _ | refine blk_drew ?_ | refine blk_alloc ?_ _)); exact BK113.out⟩
                    have n2_ : Aside0 (Below w.heap.size w (((((w33.setCell ⟨gb113, 0, none⟩ (.int .i64 (Go.bits .and .i64 ((wrap64 (rd l0 0)) / 4) 15))).setCell ⟨gb113, 1, none⟩ (.bool true)).setCell ⟨gb113, 2, none⟩ (.int .i64 (-1))).setCell ⟨gb113, 3, none⟩ (.bool false)).setCell ⟨gb113, 4, none⟩ (.int .i64 1))) := ⟨by repeat (first | (with_reducible first | exact HB.out | apply below_alloc | apply pw_below_drewN | apply below_drew1 | refine below_set ?_ GE106.out | refine below_set ?_ GE113.out) | exact HB.out)⟩
                    (try clear BK106)
                    (try clear BK113)
                    (try clear HB)
                    generalize (((((w33.setCell ⟨gb113, 0, none⟩ (.int .i64 (Go.bits .and .i64 ((wrap64 (rd l0 0)) / 4) 15))).setCell ⟨gb113, 1, none⟩ (.bool true)).setCell ⟨gb113, 2, none⟩ (.int .i64 (-1))).setCell ⟨gb113, 3, none⟩ (.bool false)).setCell ⟨gb113, 4, none⟩ (.int .i64 1)) = w36 at n0_ n1_ n2_ ⊢
                    have BK106 := n0_
                    have BK113 := n1_
                    have HB := n2_
                    clear n0_ n1_ n2_
                    have n0_ := Aside0.mk (blk_drew BK106.out)
                    have n1_ := Aside0.mk (blk_drew BK113.out)
                    have n2_ := Aside0.mk (below_drew1 HB.out)
                    clear BK106
                    clear BK113
                    clear HB
                    have BK106 := n0_
                    have BK113 := n1_
                    have HB := n2_
                    clear n0_ n1_ n2_
                    refine start_ (n := 7) (S := fun w' => w'.cell? ⟨gb113, 0, none⟩ = some (.int .i64 (Go.bits .and .i64 ((wrap64 (rd l0 0)) / 4) 15)) ∧ w'.cell? ⟨gb113, 1, none⟩ = some (.bool true) ∧ w'.cell? ⟨gb113, 2, none⟩ = some (.int .i64 (-1)) ∧ w'.cell? ⟨gb113, 3, none⟩ = some (.bool false) ∧ w'.cell? ⟨gb113, 4, none⟩ = some (.int .i64 1)) (ds := [6]) #[false, false, false, false, false, false, false] (by kernel_rfl) rfl rfl ⟨(blk_cell BK113.out 0).trans rfl, (blk_cell BK113.out 1).trans rfl, (blk_cell BK113.out 2).trans rfl, (blk_cell BK113.out 3).trans rfl, (blk_cell BK113.out 4).trans rfl⟩ (fun hHeld => ?_)
                    generalize w36.drew = w37 at BK106 BK113 HB hHeld ⊢
                    refine pure_ (i := 0) (N := some 54) (v := ?_) (a' := ?_) #[true, false, false, false, false, false, false] rfl rfl (by kernel_rfl) (fun _ _ _ h => h) (Or.inl ⟨by rfl, ?_⟩) ?_ ?_
                    rotate_left
                    · intro w'
                      go_simp
                      with_reducible rfl
                    rotate_left
                    · simp only [Act.put, List.setIfInBounds_toArray, List.set_cons_zero, List.set_cons_succ, i64_w, i32_w]
                      rfl
                    refine pure_ (i := 2) (N := some 56) (v := ?_) (a' := ?_) #[true, false, true, false, false, false, false] rfl rfl (by kernel_rfl) (fun _ _ _ h => h) (Or.inl ⟨by rfl, ?_⟩) ?_ ?_
                    rotate_left
                    · intro w'
                      go_simp
                      with_reducible rfl
                    rotate_left
                    · simp only [Act.put, List.setIfInBounds_toArray, List.set_cons_zero, List.set_cons_succ, i64_w, i32_w]
                      rfl
                    refine pure_ (i := 3) (N := some 57) (v := ?_) (a' := ?_) #[true, false, true, true, false, false, false] rfl rfl (by kernel_rfl) (fun _ _ _ h => h) (Or.inl ⟨by rfl, ?_⟩) ?_ ?_
                    rotate_left
                    · intro w'
                      go_simp
                      with_reducible rfl
                    rotate_left
                    · simp only [Act.put, List.setIfInBounds_toArray, List.set_cons_zero, List.set_cons_succ, i64_w, i32_w]
                      rfl
                    refine take_ (i := 1) (N := some 55) (v := ?_) (a' := ?_) #[true, true, true, true, false, false, false] rfl rfl (by kernel_rfl) (fun _ _ _ h => h) (Or.inl ⟨by rfl, ?_⟩) hHeld ?_ ?_
                    rotate_left
                    · rintro w' ⟨s0, s1, s2, s3, s4⟩
                      go_simp
                      with_reducible rfl
                    rotate_left
                    · simp only [Act.put, List.setIfInBounds_toArray, List.set_cons_zero, List.set_cons_succ, i64_w, i32_w]
                      rfl
                    refine pure_ (i := 4) (N := some 58) (v := ?_) (a' := ?_) #[true, true, true, true, true, false, false] rfl rfl (by kernel_rfl) (fun _ _ _ h => h) (Or.inl ⟨by rfl, ?_⟩) ?_ ?_
                    rotate_left
                    · intro w'
                      go_simp
                      with_reducible rfl
                    rotate_left
                    · simp only [Act.put, List.setIfInBounds_toArray, List.set_cons_zero, List.set_cons_succ, i64_w, i32_w]
                      rfl
                    refine pure_ (i := 5) (N := some 59) (v := ?_) (a' := ?_) #[true, true, true, true, true, true, false] rfl rfl (by kernel_rfl) (fun _ _ _ h => h) (Or.inl ⟨by rfl, ?_⟩) ?_ ?_
                    rotate_left
                    · intro w'
                      go_simp
                      with_reducible rfl
                    rotate_left
                    · simp only [Act.put, List.setIfInBounds_toArray, List.set_cons_zero, List.set_cons_succ, i64_w, i32_w]
                      rfl
                    refine last_ (i := 6) (N := none) #[true, true, true, true, true, true, true] rfl rfl (by kernel_rfl) (by decide) (fun K hK => ?_)
                    have hs38 : w37.cell? ⟨gb113, 4, none⟩ = some (.int .i64 1) := (blk_cell BK113.out 4).trans rfl
                    have hfs38 := blk_frozen BK113.out 4
                    have hns38_0 := NB106_113.out
                    have hms38_0 := NB113_106.out
                    refine skip_ (w1 := ?_) (by rfl) rfl ?_ ?_
                    rotate_left
                    · go_simp
                      rfl
                    refine hK.out _ _ ?_
                    clear hK K
                    refine done_ (by kernel_rfl) ?_
                    have hcz39_0 : w37.cell? ⟨gb113, 0, none⟩ = some (.int .i64 (Go.bits .and .i64 ((wrap64 (rd l0 0)) / 4) 15)) := (blk_cell BK113.out 0).trans rfl
                    have hcz39_1 : w37.cell? ⟨gb113, 1, none⟩ = some (.bool true) := (blk_cell BK113.out 1).trans rfl
                    have hcz39_2 : w37.cell? ⟨gb113, 2, none⟩ = some (.int .i64 (-1)) := (blk_cell BK113.out 2).trans rfl
                    have hcz39_3 : w37.cell? ⟨gb113, 3, none⟩ = some (.bool false) := (blk_cell BK113.out 3).trans rfl
                    have hcz39_4 : w37.cell? ⟨gb113, 4, none⟩ = some (.int .i64 1) := (blk_cell BK113.out 4).trans rfl
                    have hfz39_0 := blk_frozen BK113.out 0
                    have hfz39_1 := blk_frozen BK113.out 1
                    have hfz39_2 := blk_frozen BK113.out 2
                    have hfz39_3 := blk_frozen BK113.out 3
                    have hfz39_4 := blk_frozen BK113.out 4
                    obtain ⟨i040, hi040, _, hsz40, _⟩ := info_parts info5
                    obtain ⟨A40, hcut40, hA40, hC40⟩ := print_mid_of (P := Tryd.prog) (Value.int .u8) 0 22 5 .i64 .i64 Tryd.underlying22 hi040 hsz40 (some ad107) c0 l0 1 (wrap64 (1 + (ji18))) (by omega) (by first | omega | exact of_decide_eq_true (by first | (with_reducible assumption) | assumption)) (of_decide_eq_true (by first | (with_reducible assumption) | assumption)) HC0.out
                    have HR114 := Aside0.mk (Kd.C_of_reads (h1 := fun _ => rfl) (hA40 _ (Kd.reads_of_C HR0.out)))
                    have HC114 := Aside0.mk hC40
                    clear hA40 hC40 hi040 hsz40
                    try go_wp2_with (first | ((with_reducible refine gate_callee (f := 53) rfl ?_); refine goesL_ (some 70) rfl rfl Tryd.func53 (by kernel_rfl) rfl #[.slice A40 ((l0.take ((wrap64 (1 + (ji18))) : Int).toNat).drop 1).length (c0 - 1)] rfl (by (try simp only [List.map_toArray, List.map_cons, List.map_nil]); first | done | (rw [show ((l0.take ((wrap64 (1 + (ji18))) : Int).toNat).drop 1).length = ((wrap64 (1 + (ji18))).toNat - 1) from (by rw [List.length_drop, List.length_take]; have h_ : ((wrap64 (1 + (ji18))) : Int) ≤ (l0.length : Int) := of_decide_eq_true (by first | (with_reducible assumption) | assumption); omega)] <;> rfl) | (simp only [hji18]; rfl) | rfl | (simp only [List.length_drop, List.length_take]; rfl)) ?_; (with_reducible refine (spec_Number.calls k _ _ ((l0.take ((wrap64 (1 + (ji18))) : Int).toNat).drop 1) t115 _ ?side1 ?side2 A31.out).mono ?_); (case side1 => exact Kd.C_below HR114.out (by repeat (first | (with_reducible first | exact HB.out | apply below_alloc | apply pw_below_drewN | apply below_drew1 | refine below_set ?_ GE106.out | refine below_set ?_ GE113.out) | exact HB.out))); (case side2 => exact HC114.out); rintro e w' ⟨rfl, ⟨nd, rfl⟩⟩; refine ⟨_, rfl, ?_⟩; have hcz41_0 : w37.cell? ⟨gb106, 0, none⟩ = some (.int .i64 0) := (blk_cell BK106.out 0).trans rfl; have hcz41_1 : w37.cell? ⟨gb106, 1, none⟩ = some (.bool false) := (blk_cell BK106.out 1).trans rfl; have hcz41_2 : w37.cell? ⟨gb106, 2, none⟩ = some (.int .i64 0) := (blk_cell BK106.out 2).trans rfl; have hcz41_3 : w37.cell? ⟨gb106, 3, none⟩ = some (.bool false) := (blk_cell BK106.out 3).trans rfl; have hcz41_4 : w37.cell? ⟨gb106, 4, none⟩ = some (.int .i64 0) := (blk_cell BK106.out 4).trans rfl; have hfz41_0 := blk_frozen BK106.out 0; have hfz41_1 := blk_frozen BK106.out 1; have hfz41_2 := blk_frozen BK106.out 2; have hfz41_3 := blk_frozen BK106.out 3; have hfz41_4 := blk_frozen BK106.out 4))
                    refine bodyPost_ret (results_ct rfl _ _ gb106 77 #[.int .i64 (Go.bits .and .i64 ((wrap64 (rd l0 0)) / 4) 15), .bool true, .int .i64 t115, .bool false, .int .i64 (wrap64 (1 + (ji18)))] (0, 0) _ rfl (by (with_reducible repeat (first | refine blk_drewN ?_ _ | refine blk_drew ?_ | refine blk_alloc ?_ _)); refine blk_put (cs := #[.int .i64 (Go.bits .and .i64 ((wrap64 (rd l0 0)) / 4) 15), .bool true, .int .i64 t115, .bool false, .int .i64 0]) ?_ 4 _ rfl; (with_reducible repeat (first | refine blk_drewN ?_ _ | refine blk_drew ?_ | refine blk_alloc ?_ _)); refine blk_put (cs := #[.int .i64 (Go.bits .and .i64 ((wrap64 (rd l0 0)) / 4) 15), .bool true, .int .i64 t115, .bool false, .int .i64 0]) ?_ 3 _ rfl; (with_reducible repeat (first | refine blk_drewN ?_ _ | refine blk_drew ?_ | refine blk_alloc ?_ _)); refine blk_put (cs := #[.int .i64 (Go.bits .and .i64 ((wrap64 (rd l0 0)) / 4) 15), .bool true, .int .i64 0, .bool false, .int .i64 0]) ?_ 2 _ rfl; (with_reducible repeat (first | refine blk_drewN ?_ _ | refine blk_drew ?_ | refine blk_alloc ?_ _)); refine blk_put (cs := #[.int .i64 (Go.bits .and .i64 ((wrap64 (rd l0 0)) / 4) 15), .bool false, .int .i64 0, .bool false, .int .i64 0]) ?_ 1 _ rfl; (with_reducible repeat (first | refine blk_drewN ?_ _ | refine blk_drew ?_ | refine blk_alloc ?_ _)); refine blk_put (cs := #[.int .i64 0, .bool false, .int .i64 0, .bool false, .int .i64 0]) ?_ 0 _ rfl; (with_reducible repeat (first | refine blk_drewN ?_ _ | refine blk_drew ?_ | refine blk_alloc ?_ _)); refine blk_far ?_ NB106_113.out _; (with_reducible repeat (first | refine blk_drewN ?_ _ | refine blk_drew ?_ | refine blk_alloc ?_ _)); refine blk_far ?_ NB106_113.out _; (with_reducible repeat (first | refine blk_drewN ?_ _ | refine blk_drew ?_ | refine blk_alloc ?_ _)); exact BK106.out) Tryd.underlying77 rfl (by kernel_rfl)) rfl ?_
                    exact ⟨by first | rfl | (simp [errW_none, errW_some] <;> rfl) | (simp only [← hji16, ← hji18]; first | rfl | (simp [errW_none, errW_some] <;> rfl)) | (simp [*, errW_none, errW_some] <;> rfl), by repeat (first | (with_reducible first | exact HB.out | apply below_alloc | apply pw_below_drewN | apply below_drew1 | refine below_set ?_ GE106.out | refine below_set ?_ GE113.out) | exact HB.out)⟩
                  · rw [if_neg c30] at H
                    exact absurd H (by simp)
                · rw [if_neg c29] at H
                  exact absurd H (by simp)
            · rw [if_neg c17] at H
              exact absurd H (by simp)
        · rw [if_neg c9] at H
          have c9b0 : ((Go.bits .and .i64 (wrap64 (rd l0 0)) 64) == 0) = false := beq_eq_false_iff_ne.mpr c9
          have c9b1 : ((Go.bits .and .i64 (wrap64 (rd l0 0)) 64) != 0) = true := bne_iff_ne.mpr c9
          by_cases c42 : 1 ≤ (l0.length : Int)
          · rw [if_pos c42] at H
            have c42b0 := eq_true c42
            have c42b1 : decide (1 ≤ (l0.length : Int)) = true := decide_eq_true c42
            clear c42
            replace H := Option.bind_eq_some_iff.mp H
            obtain ⟨⟨t109, t110, t111, t112⟩, A430, H⟩ := H
            replace H : (if t112 = 0 then (some (Go.bits .and .i64 (wrap64 (rd l0 0)) 63, false, t109, t110, wrap64 (1 + t111), 0)) else (some (0, false, 0, false, 0, t112))) = some (r1, r2, r3, r4, r5, r6) := H
            have A43 := Aside0.mk A430
            clear A430
            by_cases c44 : t112 = 0
            · rw [if_pos c44] at H
              have c44b0 : (t112 == 0) = true := beq_iff_eq.mpr c44
              have c44b1 : (t112 != 0) = false := bne_eq_false_iff_eq.mpr c44
              clear c44
              simp only [Option.some.injEq, Prod.mk.injEq] at H
              obtain ⟨rfl, rfl, rfl, rfl, rfl, rfl⟩ := H
              go_enter Tryd.func34, Tryd.ntmps34
              go_wp2_with (first | ((with_reducible refine gate_dst (N := 2) rfl ?_); refine box_event ?hg (N := 2) ?hd (cs := #[.int .i64 0, .bool false, .int .i64 0, .bool false, .int .i64 0]) (t := 77) ?hr ?_; (case hd => rfl); (case hg => rfl); (case hr => first | (go_simp; done) | (go_simp; rfl)); intro gb106 hg w45 hbox hb; have n0_ := Aside0.mk (below_step (by repeat (first | (with_reducible first | exact HB.out | apply below_alloc | apply pw_below_drewN | apply below_drew1) | exact HB.out)) hb); have n1_ := Aside0.mk (hbox); have n2_ := Aside0.mk ((by rw [hg]; exact (below_size (by repeat (first | (with_reducible first | exact HB.out | apply below_alloc | apply pw_below_drewN | apply below_drew1) | exact HB.out))) : w.heap.size ≤ gb106)); have n3_ := Aside0.mk ((by rw [hg]; exact (below_size (by repeat (first | (with_reducible first | exact HB.out | apply below_alloc | apply pw_below_drewN | apply below_drew1) | exact HB.out))) : w.heap.size ≤ gb106)); clear HB; have HB := n0_; have BK106 := n1_; have GW106 := n2_; have GE106 := n3_; clear n0_ n1_ n2_ n3_; clear hb hbox hg; have p107 : 0 ≤ (0 : Int) := (by omega); have q107 : 0 < (l0.length : Int) := of_decide_eq_true (by first | (with_reducible assumption) | assumption); obtain ⟨ad107, e107, hx107_0⟩ := Kd.at_int HR0.out 0 p107 q107; cases e107; have qi107 : (0 < l0.length) = True := eq_true (by omega); (try rw [show ((0 : Int)).toNat = 0 from rfl] at hx107_0); (try rw [Addr.add_zero'] at hx107_0); replace hx107_0 := (HB.out.cell (World.block_lt_of_cell? w _ hx107_0)).trans hx107_0; replace p107 := eq_true p107; replace q107 := eq_true q107; obtain ⟨i046, hi046, _, hsz46, _⟩ := info_parts info5; obtain ⟨A46, hcut46, hA46, hC46⟩ := print_drop_of (P := Tryd.prog) (Value.int .u8) 0 22 5 .i64 Tryd.underlying22 hi046 hsz46 (some ad107) c0 l0 1 (by omega) (of_decide_eq_true (by first | (with_reducible assumption) | assumption)) HC0.out; have HR108 := Aside0.mk (Kd.C_of_reads (h1 := fun _ => rfl) (hA46 _ (Kd.reads_of_C HR0.out))); have HC108 := Aside0.mk hC46; clear hA46 hC46 hi046 hsz46) | ((with_reducible refine gate_callee (f := 35) rfl ?_); refine goesL_ (some 29) rfl rfl Tryd.func35 (by kernel_rfl) rfl #[.slice A46 (l0.drop 1).length (c0 - 1)] rfl (by (try simp only [List.map_toArray, List.map_cons, List.map_nil]); first | done | (rw [show (l0.drop 1).length = (l0.length - 1) from List.length_drop] <;> rfl) | rfl | (simp only [List.length_drop, List.length_take]; rfl)) ?_; (with_reducible refine (spec_ReadLength.calls k _ _ (l0.drop 1) t109 t110 t111 t112 _ ?side1 ?side2 A43.out).mono ?_); (case side1 => repeat (first | exact (Kd.C_below HR108.out HB.out) | (with_reducible refine Kd.C_alloc ?_ _) | (with_reducible refine Kd.C_drewN ?_ _) | (with_reducible refine Kd.C_drew ?_))); (case side2 => exact HC108.out); rintro e w' ⟨rfl, ⟨nd, rfl⟩⟩; refine ⟨_, rfl, ?_⟩; (try (rw [drewN_self w45]; generalize hq_ : World.drewN w45 _ = w45; have n0_ : Aside0 (w45.heap[gb106]? = some (.cells #[.int .i64 0, .bool false, .int .i64 0, .bool false, .int .i64 0] 77 (0, 0))) := ⟨by rw [← hq_]; exact (by (with_reducible repeat (first | refine blk_drewN ?_ _ | refine blk_drew ?_ | refine blk_alloc ?_ _)); exact BK106.out)⟩; have n1_ : Aside0 (Below w.heap.size w w45) := ⟨by rw [← hq_]; exact (by repeat (first | (with_reducible first | exact HB.out | apply below_alloc | apply pw_below_drewN | apply below_drew1 | refine below_set ?_ GE106.out) | exact HB.out))⟩; clear BK106 HB hq_; have BK106 := n0_; have HB := n1_; clear n0_ n1_)); have hcz47_0 : w45.cell? ⟨gb106, 0, none⟩ = some (.int .i64 0) := (blk_cell BK106.out 0).trans rfl; have hcz47_1 : w45.cell? ⟨gb106, 1, none⟩ = some (.bool false) := (blk_cell BK106.out 1).trans rfl; have hcz47_2 : w45.cell? ⟨gb106, 2, none⟩ = some (.int .i64 0) := (blk_cell BK106.out 2).trans rfl; have hcz47_3 : w45.cell? ⟨gb106, 3, none⟩ = some (.bool false) := (blk_cell BK106.out 3).trans rfl; have hcz47_4 : w45.cell? ⟨gb106, 4, none⟩ = some (.int .i64 0) := (blk_cell BK106.out 4).trans rfl; have hfz47_0 := blk_frozen BK106.out 0; have hfz47_1 := blk_frozen BK106.out 1; have hfz47_2 := blk_frozen BK106.out 2; have hfz47_3 := blk_frozen BK106.out 3; have hfz47_4 := blk_frozen BK106.out 4))
              refine bodyPost_ret (results_ct rfl _ _ gb106 77 #[.int .i64 (Go.bits .and .i64 (wrap64 (rd l0 0)) 63), .bool false, .int .i64 t109, .bool t110, .int .i64 (wrap64 (1 + t111))] (0, 0) _ rfl (by (with_reducible repeat (first | refine blk_drewN ?_ _ | refine blk_drew ?_ | refine blk_alloc ?_ _)); refine blk_put (cs := #[.int .i64 (Go.bits .and .i64 (wrap64 (rd l0 0)) 63), .bool false, .int .i64 t109, .bool t110, .int .i64 0]) ?_ 4 _ rfl; (with_reducible repeat (first | refine blk_drewN ?_ _ | refine blk_drew ?_ | refine blk_alloc ?_ _)); refine blk_put (cs := #[.int .i64 (Go.bits .and .i64 (wrap64 (rd l0 0)) 63), .bool false, .int .i64 t109, .bool false, .int .i64 0]) ?_ 3 _ rfl; (with_reducible repeat (first | refine blk_drewN ?_ _ | refine blk_drew ?_ | refine blk_alloc ?_ _)); refine blk_put (cs := #[.int .i64 (Go.bits .and .i64 (wrap64 (rd l0 0)) 63), .bool false, .int .i64 0, .bool false, .int .i64 0]) ?_ 2 _ rfl; (with_reducible repeat (first | refine blk_drewN ?_ _ | refine blk_drew ?_ | refine blk_alloc ?_ _)); refine blk_put (cs := #[.int .i64 (Go.bits .and .i64 (wrap64 (rd l0 0)) 63), .bool false, .int .i64 0, .bool false, .int .i64 0]) ?_ 1 _ rfl; (with_reducible repeat (first | refine blk_drewN ?_ _ | refine blk_drew ?_ | refine blk_alloc ?_ _)); refine blk_put (cs := #[.int .i64 0, .bool false, .int .i64 0, .bool false, .int .i64 0]) ?_ 0 _ rfl; (with_reducible repeat (first | refine blk_drewN ?_ _ | refine blk_drew ?_ | refine blk_alloc ?_ _)); exact BK106.out) Tryd.underlying77 rfl (by kernel_rfl)) rfl ?_
              exact ⟨by first | rfl | (simp [errW_none, errW_some] <;> rfl) | (simp [*, errW_none, errW_some] <;> rfl), by repeat (first | (with_reducible first | exact HB.out | apply below_alloc | apply pw_below_drewN | apply below_drew1 | refine below_set ?_ GE106.out) | exact HB.out)⟩
            · rw [if_neg c44] at H
              have c44b0 : (t112 == 0) = false := beq_eq_false_iff_ne.mpr c44
              have c44b1 : (t112 != 0) = true := bne_iff_ne.mpr c44
              simp only [Option.some.injEq, Prod.mk.injEq] at H
              obtain ⟨rfl, rfl, rfl, rfl, rfl, rfl⟩ := H
              go_enter Tryd.func34, Tryd.ntmps34
              go_wp2_with (first | ((with_reducible refine gate_dst (N := 2) rfl ?_); refine box_event ?hg (N := 2) ?hd (cs := #[.int .i64 0, .bool false, .int .i64 0, .bool false, .int .i64 0]) (t := 77) ?hr ?_; (case hd => rfl); (case hg => rfl); (case hr => first | (go_simp; done) | (go_simp; rfl)); intro gb106 hg w48 hbox hb; have n0_ := Aside0.mk (below_step (by repeat (first | (with_reducible first | exact HB.out | apply below_alloc | apply pw_below_drewN | apply below_drew1) | exact HB.out)) hb); have n1_ := Aside0.mk (hbox); have n2_ := Aside0.mk ((by rw [hg]; exact (below_size (by repeat (first | (with_reducible first | exact HB.out | apply below_alloc | apply pw_below_drewN | apply below_drew1) | exact HB.out))) : w.heap.size ≤ gb106)); have n3_ := Aside0.mk ((by rw [hg]; exact (below_size (by repeat (first | (with_reducible first | exact HB.out | apply below_alloc | apply pw_below_drewN | apply below_drew1) | exact HB.out))) : w.heap.size ≤ gb106)); clear HB; have HB := n0_; have BK106 := n1_; have GW106 := n2_; have GE106 := n3_; clear n0_ n1_ n2_ n3_; clear hb hbox hg; have p107 : 0 ≤ (0 : Int) := (by omega); have q107 : 0 < (l0.length : Int) := of_decide_eq_true (by first | (with_reducible assumption) | assumption); obtain ⟨ad107, e107, hx107_0⟩ := Kd.at_int HR0.out 0 p107 q107; cases e107; have qi107 : (0 < l0.length) = True := eq_true (by omega); (try rw [show ((0 : Int)).toNat = 0 from rfl] at hx107_0); (try rw [Addr.add_zero'] at hx107_0); replace hx107_0 := (HB.out.cell (World.block_lt_of_cell? w _ hx107_0)).trans hx107_0; replace p107 := eq_true p107; replace q107 := eq_true q107; obtain ⟨i049, hi049, _, hsz49, _⟩ := info_parts info5; obtain ⟨A49, hcut49, hA49, hC49⟩ := print_drop_of (P := Tryd.prog) (Value.int .u8) 0 22 5 .i64 Tryd.underlying22 hi049 hsz49 (some ad107) c0 l0 1 (by omega) (of_decide_eq_true (by first | (with_reducible assumption) | assumption)) HC0.out; have HR108 := Aside0.mk (Kd.C_of_reads (h1 := fun _ => rfl) (hA49 _ (Kd.reads_of_C HR0.out))); have HC108 := Aside0.mk hC49; clear hA49 hC49 hi049 hsz49) | ((with_reducible refine gate_callee (f := 35) rfl ?_); refine goesL_ (some 29) rfl rfl Tryd.func35 (by kernel_rfl) rfl #[.slice A49 (l0.drop 1).length (c0 - 1)] rfl (by (try simp only [List.map_toArray, List.map_cons, List.map_nil]); first | done | (rw [show (l0.drop 1).length = (l0.length - 1) from List.length_drop] <;> rfl) | rfl | (simp only [List.length_drop, List.length_take]; rfl)) ?_; (with_reducible refine (spec_ReadLength.calls k _ _ (l0.drop 1) t109 t110 t111 t112 _ ?side1 ?side2 A43.out).mono ?_); (case side1 => repeat (first | exact (Kd.C_below HR108.out HB.out) | (with_reducible refine Kd.C_alloc ?_ _) | (with_reducible refine Kd.C_drewN ?_ _) | (with_reducible refine Kd.C_drew ?_))); (case side2 => exact HC108.out); rintro e w' ⟨rfl, ⟨nd, rfl⟩⟩; refine ⟨_, rfl, ?_⟩; (try (rw [drewN_self w48]; generalize hq_ : World.drewN w48 _ = w48; have n0_ : Aside0 (w48.heap[gb106]? = some (.cells #[.int .i64 0, .bool false, .int .i64 0, .bool false, .int .i64 0] 77 (0, 0))) := ⟨by rw [← hq_]; exact (by (with_reducible repeat (first | refine blk_drewN ?_ _ | refine blk_drew ?_ | refine blk_alloc ?_ _)); exact BK106.out)⟩; have n1_ : Aside0 (Below w.heap.size w w48) := ⟨by rw [← hq_]; exact (by repeat (first | (with_reducible first | exact HB.out | apply below_alloc | apply pw_below_drewN | apply below_drew1 | refine below_set ?_ GE106.out) | exact HB.out))⟩; clear BK106 HB hq_; have BK106 := n0_; have HB := n1_; clear n0_ n1_)); have hcz50_0 : w48.cell? ⟨gb106, 0, none⟩ = some (.int .i64 0) := (blk_cell BK106.out 0).trans rfl; have hcz50_1 : w48.cell? ⟨gb106, 1, none⟩ = some (.bool false) := (blk_cell BK106.out 1).trans rfl; have hcz50_2 : w48.cell? ⟨gb106, 2, none⟩ = some (.int .i64 0) := (blk_cell BK106.out 2).trans rfl; have hcz50_3 : w48.cell? ⟨gb106, 3, none⟩ = some (.bool false) := (blk_cell BK106.out 3).trans rfl; have hcz50_4 : w48.cell? ⟨gb106, 4, none⟩ = some (.int .i64 0) := (blk_cell BK106.out 4).trans rfl; have hfz50_0 := blk_frozen BK106.out 0; have hfz50_1 := blk_frozen BK106.out 1; have hfz50_2 := blk_frozen BK106.out 2; have hfz50_3 := blk_frozen BK106.out 3; have hfz50_4 := blk_frozen BK106.out 4))
              refine bodyPost_ret (results_ct rfl _ _ gb106 77 #[.int .i64 0, .bool false, .int .i64 0, .bool false, .int .i64 0] (0, 0) _ rfl (by (with_reducible repeat (first | refine blk_drewN ?_ _ | refine blk_drew ?_ | refine blk_alloc ?_ _)); refine blk_put (cs := #[.int .i64 0, .bool false, .int .i64 0, .bool false, .int .i64 0]) ?_ 4 _ rfl; (with_reducible repeat (first | refine blk_drewN ?_ _ | refine blk_drew ?_ | refine blk_alloc ?_ _)); refine blk_put (cs := #[.int .i64 0, .bool false, .int .i64 0, .bool false, .int .i64 0]) ?_ 3 _ rfl; (with_reducible repeat (first | refine blk_drewN ?_ _ | refine blk_drew ?_ | refine blk_alloc ?_ _)); refine blk_put (cs := #[.int .i64 0, .bool false, .int .i64 0, .bool false, .int .i64 0]) ?_ 2 _ rfl; (with_reducible repeat (first | refine blk_drewN ?_ _ | refine blk_drew ?_ | refine blk_alloc ?_ _)); refine blk_put (cs := #[.int .i64 0, .bool false, .int .i64 0, .bool false, .int .i64 0]) ?_ 1 _ rfl; (with_reducible repeat (first | refine blk_drewN ?_ _ | refine blk_drew ?_ | refine blk_alloc ?_ _)); refine blk_put (cs := #[.int .i64 0, .bool false, .int .i64 0, .bool false, .int .i64 0]) ?_ 0 _ rfl; (with_reducible repeat (first | refine blk_drewN ?_ _ | refine blk_drew ?_ | refine blk_alloc ?_ _)); exact BK106.out) Tryd.underlying77 rfl (by kernel_rfl)) rfl ?_
              exact ⟨by first | rfl | (simp [errW_none, errW_some] <;> rfl) | (simp [*, errW_none, errW_some] <;> rfl), by repeat (first | (with_reducible first | exact HB.out | apply below_alloc | apply pw_below_drewN | apply below_drew1 | refine below_set ?_ GE106.out) | exact HB.out)⟩
          · rw [if_neg c42] at H
            exact absurd H (by simp)
    · rw [if_neg c5] at H
      exact absurd H (by simp)

end Go.Proofs.YtjdnnpfhlkgooaaDoor.PFnBodyReads
