-- PRINTED BY print.sh 35421559b90ae4d0a3588c463048766b98c2df88dd9212a6774a882060cdf62d: not written by this session
import Derived.Test.YtfhefoaieefnkaaDoorPFnReadLengthx0
namespace Go.Proofs.YtfhefoaieefnkaaDoor.PFnReadLength
open Go.RowKit Go.Proofs.YtfhefoaieefnkaaDoorW.PrintWords Go.Proofs.YtfhefoaieefnkaaDoorW.PrintLast Go.Proofs.YtfhefoaieefnkaaDoorW.PrintMore
attribute [local go_sem] max2_int min2_int max_two min_two max_three min_three max_four min_four   -- for this text's walks alone
set_option linter.unusedVariables false
set_option linter.unusedSimpArgs false

-- NOT PRINTED: function 84 (io_ReadAtLeast)

-- NOT PRINTED: function 73 (io_ReadFull)

-- NOT PRINTED: function 83 (packet_readFull)

-- NOT PRINTED: function 72 (packet_readLength)

-- NOT PRINTED: function 45 (packet_ZzReadLength)

-- NOT PRINTED: function 46 (impl_end)

-- NOT PRINTED: function 15 (impl_ReadLength)

/-! ### spec_Number: function 47 -/
def spec_Number.l0 : Nat → Int → List Int → Int → Int → Option (Int)
  | 0, _, _, _, _ => none
  | k + 1, x3, x6, x7, x8 => if x8 < x7 then (if 0 ≤ x8 then (if x8 < (x6.length : Int) then (spec_Number.l0 k (Go.bits .or .i64 (wrap64 (x3 * 256)) (wrap64 (rd x6 x8))) x6 x7 (wrap64 (x8 + 1))) else (none)) else (none)) else (some x3)
def spec_Number.f (k : Nat) (l0 : List Int) : Option (Int) := spec_Number.l0 k 0 l0 (l0.length : Int) 0
theorem spec_Number.mono_l : ∀ k, (∀ y0 y1 y2 y3, LeO (spec_Number.l0 k y0 y1 y2 y3) (spec_Number.l0 (k + 1) y0 y1 y2 y3))
  | 0 => fun _ _ _ _ r h => by simp [spec_Number.l0] at h
  | k + 1 => by
    have ih0 := spec_Number.mono_l k
    · intro y0 y1 y2 y3
      unfold spec_Number.l0
      repeat' first
      | (with_reducible exact ih0 _ _ _ _)
      | (with_reducible exact LeO.refl _)
      | (with_reducible exact LeO.none _)
      | (with_reducible refine LeO.ite ?_ ?_)
      | (with_reducible refine LeO.bind ?_ (fun _ => ?_))
      | exact ih0 _ _ _ _
      | exact LeO.none _
      | refine LeO.ite ?_ ?_
      | refine LeO.bind ?_ (fun _ => ?_)
theorem spec_Number.mono : ∀ a0 k, LeO (spec_Number.f k a0) (spec_Number.f (k + 1) a0) := by
  intro a0 k
  have ih0 := spec_Number.mono_l k
  unfold spec_Number.f
  repeat' first
      | (with_reducible exact ih0 _ _ _ _)
      | (with_reducible exact LeO.refl _)
      | (with_reducible exact LeO.none _)
      | (with_reducible refine LeO.ite ?_ ?_)
      | (with_reducible refine LeO.bind ?_ (fun _ => ?_))
      | exact ih0 _ _ _ _
      | exact LeO.none _
      | refine LeO.ite ?_ ?_
      | refine LeO.bind ?_ (fun _ => ?_)
set_option maxHeartbeats 8000000 in
set_option maxRecDepth 100000 in
theorem spec_Number.calls (k : Nat) (A0 : Option Addr) (c0 : Nat) (l0 : List Int) (r : Int) (w : World) (hr0 : Kd.C (Kd.int .u8) w A0 l0.length l0) (hc0 : l0.length ≤ c0) (h : spec_Number.f k l0 = some r) :
    Calls Tryd.prog 47 #[.slice A0 l0.length c0] w fun e w' => e = .returned (.int .i64 r) ∧ Drawn0 w w' := by
  have HR0 := Aside0.mk hr0
  have HC0 := Aside0.mk hc0
  clear hr0 hc0
  have H : (spec_Number.l0 k 0 l0 (l0.length : Int) 0) = some r := h
  clear h
  have H' := Aside0.mk H
  clear H
  go_enter Tryd.func47, Tryd.ntmps47
  go_wp2
  go_loopg [3, 8] k (fun kq v3 v8 w' => ∃ (x3_1 : Int) (x8_1 : Int), v3 = .int .i64 x3_1 ∧ v8 = .int .i64 x8_1 ∧ Aside0 (spec_Number.l0 kq x3_1 l0 (l0.length : Int) x8_1 = some r) ∧ Aside0 (kq ≤ k) ∧ Drawn0 w w')
  case atStart => exact ⟨(0), (0), (by first | rfl | (simp; done) | (simp [*]; done)), (by first | rfl | (simp; done) | (simp [*]; done)), H', ⟨Nat.le_refl _⟩, by repeat (first | exact Drawn0.refl _ | apply Drawn0.step)⟩
  case round =>
    clear H'
    obtain ⟨x3_1, x8_1, rfl, rfl, HA, HK1, ⟨m1, rfl⟩⟩ := hrel
    cases gk with
    | zero => exact absurd HA.out (by simp [spec_Number.l0])
    | succ k1 =>
      have H := HA.out
      clear HA
      simp only [spec_Number.l0] at H
      by_cases c2 : x8_1 < (l0.length : Int)
      · rw [if_pos c2] at H
        have c2b0 : decide (x8_1 < (l0.length : Int)) = true := decide_eq_true c2
        clear c2
        by_cases c3 : 0 ≤ x8_1
        · rw [if_pos c3] at H
          have c3b0 : decide (0 ≤ x8_1) = true := decide_eq_true c3
          clear c3
          by_cases c4 : x8_1 < (l0.length : Int)
          · rw [if_pos c4] at H
            have c4b0 : decide (x8_1 < (l0.length : Int)) = true := decide_eq_true c4
            clear c4
            have H' := Aside0.mk H
            clear H
            have p103 : 0 ≤ (x8_1 : Int) := of_decide_eq_true (by first | (with_reducible assumption) | assumption)
            have q103 : x8_1 < (l0.length : Int) := of_decide_eq_true (by first | (with_reducible assumption) | assumption)
            obtain ⟨ad103, e103, hx103_0⟩ := Kd.at_int HR0.out x8_1 p103 q103
            cases e103
            replace p103 := eq_true p103
            replace q103 := eq_true q103
            go_wp2
            go_roundg k1
            case measure => have := HK1.out; omega
            case rel => exact ⟨(Go.bits .or .i64 (wrap64 (x3_1 * 256)) (wrap64 (rd l0 x8_1))), (wrap64 (x8_1 + 1)), (by first | rfl | (simp; done) | (simp [*]; done)), (by first | rfl | (simp; done) | (simp [*]; done)), H', ⟨by have := HK1.out; omega⟩, by repeat (first | exact Drawn0.refl _ | apply Drawn0.step)⟩
          · rw [if_neg c4] at H
            exact absurd H (by simp)
        · rw [if_neg c3] at H
          exact absurd H (by simp)
      · rw [if_neg c2] at H
        have c2b0 : decide (x8_1 < (l0.length : Int)) = false := decide_eq_false c2
        clear c2
        obtain rfl := Option.some.inj H
        go_wp2
        go_ret
        exact ⟨by first | rfl | (simp; done) | (simp [*]; done), by repeat (first | exact Drawn0.refl _ | apply Drawn0.step)⟩

/-! ### spec_ReadLength: function 16 -/
def spec_ReadLength.f (k : Nat) (l0 : List Int) : Option (Int × Bool × Int × Int) := if (l0.length : Int) = 0 then (some (0, false, 0, 1)) else (if 0 < (l0.length : Int) then (if (wrap64 (rd l0 0)) < 192 then (some (wrap64 (rd l0 0), false, 1, 0)) else (if (wrap64 (rd l0 0)) < 224 then (if (l0.length : Int) < 2 then (some (0, false, 0, 1)) else (if 1 < (l0.length : Int) then (some (wrap64 ((wrap64 ((wrap64 ((wrap64 ((wrap64 (rd l0 0)) - 192)) * 256)) + (wrap64 (rd l0 1)))) + 192), false, 2, 0)) else (none))) else (if (wrap64 (rd l0 0)) < 255 then (if 0 ≤ (Go.bits .and .i64 (wrap64 (rd l0 0)) 31) then (some (shl .i64 1 (Go.bits .and .i64 (wrap64 (rd l0 0)) 31), true, 1, 0)) else (none)) else (if (l0.length : Int) < 5 then (some (0, false, 0, 1)) else (if 1 ≤ 5 then (if 5 ≤ (l0.length : Int) then ((spec_Number.f k ((l0.take 5).drop 1)).bind fun t107 => (some (t107, false, 5, 0))) else (none)) else (none)))))) else (none))
theorem spec_ReadLength.mono : ∀ a0 k, LeO (spec_ReadLength.f k a0) (spec_ReadLength.f (k + 1) a0) := by
  intro a0 k
  unfold spec_ReadLength.f
  repeat' first
      | (with_reducible exact spec_Number.mono _ _)
      | (with_reducible exact LeO.refl _)
      | (with_reducible exact LeO.none _)
      | (with_reducible refine LeO.ite ?_ ?_)
      | (with_reducible refine LeO.bind ?_ (fun _ => ?_))
      | exact spec_Number.mono _ _
      | exact LeO.none _
      | refine LeO.ite ?_ ?_
      | refine LeO.bind ?_ (fun _ => ?_)
set_option maxHeartbeats 8000000 in
set_option maxRecDepth 100000 in
theorem spec_ReadLength.calls (k : Nat) (A0 : Option Addr) (c0 : Nat) (l0 : List Int) (r1 : Int) (r2 : Bool) (r3 : Int) (r4 : Int) (w : World) (hr0 : Kd.C (Kd.int .u8) w A0 l0.length l0) (hc0 : l0.length ≤ c0) (h : spec_ReadLength.f k l0 = some (r1, r2, r3, r4)) :
    Calls Tryd.prog 16 #[.slice A0 l0.length c0] w fun e w' => e = .returned (.tuple #[.int .i64 r1, .bool r2, .int .i64 r3, .int .i64 r4]) ∧ Drawn0 w w' := by
  have HR0 := Aside0.mk hr0
  have HC0 := Aside0.mk hc0
  clear hr0 hc0
  have H : (if (l0.length : Int) = 0 then (some (0, false, 0, 1)) else (if 0 < (l0.length : Int) then (if (wrap64 (rd l0 0)) < 192 then (some (wrap64 (rd l0 0), false, 1, 0)) else (if (wrap64 (rd l0 0)) < 224 then (if (l0.length : Int) < 2 then (some (0, false, 0, 1)) else (if 1 < (l0.length : Int) then (some (wrap64 ((wrap64 ((wrap64 ((wrap64 ((wrap64 (rd l0 0)) - 192)) * 256)) + (wrap64 (rd l0 1)))) + 192), false, 2, 0)) else (none))) else (if (wrap64 (rd l0 0)) < 255 then (if 0 ≤ (Go.bits .and .i64 (wrap64 (rd l0 0)) 31) then (some (shl .i64 1 (Go.bits .and .i64 (wrap64 (rd l0 0)) 31), true, 1, 0)) else (none)) else (if (l0.length : Int) < 5 then (some (0, false, 0, 1)) else (if 1 ≤ 5 then (if 5 ≤ (l0.length : Int) then ((spec_Number.f k ((l0.take 5).drop 1)).bind fun t107 => (some (t107, false, 5, 0))) else (none)) else (none)))))) else (none))) = some (r1, r2, r3, r4) := h
  clear h
  by_cases c2 : (l0.length : Int) = 0
  · rw [if_pos c2] at H
    have c2b0 : ((l0.length : Int) == 0) = true := beq_iff_eq.mpr c2
    have c2b1 : ((l0.length : Int) != 0) = false := bne_eq_false_iff_eq.mpr c2
    clear c2
    simp only [Option.some.injEq, Prod.mk.injEq] at H
    obtain ⟨rfl, rfl, rfl, rfl⟩ := H
    go_enter Tryd.func16, Tryd.ntmps16
    go_wp2
    refine bodyPost_ret (results_list (rs := [.tmp 2, .tmp 3, .tmp 4, .tmp 5]) rfl (by simp) (.tmp (.tmp (.tmp (.tmp .nil))))) rfl ?_
    exact ⟨by first | rfl | (simp; done) | (simp [*]; done), by repeat (first | exact Drawn0.refl _ | apply Drawn0.step)⟩
  · rw [if_neg c2] at H
    have c2b0 : ((l0.length : Int) == 0) = false := beq_eq_false_iff_ne.mpr c2
    have c2b1 : ((l0.length : Int) != 0) = true := bne_iff_ne.mpr c2
    have c2b2 : ¬ (l0 = []) := fun h_ => c2 (by rw [h_]; rfl)
    by_cases c3 : 0 < (l0.length : Int)
    · rw [if_pos c3] at H
      have c3b0 : decide (0 < (l0.length : Int)) = true := decide_eq_true c3
      have c3b1 : decide (0 < l0.length) = true := decide_eq_true (by omega)
      clear c3
      by_cases c4 : (wrap64 (rd l0 0)) < 192
      · rw [if_pos c4] at H
        have c4b0 : decide ((wrap64 (rd l0 0)) < 192) = true := decide_eq_true c4
        clear c4
        simp only [Option.some.injEq, Prod.mk.injEq] at H
        obtain ⟨rfl, rfl, rfl, rfl⟩ := H
        have p104 : 0 ≤ (0 : Int) := (by omega)
        have q104 : 0 < (l0.length : Int) := of_decide_eq_true (by first | (with_reducible assumption) | assumption)
        obtain ⟨ad104, e104, hx104_0⟩ := Kd.at_int HR0.out 0 p104 q104
        cases e104
        have qi104 : (0 < l0.length) = True := eq_true (by omega)
        (try rw [show ((0 : Int)).toNat = 0 from rfl] at hx104_0)
        (try rw [Addr.add_zero'] at hx104_0)
        replace p104 := eq_true p104
        replace q104 := eq_true q104
        go_enter Tryd.func16, Tryd.ntmps16
        go_wp2
        refine bodyPost_ret (results_list (rs := [.tmp 2, .tmp 3, .tmp 4, .tmp 5]) rfl (by simp) (.tmp (.tmp (.tmp (.tmp .nil))))) rfl ?_
        exact ⟨by first | rfl | (simp; done) | (simp [*]; done), by repeat (first | exact Drawn0.refl _ | apply Drawn0.step)⟩
      · rw [if_neg c4] at H
        have c4b0 : decide ((wrap64 (rd l0 0)) < 192) = false := decide_eq_false c4
        clear c4
        by_cases c5 : (wrap64 (rd l0 0)) < 224
        · rw [if_pos c5] at H
          have c5b0 : decide ((wrap64 (rd l0 0)) < 224) = true := decide_eq_true c5
          clear c5
          by_cases c6 : (l0.length : Int) < 2
          · rw [if_pos c6] at H
            have c6b0 : decide ((l0.length : Int) < 2) = true := decide_eq_true c6
            have c6b1 : decide (l0.length < 2) = true := decide_eq_true (by omega)
            clear c6
            simp only [Option.some.injEq, Prod.mk.injEq] at H
            obtain ⟨rfl, rfl, rfl, rfl⟩ := H
            have p104 : 0 ≤ (0 : Int) := (by omega)
            have q104 : 0 < (l0.length : Int) := of_decide_eq_true (by first | (with_reducible assumption) | assumption)
            obtain ⟨ad104, e104, hx104_0⟩ := Kd.at_int HR0.out 0 p104 q104
            cases e104
            have qi104 : (0 < l0.length) = True := eq_true (by omega)
            (try rw [show ((0 : Int)).toNat = 0 from rfl] at hx104_0)
            (try rw [Addr.add_zero'] at hx104_0)
            replace p104 := eq_true p104
            replace q104 := eq_true q104
            go_enter Tryd.func16, Tryd.ntmps16
            go_wp2
            refine bodyPost_ret (results_list (rs := [.tmp 2, .tmp 3, .tmp 4, .tmp 5]) rfl (by simp) (.tmp (.tmp (.tmp (.tmp .nil))))) rfl ?_
            exact ⟨by first | rfl | (simp; done) | (simp [*]; done), by repeat (first | exact Drawn0.refl _ | apply Drawn0.step)⟩
          · rw [if_neg c6] at H
            have c6b0 : decide ((l0.length : Int) < 2) = false := decide_eq_false c6
            have c6b1 : decide (l0.length < 2) = false := decide_eq_false (by omega)
            clear c6
            by_cases c7 : 1 < (l0.length : Int)
            · rw [if_pos c7] at H
              have c7b0 : decide (1 < (l0.length : Int)) = true := decide_eq_true c7
              have c7b1 : decide (1 < l0.length) = true := decide_eq_true (by omega)
              clear c7
              simp only [Option.some.injEq, Prod.mk.injEq] at H
              obtain ⟨rfl, rfl, rfl, rfl⟩ := H
              have p104 : 0 ≤ (0 : Int) := (by omega)
              have q104 : 0 < (l0.length : Int) := of_decide_eq_true (by first | (with_reducible assumption) | assumption)
              obtain ⟨ad104, e104, hx104_0⟩ := Kd.at_int HR0.out 0 p104 q104
              cases e104
              have qi104 : (0 < l0.length) = True := eq_true (by omega)
              (try rw [show ((0 : Int)).toNat = 0 from rfl] at hx104_0)
              (try rw [Addr.add_zero'] at hx104_0)
              replace p104 := eq_true p104
              replace q104 := eq_true q104
              have p105 : 0 ≤ (1 : Int) := (by omega)
              have q105 : 1 < (l0.length : Int) := of_decide_eq_true (by first | (with_reducible assumption) | assumption)
              obtain ⟨ad105, e105, hx105_0⟩ := Kd.at_int HR0.out 1 p105 q105
              obtain rfl : ad104 = ad105 := (by injection e105)
              (try simp only [show (1 : Int).toNat = 1 from rfl, Nat.reduceMul, Nat.reduceEqDiff, Go.Addr.add, ↓reduceIte] at hx105_0)
              have qi105 : (1 < l0.length) = True := eq_true (by omega)
              (try rw [show ((1 : Int)).toNat = 1 from rfl] at hx105_0)
              replace p105 := eq_true p105
              replace q105 := eq_true q105
              go_enter Tryd.func16, Tryd.ntmps16
              go_wp2
              refine bodyPost_ret (results_list (rs := [.tmp 2, .tmp 3, .tmp 4, .tmp 5]) rfl (by simp) (.tmp (.tmp (.tmp (.tmp .nil))))) rfl ?_
              exact ⟨by first | rfl | (simp; done) | (simp [*]; done), by repeat (first | exact Drawn0.refl _ | apply Drawn0.step)⟩
            · rw [if_neg c7] at H
              exact absurd H (by simp)
        · rw [if_neg c5] at H
          have c5b0 : decide ((wrap64 (rd l0 0)) < 224) = false := decide_eq_false c5
          clear c5
          by_cases c8 : (wrap64 (rd l0 0)) < 255
          · rw [if_pos c8] at H
            have c8b0 : decide ((wrap64 (rd l0 0)) < 255) = true := decide_eq_true c8
            clear c8
            obtain ⟨ji9, hji9⟩ : ∃ j_ : Int, (Go.bits .and .i64 (wrap64 (rd l0 0)) 31) = j_ := ⟨_, rfl⟩
            replace H : (if 0 ≤ (ji9) then (some (shl .i64 1 (ji9), true, 1, 0)) else (none)) = some (r1, r2, r3, r4) := by first | (rw [hji9] at H; exact H) | (simp only [hji9] at H ⊢; exact H)
            by_cases c10 : 0 ≤ (ji9)
            · rw [if_pos c10] at H
              have c10b0 := eq_true c10
              have c10b1 : decide (0 ≤ (ji9)) = true := decide_eq_true c10
              clear c10
              obtain ⟨ji11, hji11⟩ : ∃ j_ : Int, (shl .i64 1 (ji9)) = j_ := ⟨_, rfl⟩
              replace H : (some (ji11, true, 1, 0)) = some (r1, r2, r3, r4) := by first | (rw [hji11] at H; exact H) | (simp only [hji11] at H ⊢; exact H)
              have hji11_ : (IntKind.i64.wrap (1 * 2 ^ min (ji9).toNat 64)) = ji11 := hji11
              have hji11z : (ji9) ≤ 64 → (IntKind.i64.wrap (1 * 2 ^ (ji9).toNat)) = ji11 := shl_small hji11
              have hji11u : (IntKind.i64.wrap (2 ^ min (ji9).toNat 64)) = ji11 := by have h_ := hji11_; rw [Int.one_mul] at h_; exact h_
              have hji11v : (ji9) ≤ 64 → (IntKind.i64.wrap (2 ^ (ji9).toNat)) = ji11 := fun hle_ => by have h_ := hji11z hle_; rw [Int.one_mul] at h_; exact h_
              have hji11y : (wrap64 (1 * 2 ^ min (ji9).toNat 64)) = ji11 := (i64_w _).symm.trans hji11_
              have hji11x : (ji9) ≤ 64 → (wrap64 (1 * 2 ^ (ji9).toNat)) = ji11 := fun h_ => (i64_w _).symm.trans (hji11z h_)
              simp only [Option.some.injEq, Prod.mk.injEq] at H
              obtain ⟨rfl, rfl, rfl, rfl⟩ := H
              have p104 : 0 ≤ (0 : Int) := (by omega)
              have q104 : 0 < (l0.length : Int) := of_decide_eq_true (by first | (with_reducible assumption) | assumption)
              obtain ⟨ad104, e104, hx104_0⟩ := Kd.at_int HR0.out 0 p104 q104
              cases e104
              have qi104 : (0 < l0.length) = True := eq_true (by omega)
              (try rw [show ((0 : Int)).toNat = 0 from rfl] at hx104_0)
              (try rw [Addr.add_zero'] at hx104_0)
              replace p104 := eq_true p104
              replace q104 := eq_true q104
              go_enter Tryd.func16, Tryd.ntmps16
              go_wp2
              refine bodyPost_ret (results_list (rs := [.tmp 2, .tmp 3, .tmp 4, .tmp 5]) rfl (by simp) (.tmp (.tmp (.tmp (.tmp .nil))))) rfl ?_
              exact ⟨by first | rfl | (simp; done) | (simp only [← hji9, ← hji11] <;> (first | rfl | simp)) | (simp [*]; done), by repeat (first | exact Drawn0.refl _ | apply Drawn0.step)⟩
            · rw [if_neg c10] at H
              exact absurd H (by simp)
          · rw [if_neg c8] at H
            have c8b0 : decide ((wrap64 (rd l0 0)) < 255) = false := decide_eq_false c8
            clear c8
            by_cases c12 : (l0.length : Int) < 5
            · rw [if_pos c12] at H
              have c12b0 : decide ((l0.length : Int) < 5) = true := decide_eq_true c12
              have c12b1 : decide (l0.length < 5) = true := decide_eq_true (by omega)
              clear c12
              simp only [Option.some.injEq, Prod.mk.injEq] at H
              obtain ⟨rfl, rfl, rfl, rfl⟩ := H
              have p104 : 0 ≤ (0 : Int) := (by omega)
              have q104 : 0 < (l0.length : Int) := of_decide_eq_true (by first | (with_reducible assumption) | assumption)
              obtain ⟨ad104, e104, hx104_0⟩ := Kd.at_int HR0.out 0 p104 q104
              cases e104
              have qi104 : (0 < l0.length) = True := eq_true (by omega)
              (try rw [show ((0 : Int)).toNat = 0 from rfl] at hx104_0)
              (try rw [Addr.add_zero'] at hx104_0)
              replace p104 := eq_true p104
              replace q104 := eq_true q104
              go_enter Tryd.func16, Tryd.ntmps16
              go_wp2
              refine bodyPost_ret (results_list (rs := [.tmp 2, .tmp 3, .tmp 4, .tmp 5]) rfl (by simp) (.tmp (.tmp (.tmp (.tmp .nil))))) rfl ?_
              exact ⟨by first | rfl | (simp; done) | (simp [*]; done), by repeat (first | exact Drawn0.refl _ | apply Drawn0.step)⟩
            · rw [if_neg c12] at H
              have c12b0 : decide ((l0.length : Int) < 5) = false := decide_eq_false c12
              have c12b1 : decide (l0.length < 5) = false := decide_eq_false (by omega)
              clear c12
              by_cases c13 : 1 ≤ 5
              · rw [if_pos c13] at H
                have c13b0 := eq_true c13
                have c13b1 : decide (1 ≤ 5) = true := decide_eq_true c13
                clear c13
                by_cases c14 : 5 ≤ (l0.length : Int)
                · rw [if_pos c14] at H
                  have c14b0 := eq_true c14
                  have c14b1 : decide (5 ≤ (l0.length : Int)) = true := decide_eq_true c14
                  clear c14
                  replace H := Option.bind_eq_some_iff.mp H
                  obtain ⟨t107, A150, H⟩ := H
                  replace H : (some (t107, false, 5, 0)) = some (r1, r2, r3, r4) := H
                  have A15 := Aside0.mk A150
                  clear A150
                  simp only [Option.some.injEq, Prod.mk.injEq] at H
                  obtain ⟨rfl, rfl, rfl, rfl⟩ := H
                  have p104 : 0 ≤ (0 : Int) := (by omega)
                  have q104 : 0 < (l0.length : Int) := of_decide_eq_true (by first | (with_reducible assumption) | assumption)
                  obtain ⟨ad104, e104, hx104_0⟩ := Kd.at_int HR0.out 0 p104 q104
                  cases e104
                  have qi104 : (0 < l0.length) = True := eq_true (by omega)
                  (try rw [show ((0 : Int)).toNat = 0 from rfl] at hx104_0)
                  (try rw [Addr.add_zero'] at hx104_0)
                  replace p104 := eq_true p104
                  replace q104 := eq_true q104
                  obtain ⟨i016, hi016, _, hsz16, _⟩ := info_parts info5
                  obtain ⟨A16, hcut16, hA16, hC16⟩ := print_mid_of (P := Tryd.prog) (Value.int .u8) 0 22 5 .i64 .i64 Tryd.underlying22 hi016 hsz16 (some ad104) c0 l0 1 5 (by omega) (by first | omega | exact of_decide_eq_true (by first | (with_reducible assumption) | assumption)) (of_decide_eq_true (by first | (with_reducible assumption) | assumption)) HC0.out
                  have HR106 := Aside0.mk (Kd.C_of_reads (h1 := fun _ => rfl) (hA16 _ (Kd.reads_of_C HR0.out)))
                  have HC106 := Aside0.mk hC16
                  clear hA16 hC16 hi016 hsz16
                  go_enter Tryd.func16, Tryd.ntmps16
                  go_wp2_with (first | ((with_reducible refine gate_callee (f := 47) rfl ?_); refine goesL_ (some 44) rfl rfl Tryd.func47 (by kernel_rfl) rfl #[.slice A16 ((l0.take 5).drop 1).length (c0 - 1)] rfl (by (try simp only [List.map_toArray, List.map_cons, List.map_nil]); first | done | (rw [show ((l0.take 5).drop 1).length = (5 - 1) from (by rw [List.length_drop, List.length_take]; have h_ : (5 : Int) ≤ (l0.length : Int) := of_decide_eq_true (by first | (with_reducible assumption) | assumption); omega)] <;> rfl) | rfl | (simp only [List.length_drop, List.length_take]; rfl)) ?_; (with_reducible refine (spec_Number.calls k _ _ ((l0.take 5).drop 1) t107 _ ?side1 ?side2 A15.out).mono ?_); (case side1 => repeat (first | exact HR106.out | (with_reducible refine Kd.C_alloc ?_ _) | (with_reducible refine Kd.C_drewN ?_ _) | (with_reducible refine Kd.C_drew ?_))); (case side2 => exact HC106.out); rintro e w' ⟨rfl, ⟨nd, rfl⟩⟩; refine ⟨_, rfl, ?_⟩))
                  refine bodyPost_ret (results_list (rs := [.tmp 2, .tmp 3, .tmp 4, .tmp 5]) rfl (by simp) (.tmp (.tmp (.tmp (.tmp .nil))))) rfl ?_
                  exact ⟨by first | rfl | (simp; done) | (simp [*]; done), by repeat (first | exact Drawn0.refl _ | apply Drawn0.step)⟩
                · rw [if_neg c14] at H
                  exact absurd H (by simp)
              · rw [if_neg c13] at H
                exact absurd H (by simp)
    · rw [if_neg c3] at H
      exact absurd H (by simp)

-- NOT PRINTED: function 3 (laws_FnReadLength)

end Go.Proofs.YtfhefoaieefnkaaDoor.PFnReadLength
