-- PRINTED BY print.sh 35421559b90ae4d0a3588c463048766b98c2df88dd9212a6774a882060cdf62d: not written by this session
import Derived.Test.YtnjbgmobobffmaaPFnCrc24x0
namespace Go.Proofs.Ytnjbgmobobffmaa.PFnCrc24
open Go.RowKit Go.Proofs.YtnjbgmobobffmaaW.PrintWords Go.Proofs.YtnjbgmobobffmaaW.PrintLast Go.Proofs.YtnjbgmobobffmaaW.PrintMore
attribute [local go_sem] max2_int min2_int max_two min_two max_three min_three max_four min_four   -- for this text's walks alone
set_option linter.unusedVariables false
set_option linter.unusedSimpArgs false

/-! ### armor_crc24: function 30 -/
mutual
def armor_crc24.l0 : Nat → Int → List Int → Int → Int → Option (Int)
  | 0, _, _, _, _ => none
  | k + 1, x0, x8, x9, x10 => if x10 < x9 then (if 0 ≤ x10 then (if x10 < (x8.length : Int) then (armor_crc24.l1 k (Go.bits .xor .u32 x0 ((((rd x8 x10) % 4294967296) * 65536) % 4294967296)) 0 x8 x9 x10) else (none)) else (none)) else (some x0)
def armor_crc24.l1 : Nat → Int → Int → List Int → Int → Int → Option (Int)
  | 0, _, _, _, _, _ => none
  | k + 1, x0, x7, x8, x9, x10 => if x7 < 8 then (if (Go.bits .and .u32 ((x0 * 2) % 4294967296) 16777216) = 0 then (armor_crc24.l1 k ((x0 * 2) % 4294967296) (wrap64 (x7 + 1)) x8 x9 x10) else (armor_crc24.l1 k (Go.bits .xor .u32 ((x0 * 2) % 4294967296) 25578747) (wrap64 (x7 + 1)) x8 x9 x10)) else (armor_crc24.l0 k x0 x8 x9 (wrap64 (x10 + 1)))
end
def armor_crc24.f (k : Nat) (a0 : Int) (l1 : List Int) : Option (Int) := armor_crc24.l0 k a0 l1 (l1.length : Int) 0
theorem armor_crc24.mono_l : ∀ k, (∀ y0 y1 y2 y3, LeO (armor_crc24.l0 k y0 y1 y2 y3) (armor_crc24.l0 (k + 1) y0 y1 y2 y3)) ∧ (∀ y0 y1 y2 y3 y4, LeO (armor_crc24.l1 k y0 y1 y2 y3 y4) (armor_crc24.l1 (k + 1) y0 y1 y2 y3 y4))
  | 0 => ⟨fun _ _ _ _ r h => by simp [armor_crc24.l0] at h, fun _ _ _ _ _ r h => by simp [armor_crc24.l1] at h⟩
  | k + 1 => by
    obtain ⟨ih0, ih1⟩ := armor_crc24.mono_l k
    refine ⟨?_, ?_⟩
    · intro y0 y1 y2 y3
      unfold armor_crc24.l0
      repeat' first
      | (with_reducible exact ih0 _ _ _ _)
      | (with_reducible exact ih1 _ _ _ _ _)
      | (with_reducible exact LeO.refl _)
      | (with_reducible exact LeO.none _)
      | (with_reducible refine LeO.ite ?_ ?_)
      | (with_reducible refine LeO.bind ?_ (fun _ => ?_))
      | exact ih0 _ _ _ _
      | exact ih1 _ _ _ _ _
      | exact LeO.none _
      | refine LeO.ite ?_ ?_
      | refine LeO.bind ?_ (fun _ => ?_)
    · intro y0 y1 y2 y3 y4
      unfold armor_crc24.l1
      repeat' first
      | (with_reducible exact ih0 _ _ _ _)
      | (with_reducible exact ih1 _ _ _ _ _)
      | (with_reducible exact LeO.refl _)
      | (with_reducible exact LeO.none _)
      | (with_reducible refine LeO.ite ?_ ?_)
      | (with_reducible refine LeO.bind ?_ (fun _ => ?_))
      | exact ih0 _ _ _ _
      | exact ih1 _ _ _ _ _
      | exact LeO.none _
      | refine LeO.ite ?_ ?_
      | refine LeO.bind ?_ (fun _ => ?_)
theorem armor_crc24.mono : ∀ a0 a1 k, LeO (armor_crc24.f k a0 a1) (armor_crc24.f (k + 1) a0 a1) := by
  intro a0 a1 k
  obtain ⟨ih0, ih1⟩ := armor_crc24.mono_l k
  unfold armor_crc24.f
  repeat' first
      | (with_reducible exact ih0 _ _ _ _)
      | (with_reducible exact ih1 _ _ _ _ _)
      | (with_reducible exact LeO.refl _)
      | (with_reducible exact LeO.none _)
      | (with_reducible refine LeO.ite ?_ ?_)
      | (with_reducible refine LeO.bind ?_ (fun _ => ?_))
      | exact ih0 _ _ _ _
      | exact ih1 _ _ _ _ _
      | exact LeO.none _
      | refine LeO.ite ?_ ?_
      | refine LeO.bind ?_ (fun _ => ?_)
set_option maxHeartbeats 8000000 in
set_option maxRecDepth 100000 in
theorem armor_crc24.calls (k : Nat) (a0 : Int) (A1 : Option Addr) (c1 : Nat) (l1 : List Int) (r : Int) (w : World) (hr1 : Kd.C (Kd.int .u8) w A1 l1.length l1) (hc1 : l1.length ≤ c1) (h : armor_crc24.f k a0 l1 = some r) :
    Calls Try.prog 30 #[.int .u32 a0, .slice A1 l1.length c1] w fun e w' => e = .returned (.int .u32 r) ∧ Drawn0 w w' := by
  have HR1 := Aside0.mk hr1
  have HC1 := Aside0.mk hc1
  clear hr1 hc1
  have H : (armor_crc24.l0 k a0 l1 (l1.length : Int) 0) = some r := h
  clear h
  have H' := Aside0.mk H
  clear H
  go_enter Try.func30, Try.ntmps30
  go_wp2
  go_loopg [0, 10] k (fun kq v0 v10 w' => ∃ (x0_1 : Int) (x10_1 : Int), v0 = .int .u32 x0_1 ∧ v10 = .int .i64 x10_1 ∧ Aside0 (armor_crc24.l0 kq x0_1 l1 (l1.length : Int) x10_1 = some r) ∧ Aside0 (kq ≤ k) ∧ Drawn0 w w')
  case atStart => exact ⟨(a0), (0), (by first | rfl | (simp; done) | (simp [*]; done)), (by first | rfl | (simp; done) | (simp [*]; done)), H', ⟨Nat.le_refl _⟩, by repeat (first | exact Drawn0.refl _ | apply Drawn0.step)⟩
  case round =>
    clear H'
    try clear c1
    try clear c2
    try clear p2
    obtain ⟨x0_1, x10_1, rfl, rfl, HA, HK1, ⟨m1, rfl⟩⟩ := hrel
    cases gk with
    | zero => exact absurd HA.out (by simp [armor_crc24.l0])
    | succ k1 =>
      have H := HA.out
      clear HA
      simp only [armor_crc24.l0] at H
      by_cases c3 : x10_1 < (l1.length : Int)
      · rw [if_pos c3] at H
        have c3b0 : decide (x10_1 < (l1.length : Int)) = true := decide_eq_true c3
        clear c3
        by_cases c4 : 0 ≤ x10_1
        · rw [if_pos c4] at H
          have c4b0 : decide (0 ≤ x10_1) = true := decide_eq_true c4
          clear c4
          by_cases c5 : x10_1 < (l1.length : Int)
          · rw [if_pos c5] at H
            have c5b0 : decide (x10_1 < (l1.length : Int)) = true := decide_eq_true c5
            clear c5
            have H' := Aside0.mk H
            clear H
            have p101 : 0 ≤ (x10_1 : Int) := of_decide_eq_true (by first | (with_reducible assumption) | assumption)
            have q101 : x10_1 < (l1.length : Int) := of_decide_eq_true (by first | (with_reducible assumption) | assumption)
            obtain ⟨ad101, e101, hx101_0⟩ := Kd.at_int HR1.out x10_1 p101 q101
            cases e101
            replace p101 := eq_true p101
            replace q101 := eq_true q101
            go_wp2
            go_loopg [0, 7] k1 (fun kq v0 v7 w' => ∃ (x0_2 : Int) (x7_2 : Int), v0 = .int .u32 x0_2 ∧ v7 = .int .i64 x7_2 ∧ Aside0 (armor_crc24.l1 kq x0_2 x7_2 l1 (l1.length : Int) x10_1 = some r) ∧ Aside0 (kq ≤ k1) ∧ Drawn0 w w')
            case atStart => exact ⟨(Go.bits .xor .u32 x0_1 ((((rd l1 x10_1) % 4294967296) * 65536) % 4294967296)), (0), (by first | rfl | (simp; done) | (simp [*]; done)), (by first | rfl | (simp; done) | (simp [*]; done)), H', ⟨Nat.le_refl _⟩, by repeat (first | exact Drawn0.refl _ | apply Drawn0.step)⟩
            case round =>
              clear H'
              try clear c1
              try clear p1
              try clear q1
              try clear hx1
              try clear c2
              try clear p2
              try clear c3
              try clear c3b0
              try clear c4
              try clear c4b0
              try clear c5
              try clear c5b0
              try clear hx101_0
              try clear p101
              try clear p2
              try clear q101
              obtain ⟨x0_2, x7_2, rfl, rfl, HA, HK2, ⟨m2, rfl⟩⟩ := hrel
              cases gk with
              | zero => exact absurd HA.out (by simp [armor_crc24.l1])
              | succ k2 =>
                have H := HA.out
                clear HA
                simp only [armor_crc24.l1] at H
                by_cases c6 : x7_2 < 8
                · rw [if_pos c6] at H
                  have c6b0 : decide (x7_2 < 8) = true := decide_eq_true c6
                  clear c6
                  by_cases c7 : (Go.bits .and .u32 ((x0_2 * 2) % 4294967296) 16777216) = 0
                  · rw [if_pos c7] at H
                    have c7b0 : ((Go.bits .and .u32 ((x0_2 * 2) % 4294967296) 16777216) == 0) = true := beq_iff_eq.mpr c7
                    have c7b1 : ((Go.bits .and .u32 ((x0_2 * 2) % 4294967296) 16777216) != 0) = false := bne_eq_false_iff_eq.mpr c7
                    clear c7
                    have H' := Aside0.mk H
                    clear H
                    go_wp2
                    go_roundg k2
                    case measure => have := HK1.out; have := HK2.out; omega
                    case rel => exact ⟨((x0_2 * 2) % 4294967296), (wrap64 (x7_2 + 1)), (by first | rfl | (simp; done) | (simp [*]; done)), (by first | rfl | (simp; done) | (simp [*]; done)), H', ⟨by have := HK1.out; have := HK2.out; omega⟩, by repeat (first | exact Drawn0.refl _ | apply Drawn0.step)⟩
                  · rw [if_neg c7] at H
                    have c7b0 : ((Go.bits .and .u32 ((x0_2 * 2) % 4294967296) 16777216) == 0) = false := beq_eq_false_iff_ne.mpr c7
                    have c7b1 : ((Go.bits .and .u32 ((x0_2 * 2) % 4294967296) 16777216) != 0) = true := bne_iff_ne.mpr c7
                    have H' := Aside0.mk H
                    clear H
                    go_wp2
                    go_roundg k2
                    case measure => have := HK1.out; have := HK2.out; omega
                    case rel => exact ⟨(Go.bits .xor .u32 ((x0_2 * 2) % 4294967296) 25578747), (wrap64 (x7_2 + 1)), (by first | rfl | (simp; done) | (simp [*]; done)), (by first | rfl | (simp; done) | (simp [*]; done)), H', ⟨by have := HK1.out; have := HK2.out; omega⟩, by repeat (first | exact Drawn0.refl _ | apply Drawn0.step)⟩
                · rw [if_neg c6] at H
                  have c6b0 : decide (x7_2 < 8) = false := decide_eq_false c6
                  clear c6
                  have H' := Aside0.mk H
                  clear H
                  go_wp2
                  go_roundg k2
                  case measure => have := HK1.out; have := HK2.out; omega
                  case rel => exact ⟨(x0_2), (wrap64 (x10_1 + 1)), (by first | rfl | (simp; done) | (simp [*]; done)), (by first | rfl | (simp; done) | (simp [*]; done)), H', ⟨by have := HK1.out; have := HK2.out; omega⟩, by repeat (first | exact Drawn0.refl _ | apply Drawn0.step)⟩
          · rw [if_neg c5] at H
            exact absurd H (by simp)
        · rw [if_neg c4] at H
          exact absurd H (by simp)
      · rw [if_neg c3] at H
        have c3b0 : decide (x10_1 < (l1.length : Int)) = false := decide_eq_false c3
        clear c3
        obtain rfl := Option.some.inj H
        go_wp2
        go_ret
        exact ⟨by first | rfl | (simp; done) | (simp [*]; done), by repeat (first | exact Drawn0.refl _ | apply Drawn0.step)⟩

/-! ### armor_ZzCrc24: function 25 -/
def armor_ZzCrc24.f (k : Nat) (a0 : Int) (l1 : List Int) : Option (Int) := (armor_crc24.f k a0 l1).bind fun t102 => (some t102)
theorem armor_ZzCrc24.mono : ∀ a0 a1 k, LeO (armor_ZzCrc24.f k a0 a1) (armor_ZzCrc24.f (k + 1) a0 a1) := by
  intro a0 a1 k
  unfold armor_ZzCrc24.f
  repeat' first
      | (with_reducible exact armor_crc24.mono _ _ _)
      | (with_reducible exact LeO.refl _)
      | (with_reducible exact LeO.none _)
      | (with_reducible refine LeO.ite ?_ ?_)
      | (with_reducible refine LeO.bind ?_ (fun _ => ?_))
      | exact armor_crc24.mono _ _ _
      | exact LeO.none _
      | refine LeO.ite ?_ ?_
      | refine LeO.bind ?_ (fun _ => ?_)
set_option maxHeartbeats 8000000 in
set_option maxRecDepth 100000 in
theorem armor_ZzCrc24.calls (k : Nat) (a0 : Int) (A1 : Option Addr) (c1 : Nat) (l1 : List Int) (r : Int) (w : World) (hr1 : Kd.C (Kd.int .u8) w A1 l1.length l1) (hc1 : l1.length ≤ c1) (h : armor_ZzCrc24.f k a0 l1 = some r) :
    Calls Try.prog 25 #[.int .u32 a0, .slice A1 l1.length c1] w fun e w' => e = .returned (.int .u32 r) ∧ Drawn0 w w' := by
  have HR1 := Aside0.mk hr1
  have HC1 := Aside0.mk hc1
  clear hr1 hc1
  have H : ((armor_crc24.f k a0 l1).bind fun t102 => (some t102)) = some r := h
  clear h
  replace H := Option.bind_eq_some_iff.mp H
  obtain ⟨t102, A30, H⟩ := H
  replace H : (some t102) = some r := H
  have A3 := Aside0.mk A30
  clear A30
  obtain rfl := Option.some.inj H
  go_enter Try.func25, Try.ntmps25
  go_wp2_with (first | ((with_reducible refine gate_callee (f := 30) rfl ?_); refine goesL_ (some 7) rfl rfl Try.func30 (by kernel_rfl) rfl #[.int .u32 a0, .slice A1 l1.length c1] rfl (by (try simp only [List.map_toArray, List.map_cons, List.map_nil]); first | done | rfl | (simp only [List.length_drop, List.length_take]; rfl)) ?_; (with_reducible refine (armor_crc24.calls k a0 _ _ l1 t102 _ ?side1 ?side2 A3.out).mono ?_); (case side1 => repeat (first | exact HR1.out | (with_reducible refine Kd.C_alloc ?_ _) | (with_reducible refine Kd.C_drewN ?_ _) | (with_reducible refine Kd.C_drew ?_))); (case side2 => exact HC1.out); rintro e w' ⟨rfl, ⟨nd, rfl⟩⟩; refine ⟨_, rfl, ?_⟩))
  go_ret
  exact ⟨by first | rfl | (simp; done) | (simp [*]; done), by repeat (first | exact Drawn0.refl _ | apply Drawn0.step)⟩

/-! ### impl_Crc24: function 14 -/
def impl_Crc24.f (k : Nat) (a0 : Int) (l1 : List Int) : Option (Int) := (armor_ZzCrc24.f k a0 l1).bind fun t103 => (some t103)
theorem impl_Crc24.mono : ∀ a0 a1 k, LeO (impl_Crc24.f k a0 a1) (impl_Crc24.f (k + 1) a0 a1) := by
  intro a0 a1 k
  unfold impl_Crc24.f
  repeat' first
      | (with_reducible exact armor_ZzCrc24.mono _ _ _)
      | (with_reducible exact LeO.refl _)
      | (with_reducible exact LeO.none _)
      | (with_reducible refine LeO.ite ?_ ?_)
      | (with_reducible refine LeO.bind ?_ (fun _ => ?_))
      | exact armor_ZzCrc24.mono _ _ _
      | exact LeO.none _
      | refine LeO.ite ?_ ?_
      | refine LeO.bind ?_ (fun _ => ?_)
set_option maxHeartbeats 8000000 in
set_option maxRecDepth 100000 in
theorem impl_Crc24.calls (k : Nat) (a0 : Int) (A1 : Option Addr) (c1 : Nat) (l1 : List Int) (r : Int) (w : World) (hr1 : Kd.C (Kd.int .u8) w A1 l1.length l1) (hc1 : l1.length ≤ c1) (h : impl_Crc24.f k a0 l1 = some r) :
    Calls Try.prog 14 #[.int .u32 a0, .slice A1 l1.length c1] w fun e w' => e = .returned (.int .u32 r) ∧ Drawn0 w w' := by
  have HR1 := Aside0.mk hr1
  have HC1 := Aside0.mk hc1
  clear hr1 hc1
  have H : ((armor_ZzCrc24.f k a0 l1).bind fun t103 => (some t103)) = some r := h
  clear h
  replace H := Option.bind_eq_some_iff.mp H
  obtain ⟨t103, A30, H⟩ := H
  replace H : (some t103) = some r := H
  have A3 := Aside0.mk A30
  clear A30
  obtain rfl := Option.some.inj H
  go_enter Try.func14, Try.ntmps14
  go_wp2_with (first | ((with_reducible refine gate_callee (f := 25) rfl ?_); refine goesL_ (some 7) rfl rfl Try.func25 (by kernel_rfl) rfl #[.int .u32 a0, .slice A1 l1.length c1] rfl (by (try simp only [List.map_toArray, List.map_cons, List.map_nil]); first | done | rfl | (simp only [List.length_drop, List.length_take]; rfl)) ?_; (with_reducible refine (armor_ZzCrc24.calls k a0 _ _ l1 t103 _ ?side1 ?side2 A3.out).mono ?_); (case side1 => repeat (first | exact HR1.out | (with_reducible refine Kd.C_alloc ?_ _) | (with_reducible refine Kd.C_drewN ?_ _) | (with_reducible refine Kd.C_drew ?_))); (case side2 => exact HC1.out); rintro e w' ⟨rfl, ⟨nd, rfl⟩⟩; refine ⟨_, rfl, ?_⟩))
  go_ret
  exact ⟨by first | rfl | (simp; done) | (simp [*]; done), by repeat (first | exact Drawn0.refl _ | apply Drawn0.step)⟩

/-! ### spec_Crc24: function 15 -/
mutual
def spec_Crc24.l0 : Nat → Int → List Int → Int → Int → Option (Int)
  | 0, _, _, _, _ => none
  | k + 1, x5, x12, x13, x14 => if x14 < x13 then (if 0 ≤ x14 then (if x14 < (x12.length : Int) then (spec_Crc24.l1 k x5 (rd x12 x14) 7 x12 x13 x14) else (none)) else (none)) else (some x5)
def spec_Crc24.l1 : Nat → Int → Int → Int → List Int → Int → Int → Option (Int)
  | 0, _, _, _, _, _, _ => none
  | k + 1, x5, x7, x8, x12, x13, x14 => if x8 ≥ 0 then (if 0 ≤ x8 then (if (Go.bits .and .u32 (shr .u32 ((x7) % 4294967296) x8) 1) = (Go.bits .and .u32 (x5 / 8388608) 1) then (spec_Crc24.l1 k (Go.bits .and .u32 ((x5 * 2) % 4294967296) 16777215) x7 (wrap64 (x8 - 1)) x12 x13 x14) else (spec_Crc24.l1 k (Go.bits .xor .u32 (Go.bits .and .u32 ((x5 * 2) % 4294967296) 16777215) 8801531) x7 (wrap64 (x8 - 1)) x12 x13 x14)) else (none)) else (spec_Crc24.l0 k x5 x12 x13 (wrap64 (x14 + 1)))
end
def spec_Crc24.f (k : Nat) (a0 : Int) (l1 : List Int) : Option (Int) := spec_Crc24.l0 k a0 l1 (l1.length : Int) 0
theorem spec_Crc24.mono_l : ∀ k, (∀ y0 y1 y2 y3, LeO (spec_Crc24.l0 k y0 y1 y2 y3) (spec_Crc24.l0 (k + 1) y0 y1 y2 y3)) ∧ (∀ y0 y1 y2 y3 y4 y5, LeO (spec_Crc24.l1 k y0 y1 y2 y3 y4 y5) (spec_Crc24.l1 (k + 1) y0 y1 y2 y3 y4 y5))
  | 0 => ⟨fun _ _ _ _ r h => by simp [spec_Crc24.l0] at h, fun _ _ _ _ _ _ r h => by simp [spec_Crc24.l1] at h⟩
  | k + 1 => by
    obtain ⟨ih0, ih1⟩ := spec_Crc24.mono_l k
    refine ⟨?_, ?_⟩
    · intro y0 y1 y2 y3
      unfold spec_Crc24.l0
      repeat' first
      | (with_reducible exact ih0 _ _ _ _)
      | (with_reducible exact ih1 _ _ _ _ _ _)
      | (with_reducible exact LeO.refl _)
      | (with_reducible exact LeO.none _)
      | (with_reducible refine LeO.ite ?_ ?_)
      | (with_reducible refine LeO.bind ?_ (fun _ => ?_))
      | exact ih0 _ _ _ _
      | exact ih1 _ _ _ _ _ _
      | exact LeO.none _
      | refine LeO.ite ?_ ?_
      | refine LeO.bind ?_ (fun _ => ?_)
    · intro y0 y1 y2 y3 y4 y5
      unfold spec_Crc24.l1
      repeat' first
      | (with_reducible exact ih0 _ _ _ _)
      | (with_reducible exact ih1 _ _ _ _ _ _)
      | (with_reducible exact LeO.refl _)
      | (with_reducible exact LeO.none _)
      | (with_reducible refine LeO.ite ?_ ?_)
      | (with_reducible refine LeO.bind ?_ (fun _ => ?_))
      | exact ih0 _ _ _ _
      | exact ih1 _ _ _ _ _ _
      | exact LeO.none _
      | refine LeO.ite ?_ ?_
      | refine LeO.bind ?_ (fun _ => ?_)
theorem spec_Crc24.mono : ∀ a0 a1 k, LeO (spec_Crc24.f k a0 a1) (spec_Crc24.f (k + 1) a0 a1) := by
  intro a0 a1 k
  obtain ⟨ih0, ih1⟩ := spec_Crc24.mono_l k
  unfold spec_Crc24.f
  repeat' first
      | (with_reducible exact ih0 _ _ _ _)
      | (with_reducible exact ih1 _ _ _ _ _ _)
      | (with_reducible exact LeO.refl _)
      | (with_reducible exact LeO.none _)
      | (with_reducible refine LeO.ite ?_ ?_)
      | (with_reducible refine LeO.bind ?_ (fun _ => ?_))
      | exact ih0 _ _ _ _
      | exact ih1 _ _ _ _ _ _
      | exact LeO.none _
      | refine LeO.ite ?_ ?_
      | refine LeO.bind ?_ (fun _ => ?_)
set_option maxHeartbeats 8000000 in
set_option maxRecDepth 100000 in
theorem spec_Crc24.calls (k : Nat) (a0 : Int) (A1 : Option Addr) (c1 : Nat) (l1 : List Int) (r : Int) (w : World) (hr1 : Kd.C (Kd.int .u8) w A1 l1.length l1) (hc1 : l1.length ≤ c1) (h : spec_Crc24.f k a0 l1 = some r) :
    Calls Try.prog 15 #[.int .u32 a0, .slice A1 l1.length c1] w fun e w' => e = .returned (.int .u32 r) ∧ Drawn0 w w' := by
  have HR1 := Aside0.mk hr1
  have HC1 := Aside0.mk hc1
  clear hr1 hc1
  have H : (spec_Crc24.l0 k a0 l1 (l1.length : Int) 0) = some r := h
  clear h
  have H' := Aside0.mk H
  clear H
  go_enter Try.func15, Try.ntmps15
  go_wp2
  go_loopg [5, 14] k (fun kq v5 v14 w' => ∃ (x5_1 : Int) (x14_1 : Int), v5 = .int .u32 x5_1 ∧ v14 = .int .i64 x14_1 ∧ Aside0 (spec_Crc24.l0 kq x5_1 l1 (l1.length : Int) x14_1 = some r) ∧ Aside0 (kq ≤ k) ∧ Drawn0 w w')
  case atStart => exact ⟨(a0), (0), (by first | rfl | (simp; done) | (simp [*]; done)), (by first | rfl | (simp; done) | (simp [*]; done)), H', ⟨Nat.le_refl _⟩, by repeat (first | exact Drawn0.refl _ | apply Drawn0.step)⟩
  case round =>
    clear H'
    try clear c1
    try clear c2
    try clear p2
    obtain ⟨x5_1, x14_1, rfl, rfl, HA, HK1, ⟨m1, rfl⟩⟩ := hrel
    cases gk with
    | zero => exact absurd HA.out (by simp [spec_Crc24.l0])
    | succ k1 =>
      have H := HA.out
      clear HA
      simp only [spec_Crc24.l0] at H
      by_cases c3 : x14_1 < (l1.length : Int)
      · rw [if_pos c3] at H
        have c3b0 : decide (x14_1 < (l1.length : Int)) = true := decide_eq_true c3
        clear c3
        by_cases c4 : 0 ≤ x14_1
        · rw [if_pos c4] at H
          have c4b0 : decide (0 ≤ x14_1) = true := decide_eq_true c4
          clear c4
          by_cases c5 : x14_1 < (l1.length : Int)
          · rw [if_pos c5] at H
            have c5b0 : decide (x14_1 < (l1.length : Int)) = true := decide_eq_true c5
            clear c5
            have H' := Aside0.mk H
            clear H
            have p104 : 0 ≤ (x14_1 : Int) := of_decide_eq_true (by first | (with_reducible assumption) | assumption)
            have q104 : x14_1 < (l1.length : Int) := of_decide_eq_true (by first | (with_reducible assumption) | assumption)
            obtain ⟨ad104, e104, hx104_0⟩ := Kd.at_int HR1.out x14_1 p104 q104
            cases e104
            replace p104 := eq_true p104
            replace q104 := eq_true q104
            go_wp2
            go_loopg [5, 8] k1 (fun kq v5 v8 w' => ∃ (x5_2 : Int) (x8_2 : Int), v5 = .int .u32 x5_2 ∧ v8 = .int .i64 x8_2 ∧ Aside0 (spec_Crc24.l1 kq x5_2 (rd l1 x14_1) x8_2 l1 (l1.length : Int) x14_1 = some r) ∧ Aside0 (kq ≤ k1) ∧ Drawn0 w w')
            case atStart => exact ⟨(x5_1), (7), (by first | rfl | (simp; done) | (simp [*]; done)), (by first | rfl | (simp; done) | (simp [*]; done)), H', ⟨Nat.le_refl _⟩, by repeat (first | exact Drawn0.refl _ | apply Drawn0.step)⟩
            case round =>
              clear H'
              try clear c1
              try clear p1
              try clear q1
              try clear hx1
              try clear c2
              try clear p2
              try clear c3
              try clear c3b0
              try clear c4
              try clear c4b0
              try clear c5
              try clear c5b0
              try clear hx104_0
              try clear p104
              try clear p2
              try clear q104
              obtain ⟨x5_2, x8_2, rfl, rfl, HA, HK2, ⟨m2, rfl⟩⟩ := hrel
              cases gk with
              | zero => exact absurd HA.out (by simp [spec_Crc24.l1])
              | succ k2 =>
                have H := HA.out
                clear HA
                simp only [spec_Crc24.l1] at H
                by_cases c6 : x8_2 ≥ 0
                · rw [if_pos c6] at H
                  have c6b0 : decide (0 ≤ x8_2) = true := decide_eq_true c6
                  clear c6
                  by_cases c7 : 0 ≤ x8_2
                  · rw [if_pos c7] at H
                    have c7b0 := eq_true c7
                    have c7b1 : decide (0 ≤ x8_2) = true := decide_eq_true c7
                    clear c7
                    obtain ⟨ji8, hji8⟩ : ∃ j_ : Int, (shr .u32 (((rd l1 x14_1)) % 4294967296) x8_2) = j_ := ⟨_, rfl⟩
                    replace H : (if (Go.bits .and .u32 (ji8) 1) = (Go.bits .and .u32 (x5_2 / 8388608) 1) then (spec_Crc24.l1 k2 (Go.bits .and .u32 ((x5_2 * 2) % 4294967296) 16777215) (rd l1 x14_1) (wrap64 (x8_2 - 1)) l1 (l1.length : Int) x14_1) else (spec_Crc24.l1 k2 (Go.bits .xor .u32 (Go.bits .and .u32 ((x5_2 * 2) % 4294967296) 16777215) 8801531) (rd l1 x14_1) (wrap64 (x8_2 - 1)) l1 (l1.length : Int) x14_1)) = some r := by first | (rw [hji8] at H; exact H) | (simp only [hji8] at H ⊢; exact H)
                    have hji8_ : ((((rd l1 x14_1)) % 4294967296) / 2 ^ min x8_2.toNat 32) = ji8 := hji8
                    have hji8z : x8_2 ≤ 32 → ((((rd l1 x14_1)) % 4294967296) / 2 ^ x8_2.toNat) = ji8 := shr_small hji8
                    by_cases c9 : (Go.bits .and .u32 (ji8) 1) = (Go.bits .and .u32 (x5_2 / 8388608) 1)
                    · rw [if_pos c9] at H
                      have c9b0 : ((Go.bits .and .u32 (ji8) 1) == (Go.bits .and .u32 (x5_2 / 8388608) 1)) = true := beq_iff_eq.mpr c9
                      have c9b1 : ((Go.bits .and .u32 (ji8) 1) != (Go.bits .and .u32 (x5_2 / 8388608) 1)) = false := bne_eq_false_iff_eq.mpr c9
                      clear c9
                      have H' := Aside0.mk H
                      clear H
                      go_wp2
                      go_roundg k2
                      case measure => have := HK1.out; have := HK2.out; omega
                      case rel => exact ⟨(Go.bits .and .u32 ((x5_2 * 2) % 4294967296) 16777215), (wrap64 (x8_2 - 1)), (by first | rfl | (simp; done) | (simp [*]; done)), (by first | rfl | (simp; done) | (simp [*]; done)), H', ⟨by have := HK1.out; have := HK2.out; omega⟩, by repeat (first | exact Drawn0.refl _ | apply Drawn0.step)⟩
                    · rw [if_neg c9] at H
                      have c9b0 : ((Go.bits .and .u32 (ji8) 1) == (Go.bits .and .u32 (x5_2 / 8388608) 1)) = false := beq_eq_false_iff_ne.mpr c9
                      have c9b1 : ((Go.bits .and .u32 (ji8) 1) != (Go.bits .and .u32 (x5_2 / 8388608) 1)) = true := bne_iff_ne.mpr c9
                      have H' := Aside0.mk H
                      clear H
                      go_wp2
                      go_roundg k2
                      case measure => have := HK1.out; have := HK2.out; omega
                      case rel => exact ⟨(Go.bits .xor .u32 (Go.bits .and .u32 ((x5_2 * 2) % 4294967296) 16777215) 8801531), (wrap64 (x8_2 - 1)), (by first | rfl | (simp; done) | (simp [*]; done)), (by first | rfl | (simp; done) | (simp [*]; done)), H', ⟨by have := HK1.out; have := HK2.out; omega⟩, by repeat (first | exact Drawn0.refl _ | apply Drawn0.step)⟩
                  · rw [if_neg c7] at H
                    exact absurd H (by simp)
                · rw [if_neg c6] at H
                  have c6b0 : decide (0 ≤ x8_2) = false := decide_eq_false c6
                  clear c6
                  have H' := Aside0.mk H
                  clear H
                  go_wp2
                  go_roundg k2
                  case measure => have := HK1.out; have := HK2.out; omega
                  case rel => exact ⟨(x5_2), (wrap64 (x14_1 + 1)), (by first | rfl | (simp; done) | (simp [*]; done)), (by first | rfl | (simp; done) | (simp [*]; done)), H', ⟨by have := HK1.out; have := HK2.out; omega⟩, by repeat (first | exact Drawn0.refl _ | apply Drawn0.step)⟩
          · rw [if_neg c5] at H
            exact absurd H (by simp)
        · rw [if_neg c4] at H
          exact absurd H (by simp)
      · rw [if_neg c3] at H
        have c3b0 : decide (x14_1 < (l1.length : Int)) = false := decide_eq_false c3
        clear c3
        obtain rfl := Option.some.inj H
        go_wp2
        go_ret
        exact ⟨by first | rfl | (simp; done) | (simp [*]; done), by repeat (first | exact Drawn0.refl _ | apply Drawn0.step)⟩

/-! ### laws_FnCrc24: function 5 -/
def laws_FnCrc24.f (k : Nat) (a0 : Int) (l1 : List Int) : Option (Bool) := if (l1.length : Int) > 2147483647 then (some true) else (if (l1.length : Int) > 4096 then (some true) else ((impl_Crc24.f k (Go.bits .and .u32 a0 16777215) l1).bind fun t105 => ((spec_Crc24.f k (Go.bits .and .u32 a0 16777215) l1).bind fun t106 => (some (t105 == t106)))))
theorem laws_FnCrc24.mono : ∀ a0 a1 k, LeO (laws_FnCrc24.f k a0 a1) (laws_FnCrc24.f (k + 1) a0 a1) := by
  intro a0 a1 k
  unfold laws_FnCrc24.f
  repeat' first
      | (with_reducible exact impl_Crc24.mono _ _ _)
      | (with_reducible exact spec_Crc24.mono _ _ _)
      | (with_reducible exact LeO.refl _)
      | (with_reducible exact LeO.none _)
      | (with_reducible refine LeO.ite ?_ ?_)
      | (with_reducible refine LeO.bind ?_ (fun _ => ?_))
      | exact impl_Crc24.mono _ _ _
      | exact spec_Crc24.mono _ _ _
      | exact LeO.none _
      | refine LeO.ite ?_ ?_
      | refine LeO.bind ?_ (fun _ => ?_)
set_option maxHeartbeats 8000000 in
set_option maxRecDepth 100000 in
theorem laws_FnCrc24.calls (k : Nat) (a0 : Int) (A1 : Option Addr) (c1 : Nat) (l1 : List Int) (r : Bool) (w : World) (hr1 : Kd.C (Kd.int .u8) w A1 l1.length l1) (hc1 : l1.length ≤ c1) (h : laws_FnCrc24.f k a0 l1 = some r) :
    Calls Try.prog 5 #[.int .u32 a0, .slice A1 l1.length c1] w fun e w' => e = .returned (.bool r) ∧ Drawn0 w w' := by
  have HR1 := Aside0.mk hr1
  have HC1 := Aside0.mk hc1
  clear hr1 hc1
  have H : (if (l1.length : Int) > 2147483647 then (some true) else (if (l1.length : Int) > 4096 then (some true) else ((impl_Crc24.f k (Go.bits .and .u32 a0 16777215) l1).bind fun t105 => ((spec_Crc24.f k (Go.bits .and .u32 a0 16777215) l1).bind fun t106 => (some (t105 == t106)))))) = some r := h
  clear h
  by_cases c3 : (l1.length : Int) > 2147483647
  · rw [if_pos c3] at H
    have c3b0 : decide (2147483647 < (l1.length : Int)) = true := decide_eq_true c3
    have c3b1 : decide (2147483647 < l1.length) = true := decide_eq_true (by omega)
    clear c3
    obtain rfl := Option.some.inj H
    go_enter Try.func5, Try.ntmps5
    go_wp2
    go_ret
    exact ⟨by first | rfl | (simp; done) | (simp [*]; done), by repeat (first | exact Drawn0.refl _ | apply Drawn0.step)⟩
  · rw [if_neg c3] at H
    have c3b0 : decide (2147483647 < (l1.length : Int)) = false := decide_eq_false c3
    have c3b1 : decide (2147483647 < l1.length) = false := decide_eq_false (by omega)
    clear c3
    by_cases c4 : (l1.length : Int) > 4096
    · rw [if_pos c4] at H
      have c4b0 : decide (4096 < (l1.length : Int)) = true := decide_eq_true c4
      have c4b1 : decide (4096 < l1.length) = true := decide_eq_true (by omega)
      clear c4
      obtain rfl := Option.some.inj H
      go_enter Try.func5, Try.ntmps5
      go_wp2
      go_ret
      exact ⟨by first | rfl | (simp; done) | (simp [*]; done), by repeat (first | exact Drawn0.refl _ | apply Drawn0.step)⟩
    · rw [if_neg c4] at H
      have c4b0 : decide (4096 < (l1.length : Int)) = false := decide_eq_false c4
      have c4b1 : decide (4096 < l1.length) = false := decide_eq_false (by omega)
      clear c4
      replace H := Option.bind_eq_some_iff.mp H
      obtain ⟨t105, A50, H⟩ := H
      replace H : ((spec_Crc24.f k (Go.bits .and .u32 a0 16777215) l1).bind fun t106 => (some (t105 == t106))) = some r := H
      have A5 := Aside0.mk A50
      clear A50
      replace H := Option.bind_eq_some_iff.mp H
      obtain ⟨t106, A60, H⟩ := H
      replace H : (some (t105 == t106)) = some r := H
      have A6 := Aside0.mk A60
      clear A60
      obtain rfl := Option.some.inj H
      go_enter Try.func5, Try.ntmps5
      go_wp2_with (first | (go_at_call 14; (with_reducible refine (impl_Crc24.calls k (Go.bits .and .u32 a0 16777215) _ _ l1 t105 _ ?side1 ?side2 A5.out).mono ?_); (case side1 => repeat (first | exact HR1.out | (with_reducible refine Kd.C_alloc ?_ _) | (with_reducible refine Kd.C_drewN ?_ _) | (with_reducible refine Kd.C_drew ?_))); (case side2 => exact HC1.out); rintro e w' ⟨rfl, ⟨nd, rfl⟩⟩) | (go_at_call 15; (with_reducible refine (spec_Crc24.calls k (Go.bits .and .u32 a0 16777215) _ _ l1 t106 _ ?side1 ?side2 A6.out).mono ?_); (case side1 => repeat (first | exact HR1.out | (with_reducible refine Kd.C_alloc ?_ _) | (with_reducible refine Kd.C_drewN ?_ _) | (with_reducible refine Kd.C_drew ?_))); (case side2 => exact HC1.out); rintro e w' ⟨rfl, ⟨nd, rfl⟩⟩))
      go_ret
      exact ⟨by first | rfl | (simp; done) | (simp [*]; done), by repeat (first | exact Drawn0.refl _ | apply Drawn0.step)⟩

/-- THE ONE PURE STATEMENT of laws_FnCrc24: yours. -/
def laws_FnCrc24.Pure : Prop := ∀ (a0 : Int) (l1 : List Int), (Lit.int .u32 a0).wf = true → l1.length ≤ maxLen → l1.length * 1 ≤ 140737488351232 → (∀ x ∈ l1, (Lit.int .u8 x).wf = true) → ∃ k, laws_FnCrc24.f k a0 l1 = some true
theorem laws_FnCrc24.walk (P : laws_FnCrc24.Pure) (a0 : Int) (a1 : Option Addr) (len1 cap1 : Nat) (z1 : List Int) (w : World) (w0 : (Lit.int .u32 a0).wf = true) (w1 : (a1 = none ∧ len1 = 0 ∧ cap1 = 0 ∧ z1 = []) ∨ ∃ x, a1 = some x ∧ len1 ≤ cap1 ∧ cap1 ≤ maxLen ∧ z1.length = cap1 ∧ (∀ i, i < z1.length → w.cell? (x.add i) = some (.int .u8 (z1.getD i 0))) ∧ ∀ n ∈ z1, (Lit.int .u8 n).wf = true) (y1 : len1 * 1 ≤ 140737488351232) :
    Calls Try.prog 5 #[.int .u32 a0, .slice a1 len1 cap1] w fun e w' => e = .returned (.bool true) ∧ Below w.heap.size w w' := by
  obtain ⟨l1, rfl, hr1, hm1, hw1, hc1⟩ := ReadsInt.ofRowC w1
  obtain ⟨k, h⟩ := P a0 l1 w0 hm1 y1 hw1
  refine (laws_FnCrc24.calls k a0 _ _ l1 true w (Kd.C_of_reads (d := (0 : Int)) (h1 := fun _ => rfl) hr1) hc1 h).mono ?_
  rintro e w' ⟨rfl, hd⟩
  exact ⟨rfl, hd.below⟩

end Go.Proofs.Ytnjbgmobobffmaa.PFnCrc24
