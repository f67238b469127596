-- PRINTED BY print.sh 35421559b90ae4d0a3588c463048766b98c2df88dd9212a6774a882060cdf62d: not written by this session
import Derived.Test.YtnjbgmobobffmaaPFnDoublex0
import Derived.Test.YtnjbgmobobffmaaPFnDoublex1
namespace Go.Proofs.Ytnjbgmobobffmaa.PFnDouble
open Go.RowKit Go.Proofs.YtnjbgmobobffmaaW.PrintWords Go.Proofs.YtnjbgmobobffmaaW.PrintLast Go.Proofs.YtnjbgmobobffmaaW.PrintMore
attribute [local go_sem] max2_int min2_int max_two min_two max_three min_three max_four min_four   -- for this text's walks alone
set_option linter.unusedVariables false
set_option linter.unusedSimpArgs false

/-! ### spec_Shifted: function 13 -/
def spec_Shifted.l0 : Nat → List Int → Int → List Int → Int → Int → Option (List Int)
  | 0, _, _, _, _, _ => none
  | k + 1, x0, x1, x7, x12, x13 => if x13 < x12 then (if 0 ≤ (wrap64 (Int.tdiv x13 8)) then (if (wrap64 (Int.tdiv x13 8)) < (x7.length : Int) then ((spec_bitAt.f x0 (wrap64 (x1 + x13))).bind fun t122 => (if 0 ≤ (wrap64 (7 - (Int.tmod x13 8))) then (spec_Shifted.l0 k x0 x1 (x7.set ((wrap64 (Int.tdiv x13 8)) : Int).toNat (Go.bits .or .u8 (rd x7 (wrap64 (Int.tdiv x13 8))) (shl .u8 t122 (wrap64 (7 - (Int.tmod x13 8)))))) x12 (wrap64 (x13 + 1))) else (none))) else (none)) else (none)) else (some x7)
def spec_Shifted.f (k : Nat) (l0 : List Int) (a1 : Int) (a2 : Int) : Option (List Int) := if 0 ≤ a2 then (if (a2 : Int).toNat ≤ 281474976710656 then (spec_Shifted.l0 k l0 a1 (List.replicate (a2 : Int).toNat 0) (wrap64 (8 * a2)) 0) else (none)) else (none)
theorem spec_Shifted.mono_l : ∀ k, (∀ y0 y1 y2 y3 y4, LeO (spec_Shifted.l0 k y0 y1 y2 y3 y4) (spec_Shifted.l0 (k + 1) y0 y1 y2 y3 y4))
  | 0 => fun _ _ _ _ _ r h => by simp [spec_Shifted.l0] at h
  | k + 1 => by
    have ih0 := spec_Shifted.mono_l k
    · intro y0 y1 y2 y3 y4
      unfold spec_Shifted.l0
      repeat' first
      | (with_reducible exact ih0 _ _ _ _ _)
      | (with_reducible exact LeO.refl _)
      | (with_reducible exact LeO.none _)
      | (with_reducible refine LeO.ite ?_ ?_)
      | (with_reducible refine LeO.bind ?_ (fun _ => ?_))
      | exact ih0 _ _ _ _ _
      | exact LeO.none _
      | refine LeO.ite ?_ ?_
      | refine LeO.bind ?_ (fun _ => ?_)
theorem spec_Shifted.mono : ∀ a0 a1 a2 k, LeO (spec_Shifted.f k a0 a1 a2) (spec_Shifted.f (k + 1) a0 a1 a2) := by
  intro a0 a1 a2 k
  have ih0 := spec_Shifted.mono_l k
  unfold spec_Shifted.f
  repeat' first
      | (with_reducible exact ih0 _ _ _ _ _)
      | (with_reducible exact LeO.refl _)
      | (with_reducible exact LeO.none _)
      | (with_reducible refine LeO.ite ?_ ?_)
      | (with_reducible refine LeO.bind ?_ (fun _ => ?_))
      | exact ih0 _ _ _ _ _
      | exact LeO.none _
      | refine LeO.ite ?_ ?_
      | refine LeO.bind ?_ (fun _ => ?_)
def spec_Shifted.T5 : Bool × List (List Nat × List Nat) := (true, [([], []), ([], []), ([1], [1]), ([0, 2], [0, 2]), ([3], [3]), ([], []), ([], []), ([], []), ([6, 7], [6, 7]), ([5, 8], [5, 8]), ([], []), ([10], [10]), ([11], [11]), ([9, 12], [9, 12]), ([4, 13], [4, 13]), ([0, 2, 0, 1, 2, 3, 4, 5, 6, 7, 8, 9, 10, 11, 12, 13, 14], [0, 2]), ([15, 14, 9, 0, 1, 2, 3, 4, 5, 6, 7, 8, 9, 10, 11, 12, 13, 14], [14, 15])])
def spec_Shifted.B5 : List Nat := [0, 0, 2, 7, 15, 0, 0, 0, 192, 480, 0, 1024, 3072, 8160, 16383, 32767, 65535]
theorem spec_Shifted.tab5 : rtab .any (opsOf Try.f13 5) = spec_Shifted.T5 := by kernel_rfl
theorem spec_Shifted.bits5 : waitsOk spec_Shifted.T5.2 spec_Shifted.B5 = true := by kernel_rfl
set_option maxHeartbeats 8000000 in
set_option maxRecDepth 100000 in
theorem spec_Shifted.calls (k : Nat) (A0 : Option Addr) (c0 : Nat) (l0 : List Int) (a1 : Int) (a2 : Int) (r : List Int) (w : World) (hr0 : Kd.C (Kd.int .u8) w A0 l0.length l0) (hc0 : l0.length ≤ c0) (h : spec_Shifted.f k l0 a1 a2 = some r) :
    Calls Try.prog 13 #[.slice A0 l0.length c0, .int .i64 a1, .int .i64 a2] w fun e w' => ∃ v0_ : Value, e = .returned (v0_) ∧ Kd.R (Kd.int .u8) 5 w' w.heap.size (fun _ => True) v0_ r ∧ Below w.heap.size w w' := by
  have HR0 := Aside0.mk hr0
  have HC0 := Aside0.mk hc0
  clear hr0 hc0
  have HB := Aside0.mk (Below.refl w.heap.size w)
  have H : (if 0 ≤ a2 then (if (a2 : Int).toNat ≤ 281474976710656 then (spec_Shifted.l0 k l0 a1 (List.replicate (a2 : Int).toNat 0) (wrap64 (8 * a2)) 0) else (none)) else (none)) = some r := h
  clear h
  by_cases c4 : 0 ≤ a2
  · rw [if_pos c4] at H
    have c4b0 := eq_true c4
    have c4b1 : decide (0 ≤ a2) = true := decide_eq_true c4
    clear c4
    by_cases c5 : (a2 : Int).toNat ≤ 281474976710656
    · rw [if_pos c5] at H
      have c5b0 := eq_true c5
      have c5b1 : decide ((a2 : Int).toNat ≤ 281474976710656) = true := decide_eq_true c5
      clear c5
      obtain ⟨y118, hy118⟩ : ∃ y_ : List Int, y_ = (List.replicate (a2 : Int).toNat 0) := ⟨_, rfl⟩
      replace H : (spec_Shifted.l0 k l0 a1 y118 (wrap64 (8 * a2)) 0) = some r := by first | (rw [hy118]; with_reducible exact H) | (have H2_ := (Option.bind_some _ _).symm.trans H; rw [hy118]; with_reducible exact H2_) | (have H2_ := (Option.bind_some _ _).symm.trans H; with_reducible exact H2_) | with_reducible exact H | (rw [hy118]; exact H) | exact H
      have Ny118 := Aside0.mk hy118
      clear hy118
      have H' := Aside0.mk H
      clear H
      go_enter Try.func13, Try.ntmps13
      go_wp2_with (first | ((with_reducible refine gate_dst (N := 10) rfl ?_); refine Kd.R_make (Kd.int .u8) _ 5 rfl (N := 10) rfl 24 _ _ rfl a2 rfl rfl Try.underlying24 (.int .u8 0) 1 info5 rfl (by decide) (by omega) 0 (ok := fun _ => True) (okp := fun _ => True) rfl (fun _ hk => hk) trivial (of_decide_eq_true (by first | (with_reducible assumption) | assumption)) (Nat.le_trans (Nat.mul_le_mul_right _ (of_decide_eq_true (by first | (with_reducible assumption) | assumption) : a2.toNat ≤ 281474976710656)) (by omega)) (Below.refl _ _) (Nat.le_refl _) ?_; intro v119 w6 ho7 hb hg_ hnew_; clear hg_ hnew_; (first | rw [← Ny118.out] at ho7 | (simp only [Int.reduceToNat] at ho7; rw [← Ny118.out] at ho7)); have n0_ := Aside0.mk (Kd.R_lower ho7 (below_size (by repeat (first | (with_reducible first | exact HB.out | apply below_alloc | apply pw_below_drewN | apply below_drew1) | exact HB.out)))); have n1_ := Aside0.mk (below_step (by repeat (first | (with_reducible first | exact HB.out | apply below_alloc | apply pw_below_drewN | apply below_drew1) | exact HB.out)) hb); clear HB; have HO120 := n0_; have HB := n1_; clear n0_ n1_; clear hb ho7))
      go_loopg [13] k (fun kq v13 w' => ∃ (x7_1 : List Int) (x13_1 : Int), v13 = .int .i64 x13_1 ∧ Aside0 (spec_Shifted.l0 kq l0 a1 x7_1 (wrap64 (8 * a2)) x13_1 = some r) ∧ Aside0 (kq ≤ k) ∧ Aside0 (Kd.R (Kd.int .u8) 5 w' w.heap.size (fun _ => True) v119 x7_1) ∧ Aside0 (Below w.heap.size w w'))
      case atStart => exact ⟨(y118), (0), (by first | rfl | (simp; done) | (simp [*]; done)), H', ⟨Nat.le_refl _⟩, ⟨by (with_reducible repeat (first | apply Kd.R_alloc | apply Kd.R_drewN | apply Kd.R_drew)); exact HO120.out⟩, ⟨by repeat (first | (with_reducible first | exact HB.out | apply below_alloc | apply pw_below_drewN | apply below_drew1) | exact HB.out)⟩⟩
      case round =>
        clear H'
        try clear c1
        try clear p2
        try clear c4
        try clear c4b0
        try clear c4b1
        try clear c5
        try clear c5b0
        try clear c5b1
        try clear p6
        obtain ⟨x7_1, x13_1, rfl, HA, HK1, HO_7, HB⟩ := hrel
        cases gk with
        | zero => exact absurd HA.out (by simp [spec_Shifted.l0])
        | succ k1 =>
          have H := HA.out
          clear HA
          simp only [spec_Shifted.l0] at H
          by_cases c8 : x13_1 < (wrap64 (8 * a2))
          · rw [if_pos c8] at H
            have c8b0 : decide (x13_1 < (wrap64 (8 * a2))) = true := decide_eq_true c8
            clear c8
            obtain ⟨ji9, hji9⟩ : ∃ j_ : Int, (wrap64 (Int.tdiv x13_1 8)) = j_ := ⟨_, rfl⟩
            replace H : (if 0 ≤ (ji9) then (if (ji9) < (x7_1.length : Int) then ((spec_bitAt.f l0 (wrap64 (a1 + x13_1))).bind fun t122 => (if 0 ≤ (wrap64 (7 - (Int.tmod x13_1 8))) then (spec_Shifted.l0 k1 l0 a1 (x7_1.set ((ji9) : Int).toNat (Go.bits .or .u8 (rd x7_1 (ji9)) (shl .u8 t122 (wrap64 (7 - (Int.tmod x13_1 8)))))) (wrap64 (8 * a2)) (wrap64 (x13_1 + 1))) else (none))) else (none)) else (none)) = some r := by first | (rw [hji9] at H; exact H) | (simp only [hji9] at H ⊢; exact H)
            have hji9w : (IntKind.i64.wrap (Int.tdiv x13_1 8)) = ji9 := (i64_w _).trans hji9
            by_cases c10 : 0 ≤ (ji9)
            · rw [if_pos c10] at H
              have c10b0 : decide (0 ≤ (ji9)) = true := decide_eq_true c10
              clear c10
              by_cases c11 : (ji9) < (x7_1.length : Int)
              · rw [if_pos c11] at H
                have c11b0 : decide ((ji9) < (x7_1.length : Int)) = true := decide_eq_true c11
                clear c11
                replace H := Option.bind_eq_some_iff.mp H
                obtain ⟨t122, A120, H⟩ := H
                replace H : (if 0 ≤ (wrap64 (7 - (Int.tmod x13_1 8))) then (spec_Shifted.l0 k1 l0 a1 (x7_1.set ((ji9) : Int).toNat (Go.bits .or .u8 (rd x7_1 (ji9)) (shl .u8 t122 (wrap64 (7 - (Int.tmod x13_1 8)))))) (wrap64 (8 * a2)) (wrap64 (x13_1 + 1))) else (none)) = some r := H
                have A12 := Aside0.mk A120
                clear A120
                obtain ⟨ji13, hji13⟩ : ∃ j_ : Int, (wrap64 (7 - (Int.tmod x13_1 8))) = j_ := ⟨_, rfl⟩
                replace H : (if 0 ≤ (ji13) then (spec_Shifted.l0 k1 l0 a1 (x7_1.set ((ji9) : Int).toNat (Go.bits .or .u8 (rd x7_1 (ji9)) (shl .u8 t122 (ji13)))) (wrap64 (8 * a2)) (wrap64 (x13_1 + 1))) else (none)) = some r := by first | (rw [hji13] at H; exact H) | (simp only [hji13] at H ⊢; exact H)
                (try rw [hji13] at A12)
                have hji13w : (IntKind.i64.wrap (7 - (Int.tmod x13_1 8))) = ji13 := (i64_w _).trans hji13
                by_cases c14 : 0 ≤ (ji13)
                · rw [if_pos c14] at H
                  have c14b0 := eq_true c14
                  have c14b1 : decide (0 ≤ (ji13)) = true := decide_eq_true c14
                  clear c14
                  obtain ⟨ji15, hji15⟩ : ∃ j_ : Int, (shl .u8 t122 (ji13)) = j_ := ⟨_, rfl⟩
                  replace H : (spec_Shifted.l0 k1 l0 a1 (x7_1.set ((ji9) : Int).toNat (Go.bits .or .u8 (rd x7_1 (ji9)) (ji15))) (wrap64 (8 * a2)) (wrap64 (x13_1 + 1))) = some r := by first | (rw [hji15] at H; exact H) | (simp only [hji15] at H ⊢; exact H)
                  (try rw [hji15] at A12)
                  have hji15_ : (IntKind.u8.wrap (t122 * 2 ^ min (ji13).toNat 8)) = ji15 := hji15
                  have hji15z : (ji13) ≤ 8 → (IntKind.u8.wrap (t122 * 2 ^ (ji13).toNat)) = ji15 := shl_small hji15
                  obtain ⟨y123, hy123⟩ : ∃ y_ : List Int, y_ = (x7_1.set ((ji9) : Int).toNat (Go.bits .or .u8 (rd x7_1 (ji9)) (ji15))) := ⟨_, rfl⟩
                  replace H : (spec_Shifted.l0 k1 l0 a1 y123 (wrap64 (8 * a2)) (wrap64 (x13_1 + 1))) = some r := by first | (rw [hy123]; with_reducible exact H) | (have H2_ := (Option.bind_some _ _).symm.trans H; rw [hy123]; with_reducible exact H2_) | (have H2_ := (Option.bind_some _ _).symm.trans H; with_reducible exact H2_) | with_reducible exact H | (rw [hy123]; exact H) | exact H
                  have Ny123 := Aside0.mk hy123
                  clear hy123
                  have H' := Aside0.mk H
                  clear H
                  try go_wp2
                  have n0_ := Aside0.mk (Kd.R_drew HO_7.out)
                  have n1_ := Aside0.mk (below_drew1 HB.out)
                  clear HO_7
                  clear HB
                  have HO_7 := n0_
                  have HB := n1_
                  clear n0_ n1_
                  obtain ⟨Ao18, co18, eo18⟩ := Kd.R_slice HO_7.out
                  (first | subst eo18 | (injection eo18 with f1_ f2_ f3_; have f4_ := f1_.symm; have f5_ := f3_.symm; clear f1_ f2_ f3_; subst f4_; subst f5_))
                  have p121 : 0 ≤ ((ji9) : Int) := of_decide_eq_true (by first | (with_reducible assumption) | assumption)
                  have q121 : (ji9) < (x7_1.length : Int) := of_decide_eq_true (by first | (with_reducible assumption) | assumption)
                  obtain ⟨ad121, e121, hx121_0⟩ := Kd.at_int (Kd.R_reads' HO_7.out).2.2 (ji9) p121 q121
                  cases e121
                  replace p121 := eq_true p121
                  replace q121 := eq_true q121
                  refine start_ (n := 17) (S := fun w' => w'.cell? (ad121.add ((ji9)).toNat) = some (.int .u8 (rd x7_1 (ji9)))) (ds := [16]) #[false, false, false, false, false, false, false, false, false, false, false, false, false, false, false, false, false] (by kernel_rfl) rfl rfl (hx121_0) (fun hHeld => ?_); refine with_tabW spec_Shifted.tab5 spec_Shifted.bits5 (fun HT_ HW_ => ?_)
                  generalize wr.drew = w17 at HO_7 HB hx121_0 hHeld ⊢
                  refine pure_ (i := 0) (N := some 16) (v := ?_) (a' := ?_) #[true, false, false, false, false, false, false, false, false, false, false, false, false, false, false, false, false] rfl rfl (any_of HT_.out (by kernel_rfl)) (fun _ _ _ h => h) (Or.inl ⟨by rfl, ?_⟩) ?_ ?_
                  rotate_left
                  · intro w'
                    go_simp
                    with_reducible rfl
                  rotate_left
                  · simp only [Act.put, List.setIfInBounds_toArray, List.set_cons_zero, List.set_cons_succ, i64_w, i32_w]
                    rfl
                  refine pure_ (i := 1) (N := some 17) (v := ?_) (a' := ?_) #[true, true, false, false, false, false, false, false, false, false, false, false, false, false, false, false, false] rfl rfl (any_of HT_.out (by kernel_rfl)) (fun _ _ _ h => h) (Or.inl ⟨by rfl, ?_⟩) ?_ ?_
                  rotate_left
                  · intro w'
                    go_simp
                    with_reducible rfl
                  rotate_left
                  · simp only [Act.put, List.setIfInBounds_toArray, List.set_cons_zero, List.set_cons_succ, i64_w, i32_w]
                    rfl
                  refine pure_ (i := 2) (N := some 18) (v := ?_) (a' := ?_) #[true, true, true, false, false, false, false, false, false, false, false, false, false, false, false, false, false] rfl rfl (any_of HT_.out (by kernel_rfl)) (fun _ _ _ h => h) (Or.inl ⟨by rfl, ?_⟩) ?_ ?_
                  rotate_left
                  · intro w'
                    go_simp
                    with_reducible rfl
                  rotate_left
                  · simp only [Act.put, List.setIfInBounds_toArray, List.set_cons_zero, List.set_cons_succ, i64_w, i32_w]
                    rfl
                  refine pure_ (i := 3) (N := some 19) (v := ?_) (a' := ?_) #[true, true, true, true, false, false, false, false, false, false, false, false, false, false, false, false, false] rfl rfl (any_of HT_.out (by kernel_rfl)) (fun _ _ _ h => h) (Or.inl ⟨by rfl, ?_⟩) ?_ ?_
                  rotate_left
                  · intro w'
                    go_simp
                    with_reducible rfl
                  rotate_left
                  · simp only [Act.put, List.setIfInBounds_toArray, List.set_cons_zero, List.set_cons_succ, i64_w, i32_w]
                    rfl
                  refine pure_ (i := 5) (N := some 21) (v := ?_) (a' := ?_) #[true, true, true, true, false, true, false, false, false, false, false, false, false, false, false, false, false] rfl rfl (any_of HT_.out (by kernel_rfl)) (fun _ _ _ h => h) (Or.inl ⟨by rfl, ?_⟩) ?_ ?_
                  rotate_left
                  · intro w'
                    go_simp
                    with_reducible rfl
                  rotate_left
                  · simp only [Act.put, List.setIfInBounds_toArray, List.set_cons_zero, List.set_cons_succ, i64_w, i32_w]
                    rfl
                  refine pure_ (i := 6) (N := some 22) (v := ?_) (a' := ?_) #[true, true, true, true, false, true, true, false, false, false, false, false, false, false, false, false, false] rfl rfl (any_of HT_.out (by kernel_rfl)) (fun _ _ _ h => h) (Or.inl ⟨by rfl, ?_⟩) ?_ ?_
                  rotate_left
                  · intro w'
                    go_simp
                    with_reducible rfl
                  rotate_left
                  · simp only [Act.put, List.setIfInBounds_toArray, List.set_cons_zero, List.set_cons_succ, i64_w, i32_w]
                    rfl
                  refine pure_ (i := 7) (N := some 23) (v := ?_) (a' := ?_) #[true, true, true, true, false, true, true, true, false, false, false, false, false, false, false, false, false] rfl rfl (any_of HT_.out (by kernel_rfl)) (fun _ _ _ h => h) (Or.inl ⟨by rfl, ?_⟩) ?_ ?_
                  rotate_left
                  · intro w'
                    go_simp
                    with_reducible rfl
                  rotate_left
                  · simp only [Act.put, List.setIfInBounds_toArray, List.set_cons_zero, List.set_cons_succ, i64_w, i32_w]
                    rfl
                  refine pure_ (i := 8) (N := some 24) (v := ?_) (a' := ?_) #[true, true, true, true, false, true, true, true, true, false, false, false, false, false, false, false, false] rfl rfl (any_of HT_.out (by kernel_rfl)) (fun _ _ _ h => h) (Or.inl ⟨by rfl, ?_⟩) ?_ ?_
                  rotate_left
                  · intro w'
                    go_simp
                    with_reducible rfl
                  rotate_left
                  · simp only [Act.put, List.setIfInBounds_toArray, List.set_cons_zero, List.set_cons_succ, i64_w, i32_w]
                    rfl
                  refine pure_ (i := 10) (N := some 26) (v := ?_) (a' := ?_) #[true, true, true, true, false, true, true, true, true, false, true, false, false, false, false, false, false] rfl rfl (any_of HT_.out (by kernel_rfl)) (fun _ _ _ h => h) (Or.inl ⟨by rfl, ?_⟩) ?_ ?_
                  rotate_left
                  · intro w'
                    go_simp
                    with_reducible rfl
                  rotate_left
                  · simp only [Act.put, List.setIfInBounds_toArray, List.set_cons_zero, List.set_cons_succ, i64_w, i32_w]
                    rfl
                  refine pure_ (i := 11) (N := some 27) (v := ?_) (a' := ?_) #[true, true, true, true, false, true, true, true, true, false, true, true, false, false, false, false, false] rfl rfl (any_of HT_.out (by kernel_rfl)) (fun _ _ _ h => h) (Or.inl ⟨by rfl, ?_⟩) ?_ ?_
                  rotate_left
                  · intro w'
                    go_simp
                    with_reducible rfl
                  rotate_left
                  · simp only [Act.put, List.setIfInBounds_toArray, List.set_cons_zero, List.set_cons_succ, i64_w, i32_w]
                    rfl
                  refine pure_ (i := 12) (N := some 28) (v := ?_) (a' := ?_) #[true, true, true, true, false, true, true, true, true, false, true, true, true, false, false, false, false] rfl rfl (any_of HT_.out (by kernel_rfl)) (fun _ _ _ h => h) (Or.inl ⟨by rfl, ?_⟩) ?_ ?_
                  rotate_left
                  · intro w'
                    go_simp
                    with_reducible rfl
                  rotate_left
                  · simp only [Act.put, List.setIfInBounds_toArray, List.set_cons_zero, List.set_cons_succ, i64_w, i32_w]
                    rfl
                  refine take_ (i := 4) (N := some 20) (v := ?_) (a' := ?_) #[true, true, true, true, true, true, true, true, true, false, true, true, true, false, false, false, false] rfl rfl (take_ofW HT_.out HW_.out (by kernel_rfl)) (fun _ _ _ h => h) (Or.inl ⟨by rfl, ?_⟩) hHeld ?_ ?_
                  rotate_left
                  · intro w' s0
                    go_simp
                    with_reducible rfl
                  rotate_left
                  · simp only [Act.put, List.setIfInBounds_toArray, List.set_cons_zero, List.set_cons_succ, i64_w, i32_w]
                    rfl
                  refine one_ (i := 9) (N := some 25) #[true, true, true, true, true, true, true, true, true, true, true, true, true, false, false, false, false] rfl rfl (one_of HT_.out (by kernel_rfl)) (by decide) (fun K hK => ?_)
                  refine goes_ Try.func24 (by kernel_rfl) rfl #[.slice A0 l0.length c0, .int .i64 (wrap64 (a1 + x13_1))] (by rfl) rfl rfl (by (try simp only [List.map_toArray, List.map_cons, List.map_nil]); first | done | rfl | (simp only [List.length_drop, List.length_take]; rfl)) ?_
                  with_reducible refine (spec_bitAt.calls _ _ l0 (wrap64 (a1 + x13_1)) t122 _ ?side1 ?side2 A12.out).mono ?_
                  (case side1 => repeat (first | exact (Kd.C_below HR0.out HB.out) | (with_reducible refine Kd.C_alloc ?_ _) | (with_reducible refine Kd.C_drewN ?_ _) | (with_reducible refine Kd.C_drew ?_)))
                  (case side2 => exact HC0.out)
                  rintro e w' ⟨rfl, ⟨nd, rfl⟩⟩
                  refine ⟨_, rfl, ?_⟩
                  have p16 : 0 ≤ ((ji9) : Int) := of_decide_eq_true (by first | (with_reducible assumption) | assumption)
                  have q16 : ((ji9) : Int) < ((x7_1.length : Int) : Int) := of_decide_eq_true (by first | (with_reducible assumption) | assumption)
                  obtain ⟨go16, co16, eo16, gb16, gl16, cl16, HG16⟩ := Kd.R_form HO_7.out (by omega)
                  (first | cases eo16 | (injection eo16 with ea_ en_ ec_; (first | subst ea_ | (injection ea_ with ea_; subst ea_)); subst ec_; clear en_))
                  have GB16 := Aside0.mk gb16
                  have GG16 := Aside0.mk HG16
                  clear gb16 gl16 HG16
                  (first | simp only [add_plain] at hx121_0 | skip)
                  obtain ⟨hx16_0, hf16_0⟩ := Kd.R_celln 0 HO_7.out ((ji9) : Int) p16 q16
                  replace p16 := eq_true p16
                  replace q16 := eq_true q16
                  have HP19 := Kd.R_putn HO_7.out ((ji9) : Int) (Go.bits .or .u8 (rd x7_1 (ji9)) (ji15))
                  rw [← Ny123.out] at HP19
                  have HQ19 := Aside0.mk HP19
                  clear HP19
                  refine hK.out _ _ (hHeld) (fun hHeld => ?_)
                  clear hK K
                  refine norm_ (a' := ?_) ?_ ?_
                  rotate_left
                  · show Act.put _ (some 25) _ = _
                    simp only [Act.put, List.setIfInBounds_toArray, List.set_cons_zero, List.set_cons_succ, i64_w, i32_w]
                    rfl
                  refine pure_ (i := 13) (N := some 29) (v := ?_) (a' := ?_) #[true, true, true, true, true, true, true, true, true, true, true, true, true, true, false, false, false] rfl rfl (any_of HT_.out (by kernel_rfl)) (fun _ _ _ h => h) (Or.inl ⟨by rfl, ?_⟩) ?_ ?_
                  rotate_left
                  · intro w'
                    go_simp
                    with_reducible rfl
                  rotate_left
                  · simp only [Act.put, List.setIfInBounds_toArray, List.set_cons_zero, List.set_cons_succ, i64_w, i32_w]
                    rfl
                  refine pure_ (i := 14) (N := some 30) (v := ?_) (a' := ?_) #[true, true, true, true, true, true, true, true, true, true, true, true, true, true, true, false, false] rfl rfl (any_of HT_.out (by kernel_rfl)) (fun _ _ _ h => h) (Or.inl ⟨by rfl, ?_⟩) ?_ ?_
                  rotate_left
                  · intro w'
                    go_simp
                    with_reducible rfl
                  rotate_left
                  · simp only [Act.put, List.setIfInBounds_toArray, List.set_cons_zero, List.set_cons_succ, i64_w, i32_w]
                    rfl
                  refine pure_ (i := 15) (N := some 31) (v := ?_) (a' := ?_) #[true, true, true, true, true, true, true, true, true, true, true, true, true, true, true, true, false] rfl rfl (any_of HT_.out (by kernel_rfl)) (fun _ _ _ h => h) (Or.inl ⟨by rfl, ?_⟩) ?_ ?_
                  rotate_left
                  · intro w'
                    go_simp
                    with_reducible rfl
                  rotate_left
                  · simp only [Act.put, List.setIfInBounds_toArray, List.set_cons_zero, List.set_cons_succ, i64_w, i32_w]
                    rfl
                  refine last_ (i := 16) (N := none) #[true, true, true, true, true, true, true, true, true, true, true, true, true, true, true, true, true] rfl rfl (one_of HT_.out (by kernel_rfl)) (by decide) (fun K hK => ?_)
                  refine skip_ (w1 := ?_) (by rfl) rfl ?_ ?_
                  rotate_left
                  · go_simp
                    rfl
                  refine hK.out _ _ ?_
                  clear hK K
                  refine done_ (done_of HT_.out (by kernel_rfl)) ?_
                  try go_wp2
                  go_roundg k1
                  case measure => have := HK1.out; omega
                  case rel => exact ⟨(y123), (wrap64 (x13_1 + 1)), (by first | rfl | (simp; done) | (simp [*]; done)), H', ⟨by have := HK1.out; omega⟩, ⟨by (with_reducible repeat (first | apply Kd.R_alloc | apply Kd.R_drewN | apply Kd.R_drew)); exact HQ19.out⟩, ⟨by repeat (first | (with_reducible first | exact HB.out | apply below_alloc | apply pw_below_drewN | apply below_drew1 | refine below_set ?_ GB16.out) | exact HB.out)⟩⟩
                · rw [if_neg c14] at H
                  exact absurd H (by simp)
              · rw [if_neg c11] at H
                exact absurd H (by simp)
            · rw [if_neg c10] at H
              exact absurd H (by simp)
          · rw [if_neg c8] at H
            have c8b0 : decide (x13_1 < (wrap64 (8 * a2))) = false := decide_eq_false c8
            clear c8
            obtain rfl := Option.some.inj H
            go_wp2
            go_ret
            exact ⟨_, by first | rfl | (simp [errW_none, errW_some] <;> rfl) | (simp [*, errW_none, errW_some] <;> rfl), by (with_reducible repeat (first | apply Kd.R_alloc | apply Kd.R_drewN | apply Kd.R_drew)); exact HO_7.out, by repeat (first | (with_reducible first | exact HB.out | apply below_alloc | apply pw_below_drewN | apply below_drew1) | exact HB.out)⟩
    · rw [if_neg c5] at H
      exact absurd H (by simp)
  · rw [if_neg c4] at H
    exact absurd H (by simp)

/-! ### spec_Doubled: function 19 -/
def spec_Doubled.f (k : Nat) (l0 : List Int) : Option (List Int) := (spec_Shifted.f k l0 1 (l0.length : Int)).bind fun t124 => ((spec_bitAt.f l0 0).bind fun t127 => (if t127 = 1 then (if 0 ≤ (wrap64 ((t124.length : Int) - 1)) then (if (wrap64 ((t124.length : Int) - 1)) < (t124.length : Int) then (some (t124.set ((wrap64 ((t124.length : Int) - 1)) : Int).toNat (Go.bits .xor .u8 (rd t124 (wrap64 ((t124.length : Int) - 1))) 135))) else (none)) else (none)) else (some t124)))
theorem spec_Doubled.mono : ∀ a0 k, LeO (spec_Doubled.f k a0) (spec_Doubled.f (k + 1) a0) := by
  intro a0 k
  unfold spec_Doubled.f
  repeat' first
      | (with_reducible exact spec_Shifted.mono _ _ _ _)
      | (with_reducible exact LeO.refl _)
      | (with_reducible exact LeO.none _)
      | (with_reducible refine LeO.ite ?_ ?_)
      | (with_reducible refine LeO.bind ?_ (fun _ => ?_))
      | exact spec_Shifted.mono _ _ _ _
      | exact LeO.none _
      | refine LeO.ite ?_ ?_
      | refine LeO.bind ?_ (fun _ => ?_)
set_option maxHeartbeats 8000000 in
set_option maxRecDepth 100000 in
theorem spec_Doubled.calls (k : Nat) (A0 : Option Addr) (c0 : Nat) (l0 : List Int) (r : List Int) (w : World) (hr0 : Kd.C (Kd.int .u8) w A0 l0.length l0) (hc0 : l0.length ≤ c0) (h : spec_Doubled.f k l0 = some r) :
    Calls Try.prog 19 #[.slice A0 l0.length c0] w fun e w' => ∃ v0_ : Value, e = .returned (v0_) ∧ Kd.R (Kd.int .u8) 5 w' w.heap.size (fun _ => True) v0_ r ∧ Below w.heap.size w w' := by
  have HR0 := Aside0.mk hr0
  have HC0 := Aside0.mk hc0
  clear hr0 hc0
  have HB := Aside0.mk (Below.refl w.heap.size w)
  have H : ((spec_Shifted.f k l0 1 (l0.length : Int)).bind fun t124 => ((spec_bitAt.f l0 0).bind fun t127 => (if t127 = 1 then (if 0 ≤ (wrap64 ((t124.length : Int) - 1)) then (if (wrap64 ((t124.length : Int) - 1)) < (t124.length : Int) then (some (t124.set ((wrap64 ((t124.length : Int) - 1)) : Int).toNat (Go.bits .xor .u8 (rd t124 (wrap64 ((t124.length : Int) - 1))) 135))) else (none)) else (none)) else (some t124)))) = some r := h
  clear h
  replace H := Option.bind_eq_some_iff.mp H
  obtain ⟨t124, A20, H⟩ := H
  replace H : ((spec_bitAt.f l0 0).bind fun t127 => (if t127 = 1 then (if 0 ≤ (wrap64 ((t124.length : Int) - 1)) then (if (wrap64 ((t124.length : Int) - 1)) < (t124.length : Int) then (some (t124.set ((wrap64 ((t124.length : Int) - 1)) : Int).toNat (Go.bits .xor .u8 (rd t124 (wrap64 ((t124.length : Int) - 1))) 135))) else (none)) else (none)) else (some t124))) = some r := H
  have A2 := Aside0.mk A20
  clear A20
  replace H := Option.bind_eq_some_iff.mp H
  obtain ⟨t127, A30, H⟩ := H
  replace H : (if t127 = 1 then (if 0 ≤ (wrap64 ((t124.length : Int) - 1)) then (if (wrap64 ((t124.length : Int) - 1)) < (t124.length : Int) then (some (t124.set ((wrap64 ((t124.length : Int) - 1)) : Int).toNat (Go.bits .xor .u8 (rd t124 (wrap64 ((t124.length : Int) - 1))) 135))) else (none)) else (none)) else (some t124)) = some r := H
  have A3 := Aside0.mk A30
  clear A30
  by_cases c4 : t127 = 1
  · rw [if_pos c4] at H
    have c4b0 : (t127 == 1) = true := beq_iff_eq.mpr c4
    have c4b1 : (t127 != 1) = false := bne_eq_false_iff_eq.mpr c4
    clear c4
    obtain ⟨ji5, hji5⟩ : ∃ j_ : Int, (wrap64 ((t124.length : Int) - 1)) = j_ := ⟨_, rfl⟩
    replace H : (if 0 ≤ (ji5) then (if (ji5) < (t124.length : Int) then (some (t124.set ((ji5) : Int).toNat (Go.bits .xor .u8 (rd t124 (ji5)) 135))) else (none)) else (none)) = some r := by first | (rw [hji5] at H; exact H) | (simp only [hji5] at H ⊢; exact H)
    (try rw [hji5] at A2)
    (try rw [hji5] at A3)
    have hji5w : (IntKind.i64.wrap ((t124.length : Int) - 1)) = ji5 := (i64_w _).trans hji5
    by_cases c6 : 0 ≤ (ji5)
    · rw [if_pos c6] at H
      have c6b0 : decide (0 ≤ (ji5)) = true := decide_eq_true c6
      clear c6
      by_cases c7 : (ji5) < (t124.length : Int)
      · rw [if_pos c7] at H
        have c7b0 : decide ((ji5) < (t124.length : Int)) = true := decide_eq_true c7
        clear c7
        obtain ⟨y129, hy129⟩ : ∃ y_ : List Int, y_ = (t124.set ((ji5) : Int).toNat (Go.bits .xor .u8 (rd t124 (ji5)) 135)) := ⟨_, rfl⟩
        replace H : (some y129) = some r := by first | (rw [hy129]; with_reducible exact H) | (have H2_ := (Option.bind_some _ _).symm.trans H; rw [hy129]; with_reducible exact H2_) | (have H2_ := (Option.bind_some _ _).symm.trans H; with_reducible exact H2_) | with_reducible exact H | (rw [hy129]; exact H) | exact H
        have Ny129 := Aside0.mk hy129
        clear hy129
        obtain rfl := Option.some.inj H
        go_enter Try.func19, Try.ntmps19
        go_wp2_with (first | ((with_reducible refine gate_callee (f := 13) rfl ?_); refine goesL_ (some 7) rfl rfl Try.func13 (by kernel_rfl) rfl #[.slice A0 l0.length c0, .int .i64 1, .int .i64 (l0.length : Int)] rfl (by (try simp only [List.map_toArray, List.map_cons, List.map_nil]); first | done | rfl | (simp only [List.length_drop, List.length_take]; rfl)) ?_; (with_reducible refine (spec_Shifted.calls k _ _ l0 1 (l0.length : Int) t124 _ ?side1 ?side2 A2.out).mono ?_); (case side1 => repeat (first | exact HR0.out | (with_reducible refine Kd.C_alloc ?_ _) | (with_reducible refine Kd.C_drewN ?_ _) | (with_reducible refine Kd.C_drew ?_))); (case side2 => exact HC0.out); rintro e w9 ⟨v125, rfl, ho0, hb⟩; refine ⟨_, rfl, ?_⟩; have n0_ := Aside0.mk (Kd.R_lower ho0 (below_size (by repeat (first | (with_reducible first | exact HB.out | apply below_alloc | apply pw_below_drewN | apply below_drew1) | exact HB.out)))); have n1_ := Aside0.mk (below_step (by repeat (first | (with_reducible first | exact HB.out | apply below_alloc | apply pw_below_drewN | apply below_drew1) | exact HB.out)) hb); clear HB; have HO126 := n0_; have HB := n1_; clear n0_ n1_; (try clear hb); (try clear hb2); (try clear hk); (try clear hi); (try clear ho0)) | ((with_reducible refine gate_callee (f := 24) rfl ?_); refine goesL_ (some 9) rfl rfl Try.func24 (by kernel_rfl) rfl #[.slice A0 l0.length c0, .int .i64 0] rfl (by (try simp only [List.map_toArray, List.map_cons, List.map_nil]); first | done | rfl | (simp only [List.length_drop, List.length_take]; rfl)) ?_; (with_reducible refine (spec_bitAt.calls _ _ l0 0 t127 _ ?side1 ?side2 A3.out).mono ?_); (case side1 => repeat (first | exact (Kd.C_below HR0.out HB.out) | (with_reducible refine Kd.C_alloc ?_ _) | (with_reducible refine Kd.C_drewN ?_ _) | (with_reducible refine Kd.C_drew ?_))); (case side2 => exact HC0.out); rintro e w' ⟨rfl, ⟨nd, rfl⟩⟩; refine ⟨_, rfl, ?_⟩; (try (rw [drewN_self w9]; generalize hq_ : World.drewN w9 _ = w9; have n0_ : Aside0 (Kd.R (Kd.int .u8) 5 w9 w.heap.size (fun _ => True) v125 t124) := ⟨by rw [← hq_]; exact (by (with_reducible repeat (first | apply Kd.R_alloc | apply Kd.R_drewN | apply Kd.R_drew)); exact HO126.out)⟩; have n1_ : Aside0 (Below w.heap.size w w9) := ⟨by rw [← hq_]; exact (by repeat (first | (with_reducible first | exact HB.out | apply below_alloc | apply pw_below_drewN | apply below_drew1) | exact HB.out))⟩; clear HO126 HB hq_; have HO126 := n0_; have HB := n1_; clear n0_ n1_)); obtain ⟨Ao10, co10, eo10⟩ := Kd.R_slice HO126.out; subst eo10; have p128 : 0 ≤ ((ji5) : Int) := of_decide_eq_true (by first | (with_reducible assumption) | assumption); have q128 : (ji5) < (t124.length : Int) := of_decide_eq_true (by first | (with_reducible assumption) | assumption); obtain ⟨ad128, e128, hx128_0⟩ := Kd.at_int (Kd.R_reads' HO126.out).2.2 (ji5) p128 q128; cases e128; replace p128 := eq_true p128; replace q128 := eq_true q128; have p8 : 0 ≤ ((ji5) : Int) := of_decide_eq_true (by first | (with_reducible assumption) | assumption); have q8 : ((ji5) : Int) < ((t124.length : Int) : Int) := of_decide_eq_true (by first | (with_reducible assumption) | assumption); obtain ⟨go8, co8, eo8, gb8, gl8, cl8, HG8⟩ := Kd.R_form HO126.out (by omega); (first | cases eo8 | (injection eo8 with ea_ en_ ec_; (first | subst ea_ | (injection ea_ with ea_; subst ea_)); subst ec_; clear en_)); have GB8 := Aside0.mk gb8; have GG8 := Aside0.mk HG8; clear gb8 gl8 HG8; (first | simp only [add_plain] at hx128_0 | skip); obtain ⟨hx8_0, hf8_0⟩ := Kd.R_celln 0 HO126.out ((ji5) : Int) p8 q8; replace p8 := eq_true p8; replace q8 := eq_true q8; obtain ⟨hy11_, hz11_⟩ := Kd.R_celln 0 HO126.out ((ji5) : Int) (of_decide_eq_true (by first | (with_reducible assumption) | assumption)) (of_decide_eq_true (by first | (with_reducible assumption) | assumption)); have HP11 := Kd.R_putg HO126.out ((ji5) : Int) (Go.bits .xor .u8 (rd t124 (ji5)) 135)) | ((with_reducible refine gate_store (t := 5) (p := 18) rfl ?_); refine store_event (t := 5) (p := 18) (v := ?vo_w12) (w1 := (w9.setCell ⟨go8, ((ji5) : Int).toNat, none⟩ (.int .u8 (Go.bits .xor .u8 (rd t124 (ji5)) 135)))) ?hg ?ho ?hn ?hr ?_; (case ho => rfl); (case hg => rfl); (case hn => rfl); (case hr => first | (go_simp; done) | (go_simp; rfl)); intro w12 hw; have hg : w9.grownBy w12 (some go8) := (by rw [hw]; exact HP11.2); have hp_ : Kd.R (Kd.int .u8) 5 w12 w.heap.size (fun _ => True) (.slice (some ⟨go8, 0, none⟩) t124.length co10) y129 := (by rw [hw, Ny129.out]; exact HP11.1); clear HP11; have n0_ := Aside0.mk (hp_); have n1_ := Aside0.mk ((by rw [hw]; exact below_set (HB.out) GB8.out : Below w.heap.size w w12)); clear HO126; clear HB; have HO126 := n0_; have HB := n1_; clear n0_ n1_; clear hg hw hp_))
        go_ret
        exact ⟨_, by first | rfl | (simp [errW_none, errW_some] <;> rfl) | (simp only [← hji5]; first | rfl | (simp [errW_none, errW_some] <;> rfl)) | (simp [*, errW_none, errW_some] <;> rfl), by (with_reducible repeat (first | apply Kd.R_alloc | apply Kd.R_drewN | apply Kd.R_drew)); exact HO126.out, by repeat (first | (with_reducible first | exact HB.out | apply below_alloc | apply pw_below_drewN | apply below_drew1) | exact HB.out)⟩
      · rw [if_neg c7] at H
        exact absurd H (by simp)
    · rw [if_neg c6] at H
      exact absurd H (by simp)
  · rw [if_neg c4] at H
    have c4b0 : (t127 == 1) = false := beq_eq_false_iff_ne.mpr c4
    have c4b1 : (t127 != 1) = true := bne_iff_ne.mpr c4
    obtain rfl := Option.some.inj H
    go_enter Try.func19, Try.ntmps19
    go_wp2_with (first | ((with_reducible refine gate_callee (f := 13) rfl ?_); refine goesL_ (some 7) rfl rfl Try.func13 (by kernel_rfl) rfl #[.slice A0 l0.length c0, .int .i64 1, .int .i64 (l0.length : Int)] rfl (by (try simp only [List.map_toArray, List.map_cons, List.map_nil]); first | done | rfl | (simp only [List.length_drop, List.length_take]; rfl)) ?_; (with_reducible refine (spec_Shifted.calls k _ _ l0 1 (l0.length : Int) t124 _ ?side1 ?side2 A2.out).mono ?_); (case side1 => repeat (first | exact HR0.out | (with_reducible refine Kd.C_alloc ?_ _) | (with_reducible refine Kd.C_drewN ?_ _) | (with_reducible refine Kd.C_drew ?_))); (case side2 => exact HC0.out); rintro e w13 ⟨v125, rfl, ho0, hb⟩; refine ⟨_, rfl, ?_⟩; have n0_ := Aside0.mk (Kd.R_lower ho0 (below_size (by repeat (first | (with_reducible first | exact HB.out | apply below_alloc | apply pw_below_drewN | apply below_drew1) | exact HB.out)))); have n1_ := Aside0.mk (below_step (by repeat (first | (with_reducible first | exact HB.out | apply below_alloc | apply pw_below_drewN | apply below_drew1) | exact HB.out)) hb); clear HB; have HO126 := n0_; have HB := n1_; clear n0_ n1_; (try clear hb); (try clear hb2); (try clear hk); (try clear hi); (try clear ho0)) | ((with_reducible refine gate_callee (f := 24) rfl ?_); refine goesL_ (some 9) rfl rfl Try.func24 (by kernel_rfl) rfl #[.slice A0 l0.length c0, .int .i64 0] rfl (by (try simp only [List.map_toArray, List.map_cons, List.map_nil]); first | done | rfl | (simp only [List.length_drop, List.length_take]; rfl)) ?_; (with_reducible refine (spec_bitAt.calls _ _ l0 0 t127 _ ?side1 ?side2 A3.out).mono ?_); (case side1 => repeat (first | exact (Kd.C_below HR0.out HB.out) | (with_reducible refine Kd.C_alloc ?_ _) | (with_reducible refine Kd.C_drewN ?_ _) | (with_reducible refine Kd.C_drew ?_))); (case side2 => exact HC0.out); rintro e w' ⟨rfl, ⟨nd, rfl⟩⟩; refine ⟨_, rfl, ?_⟩))
    go_ret
    exact ⟨_, by first | rfl | (simp [errW_none, errW_some] <;> rfl) | (simp [*, errW_none, errW_some] <;> rfl), by (with_reducible repeat (first | apply Kd.R_alloc | apply Kd.R_drewN | apply Kd.R_drew)); exact HO126.out, by repeat (first | (with_reducible first | exact HB.out | apply below_alloc | apply pw_below_drewN | apply below_drew1) | exact HB.out)⟩

-- NOT PRINTED: function 7 (laws_FnDouble)

end Go.Proofs.Ytnjbgmobobffmaa.PFnDouble
