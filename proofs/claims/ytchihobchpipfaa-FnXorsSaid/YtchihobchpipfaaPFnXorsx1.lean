-- PRINTED BY print.sh 35421559b90ae4d0a3588c463048766b98c2df88dd9212a6774a882060cdf62d: not written by this session
import Derived.Test.YtchihobchpipfaaPFnXorsx0
namespace Go.Proofs.Ytchihobchpipfaa.PFnXors
open Go.RowKit Go.Proofs.YtchihobchpipfaaW.PrintWords Go.Proofs.YtchihobchpipfaaW.PrintLast Go.Proofs.YtchihobchpipfaaW.PrintMore
attribute [local go_sem] max2_int min2_int max_two min_two max_three min_three max_four min_four   -- for this text's walks alone
set_option linter.unusedVariables false
set_option linter.unusedSimpArgs false

/-! ### laws_brief: function 8 -/
def laws_brief.l0 : Nat → List (List Int) → Int → Option (Bool)
  | 0, _, _ => none
  | k + 1, x0, x3 => if x3 < (x0.length : Int) then (if 0 ≤ x3 then (if ((rd_L1 x0 x3).length : Int) > 4096 then (some false) else (laws_brief.l0 k x0 (wrap64 (x3 + 1)))) else (none)) else (some true)
def laws_brief.f (k : Nat) (l0 : List (List Int)) : Option (Bool) := laws_brief.l0 k l0 0
theorem laws_brief.mono_l : ∀ k, (∀ y0 y1, LeO (laws_brief.l0 k y0 y1) (laws_brief.l0 (k + 1) y0 y1))
  | 0 => fun _ _ r h => by simp [laws_brief.l0] at h
  | k + 1 => by
    have ih0 := laws_brief.mono_l k
    · intro y0 y1
      unfold laws_brief.l0
      repeat' first
      | (with_reducible exact ih0 _ _)
      | (with_reducible exact LeO.refl _)
      | (with_reducible exact LeO.none _)
      | (with_reducible refine LeO.ite ?_ ?_)
      | (with_reducible refine LeO.bind ?_ (fun _ => ?_))
      | exact ih0 _ _
      | exact LeO.none _
      | refine LeO.ite ?_ ?_
      | refine LeO.bind ?_ (fun _ => ?_)
theorem laws_brief.mono : ∀ a0 k, LeO (laws_brief.f k a0) (laws_brief.f (k + 1) a0) := by
  intro a0 k
  have ih0 := laws_brief.mono_l k
  unfold laws_brief.f
  repeat' first
      | (with_reducible exact ih0 _ _)
      | (with_reducible exact LeO.refl _)
      | (with_reducible exact LeO.none _)
      | (with_reducible refine LeO.ite ?_ ?_)
      | (with_reducible refine LeO.bind ?_ (fun _ => ?_))
      | exact ih0 _ _
      | exact LeO.none _
      | refine LeO.ite ?_ ?_
      | refine LeO.bind ?_ (fun _ => ?_)
set_option maxHeartbeats 8000000 in
set_option maxRecDepth 100000 in
theorem laws_brief.calls (k : Nat) (A0 : Option Addr) (c0 : Nat) (l0 : List (List Int)) (r : Bool) (w : World) (hr0 : Kd.C (Kd.slice 5 (Kd.int .u8)) w A0 l0.length l0) (hc0 : l0.length ≤ c0) (h : laws_brief.f k l0 = some r) :
    Calls Try.prog 8 #[.slice A0 l0.length c0] w fun e w' => e = .returned (.bool r) ∧ Drawn0 w w' := by
  have HR0 := Aside0.mk hr0
  have HC0 := Aside0.mk hc0
  clear hr0 hc0
  have H : (laws_brief.l0 k l0 0) = some r := h
  clear h
  have H' := Aside0.mk H
  clear H
  go_enter Try.func8, Try.ntmps8
  go_wp2
  go_loopg [3] k (fun kq v3 w' => ∃ (x3_1 : Int), v3 = .int .i64 x3_1 ∧ Aside0 (laws_brief.l0 kq l0 x3_1 = some r) ∧ Aside0 (kq ≤ k) ∧ Drawn0 w w')
  case atStart => exact ⟨(0), (by first | rfl | (simp; done) | (simp [*]; done)), H', ⟨Nat.le_refl _⟩, by repeat (first | exact Drawn0.refl _ | apply Drawn0.step)⟩
  case round =>
    clear H'
    obtain ⟨x3_1, rfl, HA, HK1, ⟨m1, rfl⟩⟩ := hrel
    cases gk with
    | zero => exact absurd HA.out (by simp [laws_brief.l0])
    | succ k1 =>
      have H := HA.out
      clear HA
      simp only [laws_brief.l0] at H
      by_cases c2 : x3_1 < (l0.length : Int)
      · rw [if_pos c2] at H
        have c2b0 : decide (x3_1 < (l0.length : Int)) = true := decide_eq_true c2
        clear c2
        by_cases c3 : 0 ≤ x3_1
        · rw [if_pos c3] at H
          have c3b0 : decide (0 ≤ x3_1) = true := decide_eq_true c3
          clear c3
          by_cases c4 : ((rd_L1 l0 x3_1).length : Int) > 4096
          · rw [if_pos c4] at H
            have c4b0 : decide (4096 < ((rd_L1 l0 x3_1).length : Int)) = true := decide_eq_true c4
            have c4b1 : decide (4096 < (rd_L1 l0 x3_1).length) = true := decide_eq_true (by omega)
            clear c4
            obtain rfl := Option.some.inj H
            have p101 : 0 ≤ (x3_1 : Int) := of_decide_eq_true (by first | (with_reducible assumption) | assumption)
            have q101 : x3_1 < (l0.length : Int) := of_decide_eq_true (by first | (with_reducible assumption) | assumption)
            obtain ⟨ad101, A101_0, c101_0, e101, hx101_0, hl101_0, hi101_0⟩ := at_L1 HR0.out x3_1 p101 q101
            cases e101
            have HR101_0 := Aside0.mk hi101_0
            have HC101_0 := Aside0.mk hl101_0
            clear hi101_0 hl101_0
            replace p101 := eq_true p101
            replace q101 := eq_true q101
            go_wp2
            go_ret
            exact ⟨by first | rfl | (simp; done) | (simp [*]; done), by repeat (first | exact Drawn0.refl _ | apply Drawn0.step)⟩
          · rw [if_neg c4] at H
            have c4b0 : decide (4096 < ((rd_L1 l0 x3_1).length : Int)) = false := decide_eq_false c4
            have c4b1 : decide (4096 < (rd_L1 l0 x3_1).length) = false := decide_eq_false (by omega)
            clear c4
            have H' := Aside0.mk H
            clear H
            have p101 : 0 ≤ (x3_1 : Int) := of_decide_eq_true (by first | (with_reducible assumption) | assumption)
            have q101 : x3_1 < (l0.length : Int) := of_decide_eq_true (by first | (with_reducible assumption) | assumption)
            obtain ⟨ad101, A101_0, c101_0, e101, hx101_0, hl101_0, hi101_0⟩ := at_L1 HR0.out x3_1 p101 q101
            cases e101
            have HR101_0 := Aside0.mk hi101_0
            have HC101_0 := Aside0.mk hl101_0
            clear hi101_0 hl101_0
            replace p101 := eq_true p101
            replace q101 := eq_true q101
            go_wp2
            go_roundg k1
            case measure => have := HK1.out; omega
            case rel => exact ⟨(wrap64 (x3_1 + 1)), (by first | rfl | (simp; done) | (simp [*]; done)), H', ⟨by have := HK1.out; omega⟩, by repeat (first | exact Drawn0.refl _ | apply Drawn0.step)⟩
        · rw [if_neg c3] at H
          exact absurd H (by simp)
      · rw [if_neg c2] at H
        have c2b0 : decide (x3_1 < (l0.length : Int)) = false := decide_eq_false c2
        clear c2
        obtain rfl := Option.some.inj H
        go_wp2
        go_ret
        exact ⟨by first | rfl | (simp; done) | (simp [*]; done), by repeat (first | exact Drawn0.refl _ | apply Drawn0.step)⟩

-- NOT PRINTED: function 25 (byteutil_RightXor)

-- NOT PRINTED: function 9 (impl_RightXor)

/-! ### byteutil_XorBytes: function 26 -/
def byteutil_XorBytes.l0 : Nat → List Int → List Int → List Int → Int → Option (List Int)
  | 0, _, _, _, _ => none
  | k + 1, x0, x1, x2, x6 => if x6 < (x2.length : Int) then (if 0 ≤ x6 then (if x6 < (x1.length : Int) then (if x6 < (x0.length : Int) then (byteutil_XorBytes.l0 k (x0.set (x6 : Int).toNat (Go.bits .xor .u8 (rd x1 x6) (rd x2 x6))) x1 x2 (wrap64 (x6 + 1))) else (none)) else (none)) else (none)) else (some x0)
def byteutil_XorBytes.f (k : Nat) (l0 : List Int) (l1 : List Int) (l2 : List Int) : Option (List Int) := byteutil_XorBytes.l0 k l0 l1 l2 0
theorem byteutil_XorBytes.mono_l : ∀ k, (∀ y0 y1 y2 y3, LeO (byteutil_XorBytes.l0 k y0 y1 y2 y3) (byteutil_XorBytes.l0 (k + 1) y0 y1 y2 y3))
  | 0 => fun _ _ _ _ r h => by simp [byteutil_XorBytes.l0] at h
  | k + 1 => by
    have ih0 := byteutil_XorBytes.mono_l k
    · intro y0 y1 y2 y3
      unfold byteutil_XorBytes.l0
      repeat' first
      | (with_reducible exact ih0 _ _ _ _)
      | (with_reducible exact LeO.refl _)
      | (with_reducible exact LeO.none _)
      | (with_reducible refine LeO.ite ?_ ?_)
      | (with_reducible refine LeO.bind ?_ (fun _ => ?_))
      | exact ih0 _ _ _ _
      | exact LeO.none _
      | refine LeO.ite ?_ ?_
      | refine LeO.bind ?_ (fun _ => ?_)
theorem byteutil_XorBytes.mono : ∀ a0 a1 a2 k, LeO (byteutil_XorBytes.f k a0 a1 a2) (byteutil_XorBytes.f (k + 1) a0 a1 a2) := by
  intro a0 a1 a2 k
  have ih0 := byteutil_XorBytes.mono_l k
  unfold byteutil_XorBytes.f
  repeat' first
      | (with_reducible exact ih0 _ _ _ _)
      | (with_reducible exact LeO.refl _)
      | (with_reducible exact LeO.none _)
      | (with_reducible refine LeO.ite ?_ ?_)
      | (with_reducible refine LeO.bind ?_ (fun _ => ?_))
      | exact ih0 _ _ _ _
      | exact LeO.none _
      | refine LeO.ite ?_ ?_
      | refine LeO.bind ?_ (fun _ => ?_)
def byteutil_XorBytes.T3 : Bool × List (List Nat × List Nat) := (true, [([], []), ([], []), ([], []), ([], []), ([2, 3], [2, 3]), ([4], [4]), ([], []), ([], []), ([6, 7], [6, 7]), ([8], [8]), ([5, 9], [5, 9]), ([0, 1, 0, 1, 2, 3, 4, 5, 6, 7, 8, 9, 10], [0, 1]), ([11, 10, 0, 1, 2, 3, 4, 5, 6, 7, 8, 9, 10], [10, 11])])
def byteutil_XorBytes.B3 : List Nat := [0, 0, 0, 0, 12, 28, 0, 0, 192, 448, 1020, 2047, 4095]
theorem byteutil_XorBytes.tab3 : rtab .any (opsOf Try.f26 3) = byteutil_XorBytes.T3 := by kernel_rfl
theorem byteutil_XorBytes.bits3 : waitsOk byteutil_XorBytes.T3.2 byteutil_XorBytes.B3 = true := by kernel_rfl
set_option maxHeartbeats 8000000 in
set_option maxRecDepth 100000 in
theorem byteutil_XorBytes.calls (k : Nat) (P0_ : Nat → Prop) (u9000_ : Value) (l0 : List Int) (A1 : Option Addr) (c1 : Nat) (l1 : List Int) (A2 : Option Addr) (c2 : Nat) (l2 : List Int) (r : List Int) (w0 w : World) (hB : Below w0.heap.size w0 w) (ho0 : Kd.R (Kd.int .u8) 5 w w0.heap.size P0_ u9000_ l0) (hr1 : ∀ W_, Kept w W_ (fun k_ => P0_ k_) → Kd.C (Kd.int .u8) W_ A1 l1.length l1) (hc1 : l1.length ≤ c1) (hr2 : ∀ W_, Kept w W_ (fun k_ => P0_ k_) → Kd.C (Kd.int .u8) W_ A2 l2.length l2) (hc2 : l2.length ≤ c2) (h : byteutil_XorBytes.f k l0 l1 l2 = some r) :
    Calls Try.prog 26 #[u9000_, .slice A1 l1.length c1, .slice A2 l2.length c2] w fun e w' => e = .returned (.tuple #[]) ∧ Kd.R (Kd.int .u8) 5 w' w0.heap.size (fun k_ => (P0_ k_ ∨ w.heap.size ≤ k_)) u9000_ r ∧ Below w0.heap.size w0 w' ∧ Kept w w' (fun k_ => P0_ k_) := by
  have HO0 := Aside0.mk (show Kd.R (Kd.int .u8) 5 w w0.heap.size (fun k_ => (P0_ k_ ∨ w.heap.size ≤ k_)) u9000_ l0 from Kd.R_mono ho0 (fun k_ hk => (.inl hk)))
  have HR1 := Aside0.mk hr1
  have HC1 := Aside0.mk hc1
  clear hr1 hc1
  have HR2 := Aside0.mk hr2
  have HC2 := Aside0.mk hc2
  clear hr2 hc2
  have HK := Aside0.mk (Kept.refl w (fun k_ => P0_ k_))
  have HW0 := Aside0.mk hB.size
  have HB := Aside0.mk hB
  clear hB
  have H : (byteutil_XorBytes.l0 k l0 l1 l2 0) = some r := h
  clear h
  have H' := Aside0.mk H
  clear H
  go_enter Try.func26, Try.ntmps26
  go_wp2
  go_loopg [6] k (fun kq v6 w' => ∃ (x0_1 : List Int) (x6_1 : Int), v6 = .int .i64 x6_1 ∧ Aside0 (byteutil_XorBytes.l0 kq x0_1 l1 l2 x6_1 = some r) ∧ Aside0 (kq ≤ k) ∧ Aside0 (Kd.R (Kd.int .u8) 5 w' w0.heap.size (fun k_ => (P0_ k_ ∨ w.heap.size ≤ k_)) u9000_ x0_1) ∧ Aside0 (Kept w w' (fun k_ => P0_ k_)) ∧ Aside0 (Below w0.heap.size w0 w'))
  case atStart => exact ⟨(l0), (0), (by first | rfl | (simp; done) | (simp [*]; done)), H', ⟨Nat.le_refl _⟩, ⟨by (with_reducible repeat (first | apply Kd.R_alloc | apply Kd.R_drewN | apply Kd.R_drew)); exact HO0.out⟩, ⟨by repeat (first | (with_reducible first | exact HK.out | apply Kept.alloc | apply Kept.drewN | apply Kept.drew) | exact HK.out)⟩, ⟨by repeat (first | (with_reducible first | exact HB.out | apply below_alloc | apply pw_below_drewN | apply below_drew1) | exact HB.out)⟩⟩
  case round =>
    clear H'
    try clear c1
    try clear c2
    try clear p2
    obtain ⟨x0_1, x6_1, rfl, HA, HK1, HO_0, HK, HB⟩ := hrel
    cases gk with
    | zero => exact absurd HA.out (by simp [byteutil_XorBytes.l0])
    | succ k1 =>
      have H := HA.out
      clear HA
      simp only [byteutil_XorBytes.l0] at H
      by_cases c4 : x6_1 < (l2.length : Int)
      · rw [if_pos c4] at H
        have c4b0 : decide (x6_1 < (l2.length : Int)) = true := decide_eq_true c4
        clear c4
        by_cases c5 : 0 ≤ x6_1
        · rw [if_pos c5] at H
          have c5b0 : decide (0 ≤ x6_1) = true := decide_eq_true c5
          clear c5
          by_cases c6 : x6_1 < (l1.length : Int)
          · rw [if_pos c6] at H
            have c6b0 : decide (x6_1 < (l1.length : Int)) = true := decide_eq_true c6
            clear c6
            by_cases c7 : x6_1 < (x0_1.length : Int)
            · rw [if_pos c7] at H
              have c7b0 : decide (x6_1 < (x0_1.length : Int)) = true := decide_eq_true c7
              clear c7
              obtain ⟨y107, hy107⟩ : ∃ y_ : List Int, y_ = (x0_1.set (x6_1 : Int).toNat (Go.bits .xor .u8 (rd l1 x6_1) (rd l2 x6_1))) := ⟨_, rfl⟩
              replace H : (byteutil_XorBytes.l0 k1 y107 l1 l2 (wrap64 (x6_1 + 1))) = some r := by first | (rw [hy107]; with_reducible exact H) | (have H2_ := (Option.bind_some _ _).symm.trans H; rw [hy107]; with_reducible exact H2_) | (have H2_ := (Option.bind_some _ _).symm.trans H; with_reducible exact H2_) | with_reducible exact H | (rw [hy107]; exact H) | exact H
              have Ny107 := Aside0.mk hy107
              clear hy107
              have H' := Aside0.mk H
              clear H
              try go_wp2
              have n0_ := Aside0.mk (Kd.R_drew HO_0.out)
              have n1_ := Aside0.mk (Kept.drew HK.out)
              have n2_ := Aside0.mk (below_drew1 HB.out)
              clear HO_0
              clear HK
              clear HB
              have HO_0 := n0_
              have HK := n1_
              have HB := n2_
              clear n0_ n1_ n2_
              have p105 : 0 ≤ (x6_1 : Int) := of_decide_eq_true (by first | (with_reducible assumption) | assumption)
              have q105 : x6_1 < (l1.length : Int) := of_decide_eq_true (by first | (with_reducible assumption) | assumption)
              obtain ⟨ad105, e105, hx105_0⟩ := Kd.at_int (Kd.C_kept_now HR1.out HK.out) x6_1 p105 q105
              have hw105_0 := hx105_0
              cases e105
              replace p105 := eq_true p105
              replace q105 := eq_true q105
              have p106 : 0 ≤ (x6_1 : Int) := of_decide_eq_true (by first | (with_reducible assumption) | assumption)
              have q106 : x6_1 < (l2.length : Int) := of_decide_eq_true (by first | (with_reducible assumption) | assumption)
              obtain ⟨ad106, e106, hx106_0⟩ := Kd.at_int (Kd.C_kept_now HR2.out HK.out) x6_1 p106 q106
              have hw106_0 := hx106_0
              cases e106
              replace p106 := eq_true p106
              replace q106 := eq_true q106
              have p8 : 0 ≤ (x6_1 : Int) := of_decide_eq_true (by first | (with_reducible assumption) | assumption)
              have q8 : (x6_1 : Int) < ((x0_1.length : Int) : Int) := of_decide_eq_true (by first | (with_reducible assumption) | assumption)
              obtain ⟨go8, co8, eo8, gb8, gl8, cl8, HG8⟩ := Kd.R_form HO_0.out (by omega)
              (first | cases eo8 | (injection eo8 with ea_ en_ ec_; (first | subst ea_ | (injection ea_ with ea_; subst ea_)); subst ec_; clear en_))
              have GB8 := Aside0.mk gb8
              have GG8 := Aside0.mk HG8
              clear gb8 gl8 HG8
              have HMgo8 := Aside0.mk (show (P0_ go8 ∨ w.heap.size ≤ go8) from (HO_0.out.1 _ rfl))
              obtain ⟨hx8_0, hf8_0⟩ := Kd.R_celln 0 HO_0.out (x6_1 : Int) p8 q8
              replace p8 := eq_true p8
              replace q8 := eq_true q8
              have HP10 := Kd.R_putn HO_0.out (x6_1 : Int) (Go.bits .xor .u8 (rd l1 x6_1) (rd l2 x6_1))
              rw [← Ny107.out] at HP10
              have HQ10 := Aside0.mk HP10
              clear HP10
              refine start_ (n := 13) (S := fun w' => w'.cell? (ad105.add (x6_1).toNat) = some (.int .u8 (rd l1 x6_1)) ∧ w'.cell? (ad106.add (x6_1).toNat) = some (.int .u8 (rd l2 x6_1))) (ds := [12]) #[false, false, false, false, false, false, false, false, false, false, false, false, false] (by kernel_rfl) rfl rfl ⟨(Kd.foot_int (HR1.out _ (by repeat (first | exact HK.out | apply Kept.alloc | apply Kept.drewN | apply Kept.drew | refine Kept.setCell ?_ HMgo8.out _))) x6_1 (of_eq_true p105) (of_eq_true q105)), (Kd.foot_int (HR2.out _ (by repeat (first | exact HK.out | apply Kept.alloc | apply Kept.drewN | apply Kept.drew | refine Kept.setCell ?_ HMgo8.out _))) x6_1 (of_eq_true p106) (of_eq_true q106))⟩ (fun hHeld => ?_); refine with_tabW byteutil_XorBytes.tab3 byteutil_XorBytes.bits3 (fun HT_ HW_ => ?_)
              generalize wr.drew = w9 at HO_0 HK HB GG8 HQ10 hf8_0 hx105_0 hx106_0 hx8_0 hHeld ⊢
              refine pure_ (i := 0) (N := some 13) (v := ?_) (a' := ?_) #[true, false, false, false, false, false, false, false, false, false, false, false, false] rfl rfl (any_of HT_.out (by kernel_rfl)) (fun _ _ _ h => h) (Or.inl ⟨by rfl, ?_⟩) ?_ ?_
              rotate_left
              · intro w'
                go_simp
                with_reducible rfl
              rotate_left
              · simp only [Act.put, List.setIfInBounds_toArray, List.set_cons_zero, List.set_cons_succ, i64_w, i32_w]
                rfl
              refine pure_ (i := 1) (N := some 14) (v := ?_) (a' := ?_) #[true, true, false, false, false, false, false, false, false, false, false, false, false] rfl rfl (any_of HT_.out (by kernel_rfl)) (fun _ _ _ h => h) (Or.inl ⟨by rfl, ?_⟩) ?_ ?_
              rotate_left
              · intro w'
                go_simp
                with_reducible rfl
              rotate_left
              · simp only [Act.put, List.setIfInBounds_toArray, List.set_cons_zero, List.set_cons_succ, i64_w, i32_w]
                rfl
              refine pure_ (i := 2) (N := some 15) (v := ?_) (a' := ?_) #[true, true, true, false, false, false, false, false, false, false, false, false, false] rfl rfl (any_of HT_.out (by kernel_rfl)) (fun _ _ _ h => h) (Or.inl ⟨by rfl, ?_⟩) ?_ ?_
              rotate_left
              · intro w'
                go_simp
                with_reducible rfl
              rotate_left
              · simp only [Act.put, List.setIfInBounds_toArray, List.set_cons_zero, List.set_cons_succ, i64_w, i32_w]
                rfl
              refine pure_ (i := 3) (N := some 16) (v := ?_) (a' := ?_) #[true, true, true, true, false, false, false, false, false, false, false, false, false] rfl rfl (any_of HT_.out (by kernel_rfl)) (fun _ _ _ h => h) (Or.inl ⟨by rfl, ?_⟩) ?_ ?_
              rotate_left
              · intro w'
                go_simp
                with_reducible rfl
              rotate_left
              · simp only [Act.put, List.setIfInBounds_toArray, List.set_cons_zero, List.set_cons_succ, i64_w, i32_w]
                rfl
              refine pure_ (i := 4) (N := some 17) (v := ?_) (a' := ?_) #[true, true, true, true, true, false, false, false, false, false, false, false, false] rfl rfl (any_of HT_.out (by kernel_rfl)) (fun _ _ _ h => h) (Or.inl ⟨by rfl, ?_⟩) ?_ ?_
              rotate_left
              · intro w'
                go_simp
                with_reducible rfl
              rotate_left
              · simp only [Act.put, List.setIfInBounds_toArray, List.set_cons_zero, List.set_cons_succ, i64_w, i32_w]
                rfl
              refine pure_ (i := 6) (N := some 19) (v := ?_) (a' := ?_) #[true, true, true, true, true, false, true, false, false, false, false, false, false] rfl rfl (any_of HT_.out (by kernel_rfl)) (fun _ _ _ h => h) (Or.inl ⟨by rfl, ?_⟩) ?_ ?_
              rotate_left
              · intro w'
                go_simp
                with_reducible rfl
              rotate_left
              · simp only [Act.put, List.setIfInBounds_toArray, List.set_cons_zero, List.set_cons_succ, i64_w, i32_w]
                rfl
              refine pure_ (i := 7) (N := some 20) (v := ?_) (a' := ?_) #[true, true, true, true, true, false, true, true, false, false, false, false, false] rfl rfl (any_of HT_.out (by kernel_rfl)) (fun _ _ _ h => h) (Or.inl ⟨by rfl, ?_⟩) ?_ ?_
              rotate_left
              · intro w'
                go_simp
                with_reducible rfl
              rotate_left
              · simp only [Act.put, List.setIfInBounds_toArray, List.set_cons_zero, List.set_cons_succ, i64_w, i32_w]
                rfl
              refine pure_ (i := 8) (N := some 21) (v := ?_) (a' := ?_) #[true, true, true, true, true, false, true, true, true, false, false, false, false] rfl rfl (any_of HT_.out (by kernel_rfl)) (fun _ _ _ h => h) (Or.inl ⟨by rfl, ?_⟩) ?_ ?_
              rotate_left
              · intro w'
                go_simp
                with_reducible rfl
              rotate_left
              · simp only [Act.put, List.setIfInBounds_toArray, List.set_cons_zero, List.set_cons_succ, i64_w, i32_w]
                rfl
              refine take_ (i := 5) (N := some 18) (v := ?_) (a' := ?_) #[true, true, true, true, true, true, true, true, true, false, false, false, false] rfl rfl (take_ofW HT_.out HW_.out (by kernel_rfl)) (fun _ _ _ h => h) (Or.inl ⟨by rfl, ?_⟩) hHeld ?_ ?_
              rotate_left
              · rintro w' ⟨s0, s1⟩
                go_simp
                with_reducible rfl
              rotate_left
              · simp only [Act.put, List.setIfInBounds_toArray, List.set_cons_zero, List.set_cons_succ, i64_w, i32_w]
                rfl
              refine take_ (i := 9) (N := some 22) (v := ?_) (a' := ?_) #[true, true, true, true, true, true, true, true, true, true, false, false, false] rfl rfl (take_ofW HT_.out HW_.out (by kernel_rfl)) (fun _ _ _ h => h) (Or.inl ⟨by rfl, ?_⟩) hHeld ?_ ?_
              rotate_left
              · rintro w' ⟨s0, s1⟩
                go_simp
                with_reducible rfl
              rotate_left
              · simp only [Act.put, List.setIfInBounds_toArray, List.set_cons_zero, List.set_cons_succ, i64_w, i32_w]
                rfl
              refine pure_ (i := 10) (N := some 23) (v := ?_) (a' := ?_) #[true, true, true, true, true, true, true, true, true, true, true, false, false] rfl rfl (any_of HT_.out (by kernel_rfl)) (fun _ _ _ h => h) (Or.inl ⟨by rfl, ?_⟩) ?_ ?_
              rotate_left
              · intro w'
                go_simp
                with_reducible rfl
              rotate_left
              · simp only [Act.put, List.setIfInBounds_toArray, List.set_cons_zero, List.set_cons_succ, i64_w, i32_w]
                rfl
              refine pure_ (i := 11) (N := some 24) (v := ?_) (a' := ?_) #[true, true, true, true, true, true, true, true, true, true, true, true, false] rfl rfl (any_of HT_.out (by kernel_rfl)) (fun _ _ _ h => h) (Or.inl ⟨by rfl, ?_⟩) ?_ ?_
              rotate_left
              · intro w'
                go_simp
                with_reducible rfl
              rotate_left
              · simp only [Act.put, List.setIfInBounds_toArray, List.set_cons_zero, List.set_cons_succ, i64_w, i32_w]
                rfl
              refine last_ (i := 12) (N := none) #[true, true, true, true, true, true, true, true, true, true, true, true, true] rfl rfl (one_of HT_.out (by kernel_rfl)) (by decide) (fun K hK => ?_)
              refine skip_ (w1 := ?_) (by rfl) rfl ?_ ?_
              rotate_left
              · go_simp
                rfl
              refine hK.out _ _ ?_
              clear hK K
              refine done_ (done_of HT_.out (by kernel_rfl)) ?_
              try go_wp2
              go_roundg k1
              case measure => have := HK1.out; omega
              case rel => exact ⟨(y107), (wrap64 (x6_1 + 1)), (by first | rfl | (simp; done) | (simp [*]; done)), H', ⟨by have := HK1.out; omega⟩, ⟨by (with_reducible repeat (first | apply Kd.R_alloc | apply Kd.R_drewN | apply Kd.R_drew)); exact HQ10.out⟩, ⟨by repeat (first | (with_reducible first | exact HK.out | apply Kept.alloc | apply Kept.drewN | apply Kept.drew | refine Kept.setCell ?_ HMgo8.out _) | exact HK.out)⟩, ⟨by repeat (first | (with_reducible first | exact HB.out | apply below_alloc | apply pw_below_drewN | apply below_drew1 | refine below_set ?_ GB8.out) | exact HB.out)⟩⟩
            · rw [if_neg c7] at H
              exact absurd H (by simp)
          · rw [if_neg c6] at H
            exact absurd H (by simp)
        · rw [if_neg c5] at H
          exact absurd H (by simp)
      · rw [if_neg c4] at H
        have c4b0 : decide (x6_1 < (l2.length : Int)) = false := decide_eq_false c4
        clear c4
        obtain rfl := Option.some.inj H
        go_wp2
        first | go_end0 | ((try simp only [Exit.inBlock, Exit.then]); refine bodyPost_ret (results_none rfl _ _ _) rfl ?_)
        exact ⟨by first | rfl | (simp [errW_none, errW_some] <;> rfl) | (simp [*, errW_none, errW_some] <;> rfl), by (with_reducible repeat (first | apply Kd.R_alloc | apply Kd.R_drewN | apply Kd.R_drew)); exact HO_0.out, by repeat (first | (with_reducible first | exact HB.out | apply below_alloc | apply pw_below_drewN | apply below_drew1) | exact HB.out), by repeat (first | (with_reducible first | exact HK.out | apply Kept.alloc | apply Kept.drewN | apply Kept.drew) | exact HK.out)⟩

/-! ### impl_Xor: function 10 -/
def impl_Xor.f (k : Nat) (l0 : List Int) (l1 : List Int) : Option (List Int × Bool) := if (l0.length : Int) < (l1.length : Int) then (some (([] : List Int), false)) else (if 0 ≤ (l0.length : Int) then (if ((l0.length : Int) : Int).toNat ≤ 281474976710656 then ((byteutil_XorBytes.f k (List.replicate ((l0.length : Int) : Int).toNat 0) l0 l1).bind fun t111 => (some (t111, true))) else (none)) else (none))
theorem impl_Xor.mono : ∀ a0 a1 k, LeO (impl_Xor.f k a0 a1) (impl_Xor.f (k + 1) a0 a1) := by
  intro a0 a1 k
  unfold impl_Xor.f
  repeat' first
      | (with_reducible exact byteutil_XorBytes.mono _ _ _ _)
      | (with_reducible exact LeO.refl _)
      | (with_reducible exact LeO.none _)
      | (with_reducible refine LeO.ite ?_ ?_)
      | (with_reducible refine LeO.bind ?_ (fun _ => ?_))
      | exact byteutil_XorBytes.mono _ _ _ _
      | exact LeO.none _
      | refine LeO.ite ?_ ?_
      | refine LeO.bind ?_ (fun _ => ?_)
set_option maxHeartbeats 8000000 in
set_option maxRecDepth 100000 in
theorem impl_Xor.calls (k : Nat) (A0 : Option Addr) (c0 : Nat) (l0 : List Int) (A1 : Option Addr) (c1 : Nat) (l1 : List Int) (r1 : List Int) (r2 : Bool) (w : World) (hr0 : Kd.C (Kd.int .u8) w A0 l0.length l0) (hc0 : l0.length ≤ c0) (hr1 : Kd.C (Kd.int .u8) w A1 l1.length l1) (hc1 : l1.length ≤ c1) (h : impl_Xor.f k l0 l1 = some (r1, r2)) :
    Calls Try.prog 10 #[.slice A0 l0.length c0, .slice A1 l1.length c1] w fun e w' => ∃ v0_ : Value, e = .returned (.tuple #[v0_, .bool r2]) ∧ Kd.R (Kd.int .u8) 5 w' w.heap.size (fun _ => True) v0_ r1 ∧ Below w.heap.size w w' := by
  have HR0 := Aside0.mk hr0
  have HC0 := Aside0.mk hc0
  clear hr0 hc0
  have HR1 := Aside0.mk hr1
  have HC1 := Aside0.mk hc1
  clear hr1 hc1
  have HB := Aside0.mk (Below.refl w.heap.size w)
  have H : (if (l0.length : Int) < (l1.length : Int) then (some (([] : List Int), false)) else (if 0 ≤ (l0.length : Int) then (if ((l0.length : Int) : Int).toNat ≤ 281474976710656 then ((byteutil_XorBytes.f k (List.replicate ((l0.length : Int) : Int).toNat 0) l0 l1).bind fun t111 => (some (t111, true))) else (none)) else (none))) = some (r1, r2) := h
  clear h
  by_cases c3 : (l0.length : Int) < (l1.length : Int)
  · rw [if_pos c3] at H
    have c3b0 : decide ((l0.length : Int) < (l1.length : Int)) = true := decide_eq_true c3
    have c3b1 : decide (l0.length < l1.length) = true := decide_eq_true (Int.ofNat_lt.mp c3)
    clear c3
    simp only [Option.some.injEq, Prod.mk.injEq] at H
    obtain ⟨rfl, rfl⟩ := H
    go_enter Try.func10, Try.ntmps10
    go_wp2
    go_ret2
    exact ⟨_, by first | rfl | (simp [errW_none, errW_some] <;> rfl) | (simp [*, errW_none, errW_some] <;> rfl), by first | exact Kd.R_nil _ _ _ _ _ | exact Kd.N_nil _ _ _ _ _ | exact Kd.V_nil _ _ _ _ _ | exact Kd.Q_nil _ _ _ _ _ | exact Kd.S_nil _ _ _ _ _, by repeat (first | (with_reducible first | exact HB.out | apply below_alloc | apply pw_below_drewN | apply below_drew1) | exact HB.out)⟩
  · rw [if_neg c3] at H
    have c3b0 : decide ((l0.length : Int) < (l1.length : Int)) = false := decide_eq_false c3
    have c3b1 : decide (l0.length < l1.length) = false := decide_eq_false (fun h => c3 (Int.ofNat_lt.mpr h))
    clear c3
    by_cases c4 : 0 ≤ (l0.length : Int)
    · rw [if_pos c4] at H
      have c4b0 := eq_true c4
      have c4b1 : decide (0 ≤ (l0.length : Int)) = true := decide_eq_true c4
      clear c4
      by_cases c5 : ((l0.length : Int) : Int).toNat ≤ 281474976710656
      · rw [if_pos c5] at H
        have c5b0 := eq_true c5
        have c5b1 : decide (((l0.length : Int) : Int).toNat ≤ 281474976710656) = true := decide_eq_true c5
        clear c5
        obtain ⟨y108, hy108⟩ : ∃ y_ : List Int, y_ = (List.replicate ((l0.length : Int) : Int).toNat 0) := ⟨_, rfl⟩
        replace H : ((byteutil_XorBytes.f k y108 l0 l1).bind fun t111 => (some (t111, true))) = some (r1, r2) := by first | (rw [hy108]; with_reducible exact H) | (have H2_ := (Option.bind_some _ _).symm.trans H; rw [hy108]; with_reducible exact H2_) | (have H2_ := (Option.bind_some _ _).symm.trans H; with_reducible exact H2_) | with_reducible exact H | (rw [hy108]; exact H) | exact H
        have Ny108 := Aside0.mk hy108
        clear hy108
        replace H := Option.bind_eq_some_iff.mp H
        obtain ⟨t111, A60, H⟩ := H
        replace H : (some (t111, true)) = some (r1, r2) := H
        have A6 := Aside0.mk A60
        clear A60
        simp only [Option.some.injEq, Prod.mk.injEq] at H
        obtain ⟨rfl, rfl⟩ := H
        go_enter Try.func10, Try.ntmps10
        go_wp2_with (first | ((with_reducible refine gate_dst (N := 14) rfl ?_); refine Kd.R_make (Kd.int .u8) _ 5 rfl (N := 14) rfl 22 _ _ rfl (l0.length : Int) rfl rfl Try.underlying22 (.int .u8 0) 1 info5 rfl (by decide) (by omega) 0 (ok := fun _ => True) (okp := fun _ => True) rfl (fun _ hk => hk) trivial (of_decide_eq_true (by first | (with_reducible assumption) | assumption)) (Nat.le_trans (Nat.mul_le_mul_right _ (of_decide_eq_true (by first | (with_reducible assumption) | assumption) : (l0.length : Int).toNat ≤ 281474976710656)) (by omega)) (Below.refl _ _) (Nat.le_refl _) ?_; intro v109 w7 ho8 hb hg_ hnew_; clear hg_ hnew_; (first | rw [← Ny108.out] at ho8 | (simp only [Int.reduceToNat] at ho8; rw [← Ny108.out] at ho8)); have n0_ := Aside0.mk (Kd.R_lower ho8 (below_size (by repeat (first | (with_reducible first | exact HB.out | apply below_alloc | apply pw_below_drewN | apply below_drew1) | exact HB.out)))); have n1_ := Aside0.mk (below_step (by repeat (first | (with_reducible first | exact HB.out | apply below_alloc | apply pw_below_drewN | apply below_drew1) | exact HB.out)) hb); clear HB; have HO110 := n0_; have HB := n1_; clear n0_ n1_; clear hb ho8; obtain ⟨Ao9, co9, eo9⟩ := Kd.R_slice HO110.out; subst eo9) | ((with_reducible refine gate_callee (f := 26) rfl ?_); refine goesL_ (some 18) rfl rfl Try.func26 (by kernel_rfl) rfl #[.slice Ao9 y108.length co9, .slice A0 l0.length c0, .slice A1 l1.length c1] rfl (by (try simp only [List.map_toArray, List.map_cons, List.map_nil]); first | done | rfl | (simp only [List.length_drop, List.length_take]; rfl)) ?_; (with_reducible refine (byteutil_XorBytes.calls k (fun k_ => some k_ = (.slice Ao9 y108.length co9 : Value).ownBlock) (.slice Ao9 y108.length co9) y108 _ _ l0 _ _ l1 t111 w _ ?side1 ?side2 ?side3 ?side4 ?side5 ?side6 A6.out).mono ?_); (case side1 => repeat (first | (with_reducible first | exact HB.out | apply below_alloc | apply pw_below_drewN | apply below_drew1) | exact HB.out)); (case side2 => exact Kd.R_tight rfl HO110.out); (case side3 => exact Kd.C_kept_came (Kd.heap_int .u8) HR0.out (by repeat (first | (with_reducible first | exact HB.out | apply below_alloc | apply pw_below_drewN | apply below_drew1) | exact HB.out)) (fun k_ hs_ => (fun e_ => Kd.R_base HO110.out k_ e_.symm) hs_)); (case side4 => exact HC0.out); (case side5 => exact Kd.C_kept_came (Kd.heap_int .u8) HR1.out (by repeat (first | (with_reducible first | exact HB.out | apply below_alloc | apply pw_below_drewN | apply below_drew1) | exact HB.out)) (fun k_ hs_ => (fun e_ => Kd.R_base HO110.out k_ e_.symm) hs_)); (case side6 => exact HC1.out); rintro e w10 ⟨rfl, hy0, hb, hkp⟩; refine ⟨_, rfl, ?_⟩; have n0_ := Aside0.mk (Kd.R_reok rfl hy0 (fun k_ e_ => HO110.out.1 k_ e_)); have n1_ := Aside0.mk (hb); clear HO110; clear HB; have HO110 := n0_; have HB := n1_; clear n0_ n1_; (try clear hb); (try clear hkp); (try clear hy0)))
        go_ret2
        exact ⟨_, by first | rfl | (simp [errW_none, errW_some] <;> rfl) | (simp [*, errW_none, errW_some] <;> rfl), by (with_reducible repeat (first | apply Kd.R_alloc | apply Kd.R_drewN | apply Kd.R_drew)); exact HO110.out, by repeat (first | (with_reducible first | exact HB.out | apply below_alloc | apply pw_below_drewN | apply below_drew1) | exact HB.out)⟩
      · rw [if_neg c5] at H
        exact absurd H (by simp)
    · rw [if_neg c4] at H
      exact absurd H (by simp)

-- NOT PRINTED: function 27 (impl_own)

/-! ### byteutil_XorBytesMut: function 28 -/
def byteutil_XorBytesMut.l0 : Nat → List Int → List Int → Int → Option (List Int)
  | 0, _, _, _ => none
  | k + 1, x0, x1, x4 => if x4 < (x1.length : Int) then (if 0 ≤ x4 then (if x4 < (x0.length : Int) then (byteutil_XorBytesMut.l0 k (x0.set (x4 : Int).toNat (Go.bits .xor .u8 (rd x0 x4) (rd x1 x4))) x1 (wrap64 (x4 + 1))) else (none)) else (none)) else (some x0)
def byteutil_XorBytesMut.f (k : Nat) (l0 : List Int) (l1 : List Int) : Option (List Int) := byteutil_XorBytesMut.l0 k l0 l1 0
theorem byteutil_XorBytesMut.mono_l : ∀ k, (∀ y0 y1 y2, LeO (byteutil_XorBytesMut.l0 k y0 y1 y2) (byteutil_XorBytesMut.l0 (k + 1) y0 y1 y2))
  | 0 => fun _ _ _ r h => by simp [byteutil_XorBytesMut.l0] at h
  | k + 1 => by
    have ih0 := byteutil_XorBytesMut.mono_l k
    · intro y0 y1 y2
      unfold byteutil_XorBytesMut.l0
      repeat' first
      | (with_reducible exact ih0 _ _ _)
      | (with_reducible exact LeO.refl _)
      | (with_reducible exact LeO.none _)
      | (with_reducible refine LeO.ite ?_ ?_)
      | (with_reducible refine LeO.bind ?_ (fun _ => ?_))
      | exact ih0 _ _ _
      | exact LeO.none _
      | refine LeO.ite ?_ ?_
      | refine LeO.bind ?_ (fun _ => ?_)
theorem byteutil_XorBytesMut.mono : ∀ a0 a1 k, LeO (byteutil_XorBytesMut.f k a0 a1) (byteutil_XorBytesMut.f (k + 1) a0 a1) := by
  intro a0 a1 k
  have ih0 := byteutil_XorBytesMut.mono_l k
  unfold byteutil_XorBytesMut.f
  repeat' first
      | (with_reducible exact ih0 _ _ _)
      | (with_reducible exact LeO.refl _)
      | (with_reducible exact LeO.none _)
      | (with_reducible refine LeO.ite ?_ ?_)
      | (with_reducible refine LeO.bind ?_ (fun _ => ?_))
      | exact ih0 _ _ _
      | exact LeO.none _
      | refine LeO.ite ?_ ?_
      | refine LeO.bind ?_ (fun _ => ?_)
def byteutil_XorBytesMut.T3 : Bool × List (List Nat × List Nat) := (true, [([], []), ([], []), ([0, 1], [0, 1]), ([2], [2]), ([], []), ([], []), ([4, 5], [4, 5]), ([6], [6]), ([3, 7], [3, 7]), ([0, 1, 0, 1, 2, 3, 4, 5, 6, 7, 8], [0, 1]), ([9, 8, 0, 1, 2, 3, 4, 5, 6, 7, 8], [8, 9])])
def byteutil_XorBytesMut.B3 : List Nat := [0, 0, 3, 7, 0, 0, 48, 112, 255, 511, 1023]
theorem byteutil_XorBytesMut.tab3 : rtab .any (opsOf Try.f28 3) = byteutil_XorBytesMut.T3 := by kernel_rfl
theorem byteutil_XorBytesMut.bits3 : waitsOk byteutil_XorBytesMut.T3.2 byteutil_XorBytesMut.B3 = true := by kernel_rfl
set_option maxHeartbeats 8000000 in
set_option maxRecDepth 100000 in
theorem byteutil_XorBytesMut.calls (k : Nat) (P0_ : Nat → Prop) (u9000_ : Value) (l0 : List Int) (A1 : Option Addr) (c1 : Nat) (l1 : List Int) (r : List Int) (w0 w : World) (hB : Below w0.heap.size w0 w) (ho0 : Kd.R (Kd.int .u8) 5 w w0.heap.size P0_ u9000_ l0) (hr1 : ∀ W_, Kept w W_ (fun k_ => P0_ k_) → Kd.C (Kd.int .u8) W_ A1 l1.length l1) (hc1 : l1.length ≤ c1) (h : byteutil_XorBytesMut.f k l0 l1 = some r) :
    Calls Try.prog 28 #[u9000_, .slice A1 l1.length c1] w fun e w' => e = .returned (.tuple #[]) ∧ Kd.R (Kd.int .u8) 5 w' w0.heap.size (fun k_ => (P0_ k_ ∨ w.heap.size ≤ k_)) u9000_ r ∧ Below w0.heap.size w0 w' ∧ Kept w w' (fun k_ => P0_ k_) := by
  have HO0 := Aside0.mk (show Kd.R (Kd.int .u8) 5 w w0.heap.size (fun k_ => (P0_ k_ ∨ w.heap.size ≤ k_)) u9000_ l0 from Kd.R_mono ho0 (fun k_ hk => (.inl hk)))
  have HR1 := Aside0.mk hr1
  have HC1 := Aside0.mk hc1
  clear hr1 hc1
  have HK := Aside0.mk (Kept.refl w (fun k_ => P0_ k_))
  have HW0 := Aside0.mk hB.size
  have HB := Aside0.mk hB
  clear hB
  have H : (byteutil_XorBytesMut.l0 k l0 l1 0) = some r := h
  clear h
  have H' := Aside0.mk H
  clear H
  go_enter Try.func28, Try.ntmps28
  go_wp2
  go_loopg [4] k (fun kq v4 w' => ∃ (x0_1 : List Int) (x4_1 : Int), v4 = .int .i64 x4_1 ∧ Aside0 (byteutil_XorBytesMut.l0 kq x0_1 l1 x4_1 = some r) ∧ Aside0 (kq ≤ k) ∧ Aside0 (Kd.R (Kd.int .u8) 5 w' w0.heap.size (fun k_ => (P0_ k_ ∨ w.heap.size ≤ k_)) u9000_ x0_1) ∧ Aside0 (Kept w w' (fun k_ => P0_ k_)) ∧ Aside0 (Below w0.heap.size w0 w'))
  case atStart => exact ⟨(l0), (0), (by first | rfl | (simp; done) | (simp [*]; done)), H', ⟨Nat.le_refl _⟩, ⟨by (with_reducible repeat (first | apply Kd.R_alloc | apply Kd.R_drewN | apply Kd.R_drew)); exact HO0.out⟩, ⟨by repeat (first | (with_reducible first | exact HK.out | apply Kept.alloc | apply Kept.drewN | apply Kept.drew) | exact HK.out)⟩, ⟨by repeat (first | (with_reducible first | exact HB.out | apply below_alloc | apply pw_below_drewN | apply below_drew1) | exact HB.out)⟩⟩
  case round =>
    clear H'
    try clear c1
    try clear c2
    try clear p2
    obtain ⟨x0_1, x4_1, rfl, HA, HK1, HO_0, HK, HB⟩ := hrel
    cases gk with
    | zero => exact absurd HA.out (by simp [byteutil_XorBytesMut.l0])
    | succ k1 =>
      have H := HA.out
      clear HA
      simp only [byteutil_XorBytesMut.l0] at H
      by_cases c3 : x4_1 < (l1.length : Int)
      · rw [if_pos c3] at H
        have c3b0 : decide (x4_1 < (l1.length : Int)) = true := decide_eq_true c3
        clear c3
        by_cases c4 : 0 ≤ x4_1
        · rw [if_pos c4] at H
          have c4b0 : decide (0 ≤ x4_1) = true := decide_eq_true c4
          clear c4
          by_cases c5 : x4_1 < (x0_1.length : Int)
          · rw [if_pos c5] at H
            have c5b0 : decide (x4_1 < (x0_1.length : Int)) = true := decide_eq_true c5
            clear c5
            obtain ⟨y114, hy114⟩ : ∃ y_ : List Int, y_ = (x0_1.set (x4_1 : Int).toNat (Go.bits .xor .u8 (rd x0_1 x4_1) (rd l1 x4_1))) := ⟨_, rfl⟩
            replace H : (byteutil_XorBytesMut.l0 k1 y114 l1 (wrap64 (x4_1 + 1))) = some r := by first | (rw [hy114]; with_reducible exact H) | (have H2_ := (Option.bind_some _ _).symm.trans H; rw [hy114]; with_reducible exact H2_) | (have H2_ := (Option.bind_some _ _).symm.trans H; with_reducible exact H2_) | with_reducible exact H | (rw [hy114]; exact H) | exact H
            have Ny114 := Aside0.mk hy114
            clear hy114
            have H' := Aside0.mk H
            clear H
            try go_wp2
            have n0_ := Aside0.mk (Kd.R_drew HO_0.out)
            have n1_ := Aside0.mk (Kept.drew HK.out)
            have n2_ := Aside0.mk (below_drew1 HB.out)
            clear HO_0
            clear HK
            clear HB
            have HO_0 := n0_
            have HK := n1_
            have HB := n2_
            clear n0_ n1_ n2_
            obtain ⟨Ao8, co8, eo8⟩ := Kd.R_slice HO_0.out
            (first | subst eo8 | (injection eo8 with f1_ f2_ f3_; have f4_ := f1_.symm; have f5_ := f3_.symm; clear f1_ f2_ f3_; subst f4_; subst f5_))
            have p112 : 0 ≤ (x4_1 : Int) := of_decide_eq_true (by first | (with_reducible assumption) | assumption)
            have q112 : x4_1 < (x0_1.length : Int) := of_decide_eq_true (by first | (with_reducible assumption) | assumption)
            obtain ⟨ad112, e112, hx112_0⟩ := Kd.at_int (Kd.R_reads' HO_0.out).2.2 x4_1 p112 q112
            cases e112
            replace p112 := eq_true p112
            replace q112 := eq_true q112
            have p113 : 0 ≤ (x4_1 : Int) := of_decide_eq_true (by first | (with_reducible assumption) | assumption)
            have q113 : x4_1 < (l1.length : Int) := of_decide_eq_true (by first | (with_reducible assumption) | assumption)
            obtain ⟨ad113, e113, hx113_0⟩ := Kd.at_int (Kd.C_kept_now HR1.out HK.out) x4_1 p113 q113
            have hw113_0 := hx113_0
            cases e113
            replace p113 := eq_true p113
            replace q113 := eq_true q113
            have p6 : 0 ≤ (x4_1 : Int) := of_decide_eq_true (by first | (with_reducible assumption) | assumption)
            have q6 : (x4_1 : Int) < ((x0_1.length : Int) : Int) := of_decide_eq_true (by first | (with_reducible assumption) | assumption)
            obtain ⟨go6, co6, eo6, gb6, gl6, cl6, HG6⟩ := Kd.R_form HO_0.out (by omega)
            (first | cases eo6 | (injection eo6 with ea_ en_ ec_; (first | subst ea_ | (injection ea_ with ea_; subst ea_)); subst ec_; clear en_))
            have GB6 := Aside0.mk gb6
            have GG6 := Aside0.mk HG6
            clear gb6 gl6 HG6
            have HMgo6 := Aside0.mk (show (P0_ go6 ∨ w.heap.size ≤ go6) from (HO_0.out.1 _ rfl))
            (first | simp only [add_plain] at hx112_0 | skip)
            obtain ⟨hx6_0, hf6_0⟩ := Kd.R_celln 0 HO_0.out (x4_1 : Int) p6 q6
            replace p6 := eq_true p6
            replace q6 := eq_true q6
            have HP9 := Kd.R_putn HO_0.out (x4_1 : Int) (Go.bits .xor .u8 (rd x0_1 x4_1) (rd l1 x4_1))
            rw [← Ny114.out] at HP9
            have HQ9 := Aside0.mk HP9
            clear HP9
            refine start_ (n := 11) (S := fun w' => w'.cell? ⟨go6, (x4_1).toNat, none⟩ = some (.int .u8 (rd x0_1 x4_1)) ∧ w'.cell? (ad113.add (x4_1).toNat) = some (.int .u8 (rd l1 x4_1))) (ds := [10]) #[false, false, false, false, false, false, false, false, false, false, false] (by kernel_rfl) rfl rfl ⟨hx112_0, (Kd.foot_int (HR1.out _ (by repeat (first | exact HK.out | apply Kept.alloc | apply Kept.drewN | apply Kept.drew | refine Kept.setCell ?_ HMgo6.out _))) x4_1 (of_eq_true p113) (of_eq_true q113))⟩ (fun hHeld => ?_); refine with_tabW byteutil_XorBytesMut.tab3 byteutil_XorBytesMut.bits3 (fun HT_ HW_ => ?_)
            generalize wr.drew = w7 at HO_0 HK HB GG6 HQ9 hf6_0 hx112_0 hx113_0 hx6_0 hHeld ⊢
            refine pure_ (i := 0) (N := some 11) (v := ?_) (a' := ?_) #[true, false, false, false, false, false, false, false, false, false, false] rfl rfl (any_of HT_.out (by kernel_rfl)) (fun _ _ _ h => h) (Or.inl ⟨by rfl, ?_⟩) ?_ ?_
            rotate_left
            · intro w'
              go_simp
              with_reducible rfl
            rotate_left
            · simp only [Act.put, List.setIfInBounds_toArray, List.set_cons_zero, List.set_cons_succ, i64_w, i32_w]
              rfl
            refine pure_ (i := 1) (N := some 12) (v := ?_) (a' := ?_) #[true, true, false, false, false, false, false, false, false, false, false] rfl rfl (any_of HT_.out (by kernel_rfl)) (fun _ _ _ h => h) (Or.inl ⟨by rfl, ?_⟩) ?_ ?_
            rotate_left
            · intro w'
              go_simp
              with_reducible rfl
            rotate_left
            · simp only [Act.put, List.setIfInBounds_toArray, List.set_cons_zero, List.set_cons_succ, i64_w, i32_w]
              rfl
            refine pure_ (i := 2) (N := some 13) (v := ?_) (a' := ?_) #[true, true, true, false, false, false, false, false, false, false, false] rfl rfl (any_of HT_.out (by kernel_rfl)) (fun _ _ _ h => h) (Or.inl ⟨by rfl, ?_⟩) ?_ ?_
            rotate_left
            · intro w'
              go_simp
              with_reducible rfl
            rotate_left
            · simp only [Act.put, List.setIfInBounds_toArray, List.set_cons_zero, List.set_cons_succ, i64_w, i32_w]
              rfl
            refine pure_ (i := 4) (N := some 15) (v := ?_) (a' := ?_) #[true, true, true, false, true, false, false, false, false, false, false] rfl rfl (any_of HT_.out (by kernel_rfl)) (fun _ _ _ h => h) (Or.inl ⟨by rfl, ?_⟩) ?_ ?_
            rotate_left
            · intro w'
              go_simp
              with_reducible rfl
            rotate_left
            · simp only [Act.put, List.setIfInBounds_toArray, List.set_cons_zero, List.set_cons_succ, i64_w, i32_w]
              rfl
            refine pure_ (i := 5) (N := some 16) (v := ?_) (a' := ?_) #[true, true, true, false, true, true, false, false, false, false, false] rfl rfl (any_of HT_.out (by kernel_rfl)) (fun _ _ _ h => h) (Or.inl ⟨by rfl, ?_⟩) ?_ ?_
            rotate_left
            · intro w'
              go_simp
              with_reducible rfl
            rotate_left
            · simp only [Act.put, List.setIfInBounds_toArray, List.set_cons_zero, List.set_cons_succ, i64_w, i32_w]
              rfl
            refine pure_ (i := 6) (N := some 17) (v := ?_) (a' := ?_) #[true, true, true, false, true, true, true, false, false, false, false] rfl rfl (any_of HT_.out (by kernel_rfl)) (fun _ _ _ h => h) (Or.inl ⟨by rfl, ?_⟩) ?_ ?_
            rotate_left
            · intro w'
              go_simp
              with_reducible rfl
            rotate_left
            · simp only [Act.put, List.setIfInBounds_toArray, List.set_cons_zero, List.set_cons_succ, i64_w, i32_w]
              rfl
            refine take_ (i := 3) (N := some 14) (v := ?_) (a' := ?_) #[true, true, true, true, true, true, true, false, false, false, false] rfl rfl (take_ofW HT_.out HW_.out (by kernel_rfl)) (fun _ _ _ h => h) (Or.inl ⟨by rfl, ?_⟩) hHeld ?_ ?_
            rotate_left
            · rintro w' ⟨s0, s1⟩
              go_simp
              with_reducible rfl
            rotate_left
            · simp only [Act.put, List.setIfInBounds_toArray, List.set_cons_zero, List.set_cons_succ, i64_w, i32_w]
              rfl
            refine take_ (i := 7) (N := some 18) (v := ?_) (a' := ?_) #[true, true, true, true, true, true, true, true, false, false, false] rfl rfl (take_ofW HT_.out HW_.out (by kernel_rfl)) (fun _ _ _ h => h) (Or.inl ⟨by rfl, ?_⟩) hHeld ?_ ?_
            rotate_left
            · rintro w' ⟨s0, s1⟩
              go_simp
              with_reducible rfl
            rotate_left
            · simp only [Act.put, List.setIfInBounds_toArray, List.set_cons_zero, List.set_cons_succ, i64_w, i32_w]
              rfl
            refine pure_ (i := 8) (N := some 19) (v := ?_) (a' := ?_) #[true, true, true, true, true, true, true, true, true, false, false] rfl rfl (any_of HT_.out (by kernel_rfl)) (fun _ _ _ h => h) (Or.inl ⟨by rfl, ?_⟩) ?_ ?_
            rotate_left
            · intro w'
              go_simp
              with_reducible rfl
            rotate_left
            · simp only [Act.put, List.setIfInBounds_toArray, List.set_cons_zero, List.set_cons_succ, i64_w, i32_w]
              rfl
            refine pure_ (i := 9) (N := some 20) (v := ?_) (a' := ?_) #[true, true, true, true, true, true, true, true, true, true, false] rfl rfl (any_of HT_.out (by kernel_rfl)) (fun _ _ _ h => h) (Or.inl ⟨by rfl, ?_⟩) ?_ ?_
            rotate_left
            · intro w'
              go_simp
              with_reducible rfl
            rotate_left
            · simp only [Act.put, List.setIfInBounds_toArray, List.set_cons_zero, List.set_cons_succ, i64_w, i32_w]
              rfl
            refine last_ (i := 10) (N := none) #[true, true, true, true, true, true, true, true, true, true, true] rfl rfl (one_of HT_.out (by kernel_rfl)) (by decide) (fun K hK => ?_)
            refine skip_ (w1 := ?_) (by rfl) rfl ?_ ?_
            rotate_left
            · go_simp
              rfl
            refine hK.out _ _ ?_
            clear hK K
            refine done_ (done_of HT_.out (by kernel_rfl)) ?_
            try go_wp2
            go_roundg k1
            case measure => have := HK1.out; omega
            case rel => exact ⟨(y114), (wrap64 (x4_1 + 1)), (by first | rfl | (simp; done) | (simp [*]; done)), H', ⟨by have := HK1.out; omega⟩, ⟨by (with_reducible repeat (first | apply Kd.R_alloc | apply Kd.R_drewN | apply Kd.R_drew)); exact HQ9.out⟩, ⟨by repeat (first | (with_reducible first | exact HK.out | apply Kept.alloc | apply Kept.drewN | apply Kept.drew | refine Kept.setCell ?_ HMgo6.out _) | exact HK.out)⟩, ⟨by repeat (first | (with_reducible first | exact HB.out | apply below_alloc | apply pw_below_drewN | apply below_drew1 | refine below_set ?_ GB6.out) | exact HB.out)⟩⟩
          · rw [if_neg c5] at H
            exact absurd H (by simp)
        · rw [if_neg c4] at H
          exact absurd H (by simp)
      · rw [if_neg c3] at H
        have c3b0 : decide (x4_1 < (l1.length : Int)) = false := decide_eq_false c3
        clear c3
        obtain rfl := Option.some.inj H
        go_wp2
        first | go_end0 | ((try simp only [Exit.inBlock, Exit.then]); refine bodyPost_ret (results_none rfl _ _ _) rfl ?_)
        exact ⟨by first | rfl | (simp [errW_none, errW_some] <;> rfl) | (simp [*, errW_none, errW_some] <;> rfl), by (with_reducible repeat (first | apply Kd.R_alloc | apply Kd.R_drewN | apply Kd.R_drew)); exact HO_0.out, by repeat (first | (with_reducible first | exact HB.out | apply below_alloc | apply pw_below_drewN | apply below_drew1) | exact HB.out), by repeat (first | (with_reducible first | exact HK.out | apply Kept.alloc | apply Kept.drewN | apply Kept.drew) | exact HK.out)⟩

-- NOT PRINTED: function 11 (impl_XorMut)

end Go.Proofs.Ytchihobchpipfaa.PFnXors
