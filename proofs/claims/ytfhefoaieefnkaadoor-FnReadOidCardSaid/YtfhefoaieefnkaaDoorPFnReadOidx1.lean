-- PRINTED BY print.sh 35421559b90ae4d0a3588c463048766b98c2df88dd9212a6774a882060cdf62d: not written by this session
import Derived.Test.YtfhefoaieefnkaaDoorPFnReadOidx0
namespace Go.Proofs.YtfhefoaieefnkaaDoor.PFnReadOid
open Go.RowKit Go.Proofs.YtfhefoaieefnkaaDoorW.PrintWords Go.Proofs.YtfhefoaieefnkaaDoorW.PrintLast Go.Proofs.YtfhefoaieefnkaaDoorW.PrintMore
attribute [local go_sem] max2_int min2_int max_two min_two max_three min_three max_four min_four   -- for this text's walks alone
set_option linter.unusedVariables false
set_option linter.unusedSimpArgs false

-- NOT PRINTED: function 46 (impl_end)

-- NOT PRINTED: function 84 (io_ReadAtLeast)

-- NOT PRINTED: function 73 (io_ReadFull)

-- NOT PRINTED: function 48 (encoding_OID_ReadFrom)

-- NOT PRINTED: function 57 (impl_own)

-- NOT PRINTED: function 49 (impl_field)

-- NOT PRINTED: function 17 (impl_ReadOid)

/-! ### spec_ReadOID: function 18 -/
def spec_ReadOID.j0 : Nat → List Int → Int → Bool → Option (List Int × Int × Int)
  | 0, _, _, _ => none
  | k + 1, x0, x5, x18 => if x18 = true then (some (([] : List Int), 0, 2)) else (if (x0.length : Int) < (wrap64 (1 + x5)) then (some (([] : List Int), 0, 1)) else ((some (([] : List Int) : List Int)).bind fun y106 => (if 1 ≤ (wrap64 (1 + x5)) then (if (wrap64 (1 + x5)) ≤ (x0.length : Int) then (if y106.length + ((x0.take ((wrap64 (1 + x5)) : Int).toNat).drop 1).length < 140737488355328 then (some ((y106 ++ ((x0.take ((wrap64 (1 + x5)) : Int).toNat).drop 1)), wrap64 (1 + x5), 0)) else (none)) else (none)) else (none))))
def spec_ReadOID.f (k : Nat) (l0 : List Int) : Option (List Int × Int × Int) := if (l0.length : Int) = 0 then (some (([] : List Int), 0, 1)) else (if 0 < (l0.length : Int) then (if (wrap64 (rd l0 0)) = 0 then (spec_ReadOID.j0 k l0 (wrap64 (rd l0 0)) true) else (spec_ReadOID.j0 k l0 (wrap64 (rd l0 0)) ((wrap64 (rd l0 0)) == 255))) else (none))
theorem spec_ReadOID.mono_l : ∀ k, (∀ y0 y1 y2, LeO (spec_ReadOID.j0 k y0 y1 y2) (spec_ReadOID.j0 (k + 1) y0 y1 y2))
  | 0 => fun _ _ _ r h => by simp [spec_ReadOID.j0] at h
  | k + 1 => by
    have ih0 := spec_ReadOID.mono_l k
    · intro y0 y1 y2
      unfold spec_ReadOID.j0
      repeat' first
      | (with_reducible exact ih0 _ _ _)
      | (with_reducible exact LeO.refl _)
      | (with_reducible exact LeO.none _)
      | (with_reducible refine LeO.ite ?_ ?_)
      | (with_reducible refine LeO.bind ?_ (fun _ => ?_))
      | exact ih0 _ _ _
      | exact LeO.none _
      | refine LeO.ite ?_ ?_
      | refine LeO.bind ?_ (fun _ => ?_)
theorem spec_ReadOID.mono : ∀ a0 k, LeO (spec_ReadOID.f k a0) (spec_ReadOID.f (k + 1) a0) := by
  intro a0 k
  have ih0 := spec_ReadOID.mono_l k
  unfold spec_ReadOID.f
  repeat' first
      | (with_reducible exact ih0 _ _ _)
      | (with_reducible exact LeO.refl _)
      | (with_reducible exact LeO.none _)
      | (with_reducible refine LeO.ite ?_ ?_)
      | (with_reducible refine LeO.bind ?_ (fun _ => ?_))
      | exact ih0 _ _ _
      | exact LeO.none _
      | refine LeO.ite ?_ ?_
      | refine LeO.bind ?_ (fun _ => ?_)
set_option maxHeartbeats 8000000 in
set_option maxRecDepth 100000 in
theorem spec_ReadOID.calls (k : Nat) (A0 : Option Addr) (c0 : Nat) (l0 : List Int) (r1 : List Int) (r2 : Int) (r3 : Int) (w : World) (hr0 : Kd.C (Kd.int .u8) w A0 l0.length l0) (hc0 : l0.length ≤ c0) (h : spec_ReadOID.f k l0 = some (r1, r2, r3)) :
    Calls Tryd.prog 18 #[.slice A0 l0.length c0] w fun e w' => ∃ v0_ : Value, e = .returned (.tuple #[v0_, .int .i64 r2, .int .i64 r3]) ∧ Kd.R (Kd.int .u8) 5 w' w.heap.size (fun _ => True) v0_ r1 ∧ Below w.heap.size w w' := by
  have HR0 := Aside0.mk hr0
  have HC0 := Aside0.mk hc0
  clear hr0 hc0
  have HB := Aside0.mk (Below.refl w.heap.size w)
  have H : (if (l0.length : Int) = 0 then (some (([] : List Int), 0, 1)) else (if 0 < (l0.length : Int) then (if (wrap64 (rd l0 0)) = 0 then (spec_ReadOID.j0 k l0 (wrap64 (rd l0 0)) true) else (spec_ReadOID.j0 k l0 (wrap64 (rd l0 0)) ((wrap64 (rd l0 0)) == 255))) else (none))) = some (r1, r2, r3) := h
  clear h
  by_cases c2 : (l0.length : Int) = 0
  · rw [if_pos c2] at H
    have c2b0 : ((l0.length : Int) == 0) = true := beq_iff_eq.mpr c2
    have c2b1 : ((l0.length : Int) != 0) = false := bne_eq_false_iff_eq.mpr c2
    clear c2
    simp only [Option.some.injEq, Prod.mk.injEq] at H
    obtain ⟨rfl, rfl, rfl⟩ := H
    go_enter Tryd.func18, Tryd.ntmps18
    go_wp2
    go_ret3
    exact ⟨_, by first | rfl | (simp [errW_none, errW_some] <;> rfl) | (simp [*, errW_none, errW_some] <;> rfl), by first | exact Kd.R_nil _ _ _ _ _ | exact Kd.N_nil _ _ _ _ _ | exact Kd.V_nil _ _ _ _ _ | exact Kd.Q_nil _ _ _ _ _ | exact Kd.S_nil _ _ _ _ _, by repeat (first | (with_reducible first | exact HB.out | apply below_alloc | apply pw_below_drewN | apply below_drew1) | exact HB.out)⟩
  · rw [if_neg c2] at H
    have c2b0 : ((l0.length : Int) == 0) = false := beq_eq_false_iff_ne.mpr c2
    have c2b1 : ((l0.length : Int) != 0) = true := bne_iff_ne.mpr c2
    have c2b2 : ¬ (l0 = []) := fun h_ => c2 (by rw [h_]; rfl)
    by_cases c3 : 0 < (l0.length : Int)
    · rw [if_pos c3] at H
      have c3b0 : decide (0 < (l0.length : Int)) = true := decide_eq_true c3
      have c3b1 : decide (0 < l0.length) = true := decide_eq_true (by omega)
      clear c3
      have HC4 := Aside0.mk H
      clear H
      have p105 : 0 ≤ (0 : Int) := (by omega)
      have q105 : 0 < (l0.length : Int) := of_decide_eq_true (by first | (with_reducible assumption) | assumption)
      obtain ⟨ad105, e105, hx105_0⟩ := Kd.at_int HR0.out 0 p105 q105
      cases e105
      have qi105 : (0 < l0.length) = True := eq_true (by omega)
      (try rw [show ((0 : Int)).toNat = 0 from rfl] at hx105_0)
      (try rw [Addr.add_zero'] at hx105_0)
      replace p105 := eq_true p105
      replace q105 := eq_true q105
      go_enter Tryd.func18, Tryd.ntmps18
      go_upto_region 4 with (fail)
      go_cut [18] (fun v18 wc => ∃ (kq : Nat) (x18_3 : Bool), v18 = .bool x18_3 ∧ Aside0 (spec_ReadOID.j0 kq l0 (wrap64 (rd l0 0)) x18_3 = some (r1, r2, r3)) ∧ Aside0 (kq ≤ k) ∧ Aside0 (Below w.heap.size w wc))
      case first =>
        have H := HC4.out
        clear HC4
        by_cases c5 : (wrap64 (rd l0 0)) = 0
        · rw [if_pos c5] at H
          have c5b0 : ((wrap64 (rd l0 0)) == 0) = true := beq_iff_eq.mpr c5
          have c5b1 : ((wrap64 (rd l0 0)) != 0) = false := bne_eq_false_iff_eq.mpr c5
          clear c5
          (first | rw [c5b0] | (simp only [i64_w, i32_w]; rw [c5b0]) | skip)
          have H' := Aside0.mk H
          clear H
          go_wp2
          go_meet
          case rel => exact ⟨_, (true), (by first | rfl | (simp; done) | (simp [*]; done)), H', ⟨by first | omega | exact Nat.le_refl _⟩, ⟨by repeat (first | (with_reducible first | exact HB.out | apply below_alloc | apply pw_below_drewN | apply below_drew1) | exact HB.out)⟩⟩
        · rw [if_neg c5] at H
          have c5b0 : ((wrap64 (rd l0 0)) == 0) = false := beq_eq_false_iff_ne.mpr c5
          have c5b1 : ((wrap64 (rd l0 0)) != 0) = true := bne_iff_ne.mpr c5
          (first | rw [c5b0] | (simp only [i64_w, i32_w]; rw [c5b0]) | skip)
          have H' := Aside0.mk H
          clear H
          go_wp2
          go_meet
          case rel => exact ⟨_, (((wrap64 (rd l0 0)) == 255)), (by first | rfl | (simp; done) | (simp [*]; done)), H', ⟨by first | omega | exact Nat.le_refl _⟩, ⟨by repeat (first | (with_reducible first | exact HB.out | apply below_alloc | apply pw_below_drewN | apply below_drew1) | exact HB.out)⟩⟩
      case rest =>
        clear HC4
        try clear c1
        try clear p1
        try clear q1
        try clear hx1
        try clear qi1
        try clear c2
        try clear c2b0
        try clear c2b1
        try clear c2b2
        try clear p2
        try clear c3
        try clear c3b0
        try clear c3b1
        try clear c5
        try clear c5b0
        try clear c5b1
        try clear hx105_0
        try clear p105
        try clear q105
        obtain ⟨kq, x18_3, rfl, HA, HJ3, HB⟩ := hcut
        cases kq with
        | zero => exact absurd HA.out (by simp [spec_ReadOID.j0])
        | succ kj3 =>
          have H := HA.out
          clear HA
          simp only [spec_ReadOID.j0] at H
          by_cases c6 : x18_3 = true
          · subst c6
            have H1 : (some (([] : List Int), 0, 2)) = some (r1, r2, r3) := by rw [if_pos rfl] at H; exact H
            clear H
            have H := H1
            clear H1
            simp only [Option.some.injEq, Prod.mk.injEq] at H
            obtain ⟨rfl, rfl, rfl⟩ := H
            go_wp2
            go_ret3
            exact ⟨_, by first | rfl | (simp [errW_none, errW_some] <;> rfl) | (simp [*, errW_none, errW_some] <;> rfl), by first | exact Kd.R_nil _ _ _ _ _ | exact Kd.N_nil _ _ _ _ _ | exact Kd.V_nil _ _ _ _ _ | exact Kd.Q_nil _ _ _ _ _ | exact Kd.S_nil _ _ _ _ _, by repeat (first | (with_reducible first | exact HB.out | apply below_alloc | apply pw_below_drewN | apply below_drew1) | exact HB.out)⟩
          · replace c6 := Bool.eq_false_iff.mpr c6
            subst c6
            have H1 : (if (l0.length : Int) < (wrap64 (1 + (wrap64 (rd l0 0)))) then (some (([] : List Int), 0, 1)) else ((some (([] : List Int) : List Int)).bind fun y106 => (if 1 ≤ (wrap64 (1 + (wrap64 (rd l0 0)))) then (if (wrap64 (1 + (wrap64 (rd l0 0)))) ≤ (l0.length : Int) then (if y106.length + ((l0.take ((wrap64 (1 + (wrap64 (rd l0 0)))) : Int).toNat).drop 1).length < 140737488355328 then (some ((y106 ++ ((l0.take ((wrap64 (1 + (wrap64 (rd l0 0)))) : Int).toNat).drop 1)), wrap64 (1 + (wrap64 (rd l0 0))), 0)) else (none)) else (none)) else (none)))) = some (r1, r2, r3) := by rw [if_neg (show ¬ (false = true) by decide)] at H; exact H
            clear H
            have H := H1
            clear H1
            by_cases c7 : (l0.length : Int) < (wrap64 (1 + (wrap64 (rd l0 0))))
            · rw [if_pos c7] at H
              have c7b0 : decide ((l0.length : Int) < (wrap64 (1 + (wrap64 (rd l0 0))))) = true := decide_eq_true c7
              clear c7
              simp only [Option.some.injEq, Prod.mk.injEq] at H
              obtain ⟨rfl, rfl, rfl⟩ := H
              go_wp2
              go_ret3
              exact ⟨_, by first | rfl | (simp [errW_none, errW_some] <;> rfl) | (simp [*, errW_none, errW_some] <;> rfl), by first | exact Kd.R_nil _ _ _ _ _ | exact Kd.N_nil _ _ _ _ _ | exact Kd.V_nil _ _ _ _ _ | exact Kd.Q_nil _ _ _ _ _ | exact Kd.S_nil _ _ _ _ _, by repeat (first | (with_reducible first | exact HB.out | apply below_alloc | apply pw_below_drewN | apply below_drew1) | exact HB.out)⟩
            · rw [if_neg c7] at H
              have c7b0 : decide ((l0.length : Int) < (wrap64 (1 + (wrap64 (rd l0 0))))) = false := decide_eq_false c7
              clear c7
              obtain ⟨y106, hy106⟩ : ∃ y_ : List Int, y_ = (([] : List Int)) := ⟨_, rfl⟩
              replace H : (if 1 ≤ (wrap64 (1 + (wrap64 (rd l0 0)))) then (if (wrap64 (1 + (wrap64 (rd l0 0)))) ≤ (l0.length : Int) then (if y106.length + ((l0.take ((wrap64 (1 + (wrap64 (rd l0 0)))) : Int).toNat).drop 1).length < 140737488355328 then (some ((y106 ++ ((l0.take ((wrap64 (1 + (wrap64 (rd l0 0)))) : Int).toNat).drop 1)), wrap64 (1 + (wrap64 (rd l0 0))), 0)) else (none)) else (none)) else (none)) = some (r1, r2, r3) := by first | (rw [hy106]; with_reducible exact H) | (have H2_ := (Option.bind_some _ _).symm.trans H; rw [hy106]; with_reducible exact H2_) | (have H2_ := (Option.bind_some _ _).symm.trans H; with_reducible exact H2_) | with_reducible exact H | (rw [hy106]; exact H) | exact H
              have Ny106 := Aside0.mk hy106
              clear hy106
              by_cases c8 : 1 ≤ (wrap64 (1 + (wrap64 (rd l0 0))))
              · rw [if_pos c8] at H
                have c8b0 := eq_true c8
                have c8b1 : decide (1 ≤ (wrap64 (1 + (wrap64 (rd l0 0))))) = true := decide_eq_true c8
                by_cases c9 : (wrap64 (1 + (wrap64 (rd l0 0)))) ≤ (l0.length : Int)
                · rw [if_pos c9] at H
                  have c9b0 := eq_true c9
                  have c9b1 : decide ((wrap64 (1 + (wrap64 (rd l0 0)))) ≤ (l0.length : Int)) = true := decide_eq_true c9
                  by_cases c10 : y106.length + ((l0.take ((wrap64 (1 + (wrap64 (rd l0 0)))) : Int).toNat).drop 1).length < 140737488355328
                  · rw [if_pos c10] at H
                    have LMc10 := Aside0.mk c10
                    clear c10
                    obtain ⟨y110, hy110⟩ : ∃ y_ : List Int, y_ = (y106 ++ ((l0.take ((wrap64 (1 + (wrap64 (rd l0 0)))) : Int).toNat).drop 1)) := ⟨_, rfl⟩
                    replace H : (some (y110, wrap64 (1 + (wrap64 (rd l0 0))), 0)) = some (r1, r2, r3) := by first | (rw [hy110]; with_reducible exact H) | (have H2_ := (Option.bind_some _ _).symm.trans H; rw [hy110]; with_reducible exact H2_) | (have H2_ := (Option.bind_some _ _).symm.trans H; with_reducible exact H2_) | with_reducible exact H | (rw [hy110]; exact H) | exact H
                    have Ny110 := Aside0.mk hy110
                    clear hy110
                    simp only [Option.some.injEq, Prod.mk.injEq] at H
                    obtain ⟨rfl, rfl, rfl⟩ := H
                    go_wp2_with (first | ((with_reducible refine gate_dst (N := 24) rfl ?_); refine Kd.R_lit (Kd.int .u8) _ 5 ?hg (N := 24) ?hd (xs := ([] : List Int)) (inner := []) (ok := fun _ => True) (okp := fun _ => True) ?hr ?hp (fun _ hk => hk) trivial (Below.refl _ _) (Nat.le_refl _) (by simp) ?_; (case hd => rfl); (case hg => rfl); (case hr => first | (go_simp; done) | (go_simp; rfl)); (case hp => exact (Reps.none _ _)); intro v107 w11 ho12 hb hg_ hnew_; clear hg_ hnew_; (first | rw [← Ny106.out] at ho12 | (simp only [Int.reduceToNat] at ho12; rw [← Ny106.out] at ho12)); have n0_ := Aside0.mk (Kd.R_lower ho12 (below_size (by repeat (first | (with_reducible first | exact HB.out | apply below_alloc | apply pw_below_drewN | apply below_drew1) | exact HB.out)))); have n1_ := Aside0.mk (below_step (by repeat (first | (with_reducible first | exact HB.out | apply below_alloc | apply pw_below_drewN | apply below_drew1) | exact HB.out)) hb); clear HB; have HO108 := n0_; have HB := n1_; clear n0_ n1_; clear hb ho12; obtain ⟨i013, hi013, _, hsz13, _⟩ := info_parts info5; obtain ⟨A13, hcut13, hA13, hC13⟩ := print_mid_of (P := Tryd.prog) (Value.int .u8) 0 22 5 .i64 .i64 Tryd.underlying22 hi013 hsz13 (some ad105) c0 l0 1 (wrap64 (1 + (wrap64 (rd l0 0)))) (by omega) (by first | omega | exact of_decide_eq_true (by first | (with_reducible assumption) | assumption)) (of_decide_eq_true (by first | (with_reducible assumption) | assumption)) HC0.out; have HR109 := Aside0.mk (Kd.C_of_reads (h1 := fun _ => rfl) (hA13 _ (Kd.reads_of_C HR0.out))); have HC109 := Aside0.mk hC13; clear hA13 hC13 hi013 hsz13) | ((with_reducible refine gate_builtin (b := .append) (xs := #[.tmp 24, .tmp 28]) rfl ?_); at_builtin; refine Kd.R_append_rows (Kd.int .u8) (w0 := w) w.heap.size rfl (.tmp 24) (.tmp 28) 22 5 (.int .u8 0) 1 rfl Tryd.underlying22 info5 rfl (by decide) (by omega) v107 y106 ((l0.take ((wrap64 (1 + (wrap64 (rd l0 0)))) : Int).toNat).drop 1) _ _ _ (fun _ => True) (fun _ => False) rfl rfl ?aO ?aR (fun _ _ h => h) (fun _ h => h.elim) ?aF ?aB ?aS ?aL ?_; (case aR => first | (rw [← show ((l0.take ((wrap64 (1 + (wrap64 (rd l0 0)))) : Int).toNat).drop 1).length = ((wrap64 (1 + (wrap64 (rd l0 0)))).toNat - 1) from (by rw [List.length_drop, List.length_take]; have h_ : ((wrap64 (1 + (wrap64 (rd l0 0)))) : Int) ≤ (l0.length : Int) := of_decide_eq_true (by first | (with_reducible assumption) | assumption); omega)]; repeat (first | exact (Kd.C_below HR109.out HB.out) | (with_reducible refine Kd.C_alloc ?_ _) | (with_reducible refine Kd.C_drewN ?_ _) | (with_reducible refine Kd.C_drew ?_))) | (repeat (first | exact (Kd.C_below HR109.out HB.out) | (with_reducible refine Kd.C_alloc ?_ _) | (with_reducible refine Kd.C_drewN ?_ _) | (with_reducible refine Kd.C_drew ?_)))); (case aB => exact (by repeat (first | (with_reducible first | exact HB.out | apply below_alloc | apply pw_below_drewN | apply below_drew1) | exact HB.out))); (case aF => exact (fun _ _ => trivial)); (case aO => exact (by (with_reducible repeat (first | apply Kd.R_alloc | apply Kd.R_drewN | apply Kd.R_drew)); exact HO108.out)); (case aS => exact (below_size (by repeat (first | (with_reducible first | exact HB.out | apply below_alloc | apply pw_below_drewN | apply below_drew1) | exact HB.out)))); (case aL => have := LMc10.out; have hlx_ := (show ((l0.take ((wrap64 (1 + (wrap64 (rd l0 0)))) : Int).toNat).drop 1).length = ((wrap64 (1 + (wrap64 (rd l0 0)))).toNat - 1) from (by rw [List.length_drop, List.length_take]; have h_ : ((wrap64 (1 + (wrap64 (rd l0 0)))) : Int) ≤ (l0.length : Int) := of_decide_eq_true (by first | (with_reducible assumption) | assumption); omega)); omega); intro v111 w14 ho hb hg hat; rw [← Ny110.out] at ho; have n0_ := Aside0.mk (hb); have n1_ := Aside0.mk (ho); clear HB; clear HO108; have HB := n0_; have HO112 := n1_; clear n0_ n1_; clear ho hb hg hat))
                    go_ret3
                    exact ⟨_, by first | rfl | (simp [errW_none, errW_some] <;> rfl) | (simp [*, errW_none, errW_some] <;> rfl), by (with_reducible repeat (first | apply Kd.R_alloc | apply Kd.R_drewN | apply Kd.R_drew)); exact HO112.out, by repeat (first | (with_reducible first | exact HB.out | apply below_alloc | apply pw_below_drewN | apply below_drew1) | exact HB.out)⟩
                  · rw [if_neg c10] at H
                    exact absurd H (by simp)
                · rw [if_neg c9] at H
                  exact absurd H (by simp)
              · rw [if_neg c8] at H
                exact absurd H (by simp)
    · rw [if_neg c3] at H
      exact absurd H (by simp)

/-! ### spec_SameBytes: function 22 -/
def spec_SameBytes.l0 : Nat → List Int → List Int → Int → Int → Option (Bool)
  | 0, _, _, _, _ => none
  | k + 1, x0, x1, x12, x13 => if x13 < x12 then (if 0 ≤ x13 then (if x13 < (x0.length : Int) then (if x13 < (x1.length : Int) then (if (rd x0 x13) = (rd x1 x13) then (spec_SameBytes.l0 k x0 x1 x12 (wrap64 (x13 + 1))) else (some false)) else (none)) else (none)) else (none)) else (some true)
def spec_SameBytes.f (k : Nat) (l0 : List Int) (l1 : List Int) : Option (Bool) := if (l0.length : Int) = (l1.length : Int) then (spec_SameBytes.l0 k l0 l1 (l0.length : Int) 0) else (some false)
theorem spec_SameBytes.mono_l : ∀ k, (∀ y0 y1 y2 y3, LeO (spec_SameBytes.l0 k y0 y1 y2 y3) (spec_SameBytes.l0 (k + 1) y0 y1 y2 y3))
  | 0 => fun _ _ _ _ r h => by simp [spec_SameBytes.l0] at h
  | k + 1 => by
    have ih0 := spec_SameBytes.mono_l k
    · intro y0 y1 y2 y3
      unfold spec_SameBytes.l0
      repeat' first
      | (with_reducible exact ih0 _ _ _ _)
      | (with_reducible exact LeO.refl _)
      | (with_reducible exact LeO.none _)
      | (with_reducible refine LeO.ite ?_ ?_)
      | (with_reducible refine LeO.bind ?_ (fun _ => ?_))
      | exact ih0 _ _ _ _
      | exact LeO.none _
      | refine LeO.ite ?_ ?_
      | refine LeO.bind ?_ (fun _ => ?_)
theorem spec_SameBytes.mono : ∀ a0 a1 k, LeO (spec_SameBytes.f k a0 a1) (spec_SameBytes.f (k + 1) a0 a1) := by
  intro a0 a1 k
  have ih0 := spec_SameBytes.mono_l k
  unfold spec_SameBytes.f
  repeat' first
      | (with_reducible exact ih0 _ _ _ _)
      | (with_reducible exact LeO.refl _)
      | (with_reducible exact LeO.none _)
      | (with_reducible refine LeO.ite ?_ ?_)
      | (with_reducible refine LeO.bind ?_ (fun _ => ?_))
      | exact ih0 _ _ _ _
      | exact LeO.none _
      | refine LeO.ite ?_ ?_
      | refine LeO.bind ?_ (fun _ => ?_)
set_option maxHeartbeats 8000000 in
set_option maxRecDepth 100000 in
theorem spec_SameBytes.calls (k : Nat) (A0 : Option Addr) (c0 : Nat) (l0 : List Int) (A1 : Option Addr) (c1 : Nat) (l1 : List Int) (r : Bool) (w : World) (hr0 : Kd.C (Kd.int .u8) w A0 l0.length l0) (hc0 : l0.length ≤ c0) (hr1 : Kd.C (Kd.int .u8) w A1 l1.length l1) (hc1 : l1.length ≤ c1) (h : spec_SameBytes.f k l0 l1 = some r) :
    Calls Tryd.prog 22 #[.slice A0 l0.length c0, .slice A1 l1.length c1] w fun e w' => e = .returned (.bool r) ∧ Drawn0 w w' := by
  have HR0 := Aside0.mk hr0
  have HC0 := Aside0.mk hc0
  clear hr0 hc0
  have HR1 := Aside0.mk hr1
  have HC1 := Aside0.mk hc1
  clear hr1 hc1
  have H : (if (l0.length : Int) = (l1.length : Int) then (spec_SameBytes.l0 k l0 l1 (l0.length : Int) 0) else (some false)) = some r := h
  clear h
  by_cases c3 : (l0.length : Int) = (l1.length : Int)
  · rw [if_pos c3] at H
    have c3b0 : ((l0.length : Int) == (l1.length : Int)) = true := beq_iff_eq.mpr c3
    have c3b1 : ((l0.length : Int) != (l1.length : Int)) = false := bne_eq_false_iff_eq.mpr c3
    have c3b2 : (l0.length == l1.length) = true := by first | simpa using c3 | (simp at c3 ⊢; omega)
    clear c3
    have H' := Aside0.mk H
    clear H
    go_enter Tryd.func22, Tryd.ntmps22
    go_wp2
    repeat (go_quiet (fail); try go_wp2)
    go_loopg [13] k (fun kq v13 w' => ∃ (x13_1 : Int), v13 = .int .i64 x13_1 ∧ Aside0 (spec_SameBytes.l0 kq l0 l1 (l0.length : Int) x13_1 = some r) ∧ Aside0 (kq ≤ k) ∧ Drawn0 w w')
    case atStart => exact ⟨(0), (by first | rfl | (simp; done) | (simp [*]; done)), H', ⟨Nat.le_refl _⟩, by repeat (first | exact Drawn0.refl _ | apply Drawn0.step)⟩
    case round =>
      clear H'
      try clear c1
      try clear c2
      try clear p2
      try clear c3
      try clear c3b0
      try clear c3b1
      try clear c3b2
      obtain ⟨x13_1, rfl, HA, HK1, ⟨m1, rfl⟩⟩ := hrel
      cases gk with
      | zero => exact absurd HA.out (by simp [spec_SameBytes.l0])
      | succ k1 =>
        have H := HA.out
        clear HA
        simp only [spec_SameBytes.l0] at H
        by_cases c4 : x13_1 < (l0.length : Int)
        · rw [if_pos c4] at H
          have c4b0 : decide (x13_1 < (l0.length : Int)) = true := decide_eq_true c4
          clear c4
          by_cases c5 : 0 ≤ x13_1
          · rw [if_pos c5] at H
            have c5b0 : decide (0 ≤ x13_1) = true := decide_eq_true c5
            clear c5
            by_cases c6 : x13_1 < (l0.length : Int)
            · rw [if_pos c6] at H
              have c6b0 : decide (x13_1 < (l0.length : Int)) = true := decide_eq_true c6
              clear c6
              by_cases c7 : x13_1 < (l1.length : Int)
              · rw [if_pos c7] at H
                have c7b0 : decide (x13_1 < (l1.length : Int)) = true := decide_eq_true c7
                clear c7
                by_cases c8 : (rd l0 x13_1) = (rd l1 x13_1)
                · rw [if_pos c8] at H
                  have c8b0 : ((rd l0 x13_1) == (rd l1 x13_1)) = true := beq_iff_eq.mpr c8
                  have c8b1 : ((rd l0 x13_1) != (rd l1 x13_1)) = false := bne_eq_false_iff_eq.mpr c8
                  clear c8
                  have H' := Aside0.mk H
                  clear H
                  have p113 : 0 ≤ (x13_1 : Int) := of_decide_eq_true (by first | (with_reducible assumption) | assumption)
                  have q113 : x13_1 < (l0.length : Int) := of_decide_eq_true (by first | (with_reducible assumption) | assumption)
                  obtain ⟨ad113, e113, hx113_0⟩ := Kd.at_int HR0.out x13_1 p113 q113
                  cases e113
                  replace p113 := eq_true p113
                  replace q113 := eq_true q113
                  have p114 : 0 ≤ (x13_1 : Int) := of_decide_eq_true (by first | (with_reducible assumption) | assumption)
                  have q114 : x13_1 < (l1.length : Int) := of_decide_eq_true (by first | (with_reducible assumption) | assumption)
                  obtain ⟨ad114, e114, hx114_0⟩ := Kd.at_int HR1.out x13_1 p114 q114
                  cases e114
                  replace p114 := eq_true p114
                  replace q114 := eq_true q114
                  go_wp2
                  repeat (go_quiet (fail); try go_wp2)
                  go_roundg k1
                  case measure => have := HK1.out; omega
                  case rel => exact ⟨(wrap64 (x13_1 + 1)), (by first | rfl | (simp; done) | (simp [*]; done)), H', ⟨by have := HK1.out; omega⟩, by repeat (first | exact Drawn0.refl _ | apply Drawn0.step)⟩
                · rw [if_neg c8] at H
                  have c8b0 : ((rd l0 x13_1) == (rd l1 x13_1)) = false := beq_eq_false_iff_ne.mpr c8
                  have c8b1 : ((rd l0 x13_1) != (rd l1 x13_1)) = true := bne_iff_ne.mpr c8
                  obtain rfl := Option.some.inj H
                  have p113 : 0 ≤ (x13_1 : Int) := of_decide_eq_true (by first | (with_reducible assumption) | assumption)
                  have q113 : x13_1 < (l0.length : Int) := of_decide_eq_true (by first | (with_reducible assumption) | assumption)
                  obtain ⟨ad113, e113, hx113_0⟩ := Kd.at_int HR0.out x13_1 p113 q113
                  cases e113
                  replace p113 := eq_true p113
                  replace q113 := eq_true q113
                  have p114 : 0 ≤ (x13_1 : Int) := of_decide_eq_true (by first | (with_reducible assumption) | assumption)
                  have q114 : x13_1 < (l1.length : Int) := of_decide_eq_true (by first | (with_reducible assumption) | assumption)
                  obtain ⟨ad114, e114, hx114_0⟩ := Kd.at_int HR1.out x13_1 p114 q114
                  cases e114
                  replace p114 := eq_true p114
                  replace q114 := eq_true q114
                  go_wp2
                  repeat (go_quiet (fail); try go_wp2)
                  go_ret
                  exact ⟨by first | rfl | (simp; done) | (simp [*]; done), by repeat (first | exact Drawn0.refl _ | apply Drawn0.step)⟩
              · rw [if_neg c7] at H
                exact absurd H (by simp)
            · rw [if_neg c6] at H
              exact absurd H (by simp)
          · rw [if_neg c5] at H
            exact absurd H (by simp)
        · rw [if_neg c4] at H
          have c4b0 : decide (x13_1 < (l0.length : Int)) = false := decide_eq_false c4
          clear c4
          obtain rfl := Option.some.inj H
          go_wp2
          repeat (go_quiet (fail); try go_wp2)
          go_ret
          exact ⟨by first | rfl | (simp; done) | (simp [*]; done), by repeat (first | exact Drawn0.refl _ | apply Drawn0.step)⟩
  · rw [if_neg c3] at H
    have c3b0 : ((l0.length : Int) == (l1.length : Int)) = false := beq_eq_false_iff_ne.mpr c3
    have c3b1 : ((l0.length : Int) != (l1.length : Int)) = true := bne_iff_ne.mpr c3
    have c3b2 : (l0.length == l1.length) = false := by first | simpa using c3 | (simp at c3 ⊢; omega)
    obtain rfl := Option.some.inj H
    go_enter Tryd.func22, Tryd.ntmps22
    go_wp2
    repeat (go_quiet (fail); try go_wp2)
    go_ret
    exact ⟨by first | rfl | (simp; done) | (simp [*]; done), by repeat (first | exact Drawn0.refl _ | apply Drawn0.step)⟩

/-! ### laws_isField: function 19 -/
def laws_isField.f (k : Nat) (l0_0 : List Int) (a0_1 : Int) (l0_2 : List Int) (a0_3 : Int) (l1 : List Int) (a2 : Int) (l3 : List Int) : Option (Bool) := (spec_SameBytes.f k l0_0 l1).bind fun t116 => (if t116 = true then (if a0_1 = a2 then ((spec_SameBytes.f k l0_2 l3).bind fun t117 => (if t117 = true then (some (a0_3 == (l3.length : Int))) else (some false))) else (some false)) else (some false))
theorem laws_isField.mono : ∀ a0 a1 a2 a3 a4 a5 a6 k, LeO (laws_isField.f k a0 a1 a2 a3 a4 a5 a6) (laws_isField.f (k + 1) a0 a1 a2 a3 a4 a5 a6) := by
  intro a0 a1 a2 a3 a4 a5 a6 k
  unfold laws_isField.f
  repeat' first
      | (with_reducible exact spec_SameBytes.mono _ _ _)
      | (with_reducible exact LeO.refl _)
      | (with_reducible exact LeO.none _)
      | (with_reducible refine LeO.ite ?_ ?_)
      | (with_reducible refine LeO.bind ?_ (fun _ => ?_))
      | exact spec_SameBytes.mono _ _ _
      | exact LeO.none _
      | refine LeO.ite ?_ ?_
      | refine LeO.bind ?_ (fun _ => ?_)
set_option maxHeartbeats 8000000 in
set_option maxRecDepth 100000 in
theorem laws_isField.calls (k : Nat) (A0_0 : Option Addr) (c0_0 : Nat) (l0_0 : List Int) (a0_1 : Int) (A0_2 : Option Addr) (c0_2 : Nat) (l0_2 : List Int) (a0_3 : Int) (A1 : Option Addr) (c1 : Nat) (l1 : List Int) (a2 : Int) (A3 : Option Addr) (c3 : Nat) (l3 : List Int) (r : Bool) (w : World) (hr0_0 : Kd.C (Kd.int .u8) w A0_0 l0_0.length l0_0) (hc0_0 : l0_0.length ≤ c0_0) (hr0_2 : Kd.C (Kd.int .u8) w A0_2 l0_2.length l0_2) (hc0_2 : l0_2.length ≤ c0_2) (hr1 : Kd.C (Kd.int .u8) w A1 l1.length l1) (hc1 : l1.length ≤ c1) (hr3 : Kd.C (Kd.int .u8) w A3 l3.length l3) (hc3 : l3.length ≤ c3) (h : laws_isField.f k l0_0 a0_1 l0_2 a0_3 l1 a2 l3 = some r) :
    Calls Tryd.prog 19 #[.agg #[.slice A0_0 l0_0.length c0_0, .int .i64 a0_1, .slice A0_2 l0_2.length c0_2, .int .i64 a0_3], .slice A1 l1.length c1, .int .i64 a2, .slice A3 l3.length c3] w fun e w' => e = .returned (.bool r) ∧ Below w.heap.size w w' := by
  have hu29 := Tryd.underlying29
  have HR0_0 := Aside0.mk hr0_0
  have HC0_0 := Aside0.mk hc0_0
  clear hr0_0 hc0_0
  have HR0_2 := Aside0.mk hr0_2
  have HC0_2 := Aside0.mk hc0_2
  clear hr0_2 hc0_2
  have HR1 := Aside0.mk hr1
  have HC1 := Aside0.mk hc1
  clear hr1 hc1
  have HR3 := Aside0.mk hr3
  have HC3 := Aside0.mk hc3
  clear hr3 hc3
  have HB := Aside0.mk (Below.refl w.heap.size w)
  have H : ((spec_SameBytes.f k l0_0 l1).bind fun t116 => (if t116 = true then (if a0_1 = a2 then ((spec_SameBytes.f k l0_2 l3).bind fun t117 => (if t117 = true then (some (a0_3 == (l3.length : Int))) else (some false))) else (some false)) else (some false))) = some r := h
  clear h
  replace H := Option.bind_eq_some_iff.mp H
  obtain ⟨t116, A50, H⟩ := H
  replace H : (if t116 = true then (if a0_1 = a2 then ((spec_SameBytes.f k l0_2 l3).bind fun t117 => (if t117 = true then (some (a0_3 == (l3.length : Int))) else (some false))) else (some false)) else (some false)) = some r := H
  have A5 := Aside0.mk A50
  clear A50
  by_cases c6 : t116 = true
  · subst c6
    have H1 : (if a0_1 = a2 then ((spec_SameBytes.f k l0_2 l3).bind fun t117 => (if t117 = true then (some (a0_3 == (l3.length : Int))) else (some false))) else (some false)) = some r := by rw [if_pos rfl] at H; exact H
    clear H
    have H := H1
    clear H1
    by_cases c7 : a0_1 = a2
    · rw [if_pos c7] at H
      have c7b0 : (a0_1 == a2) = true := beq_iff_eq.mpr c7
      have c7b1 : (a0_1 != a2) = false := bne_eq_false_iff_eq.mpr c7
      clear c7
      replace H := Option.bind_eq_some_iff.mp H
      obtain ⟨t117, A80, H⟩ := H
      replace H : (if t117 = true then (some (a0_3 == (l3.length : Int))) else (some false)) = some r := H
      have A8 := Aside0.mk A80
      clear A80
      by_cases c9 : t117 = true
      · subst c9
        have H1 : (some (a0_3 == (l3.length : Int))) = some r := by rw [if_pos rfl] at H; exact H
        clear H
        have H := H1
        clear H1
        obtain rfl := Option.some.inj H
        go_enter Tryd.func19, Tryd.ntmps19
        go_wp2_with (first | ((with_reducible refine gate_dst (N := 4) rfl ?_); (try (refine gate_guard (by rfl) ?_; dsimp only)); refine box_event ?hg (N := 4) ?hd (cs := #[.slice A0_0 l0_0.length c0_0, .int .i64 a0_1, .slice A0_2 l0_2.length c0_2, .int .i64 a0_3]) (t := 29) ?hr ?_; (case hd => rfl); (case hg => rfl); (case hr => first | (go_simp; done) | (go_simp; rfl)); intro gb115 hg w10 hbox hb; have n0_ := Aside0.mk (below_step (by repeat (first | (with_reducible first | exact HB.out | apply below_alloc | apply pw_below_drewN | apply below_drew1) | exact HB.out)) hb); have n1_ := Aside0.mk (hbox); have n2_ := Aside0.mk ((by rw [hg]; exact (below_size (by repeat (first | (with_reducible first | exact HB.out | apply below_alloc | apply pw_below_drewN | apply below_drew1) | exact HB.out))) : w.heap.size ≤ gb115)); have n3_ := Aside0.mk ((by rw [hg]; exact (below_size (by repeat (first | (with_reducible first | exact HB.out | apply below_alloc | apply pw_below_drewN | apply below_drew1) | exact HB.out))) : w.heap.size ≤ gb115)); clear HB; have HB := n0_; have BK115 := n1_; have GW115 := n2_; have GE115 := n3_; clear n0_ n1_ n2_ n3_; clear hb hbox hg; have hcz11_0 : w10.cell? ⟨gb115, 0, none⟩ = some (.slice A0_0 l0_0.length c0_0) := (blk_cell BK115.out 0).trans rfl; have hcz11_1 : w10.cell? ⟨gb115, 1, none⟩ = some (.int .i64 a0_1) := (blk_cell BK115.out 1).trans rfl; have hcz11_2 : w10.cell? ⟨gb115, 2, none⟩ = some (.slice A0_2 l0_2.length c0_2) := (blk_cell BK115.out 2).trans rfl; have hcz11_3 : w10.cell? ⟨gb115, 3, none⟩ = some (.int .i64 a0_3) := (blk_cell BK115.out 3).trans rfl; have hfz11_0 := blk_frozen BK115.out 0; have hfz11_1 := blk_frozen BK115.out 1; have hfz11_2 := blk_frozen BK115.out 2; have hfz11_3 := blk_frozen BK115.out 3) | ((with_reducible refine gate_callee (f := 22) rfl ?_); refine goesL_ (some 12) rfl rfl Tryd.func22 (by kernel_rfl) rfl #[.slice A0_0 l0_0.length c0_0, .slice A1 l1.length c1] rfl (by (try simp only [List.map_toArray, List.map_cons, List.map_nil]); first | done | rfl | (simp only [List.length_drop, List.length_take]; rfl)) ?_; (with_reducible refine (spec_SameBytes.calls k _ _ l0_0 _ _ l1 true _ ?side1 ?side2 ?side3 ?side4 A5.out).mono ?_); (case side1 => repeat (first | exact (Kd.C_below HR0_0.out HB.out) | (with_reducible refine Kd.C_alloc ?_ _) | (with_reducible refine Kd.C_drewN ?_ _) | (with_reducible refine Kd.C_drew ?_))); (case side2 => exact HC0_0.out); (case side3 => repeat (first | exact (Kd.C_below HR1.out HB.out) | (with_reducible refine Kd.C_alloc ?_ _) | (with_reducible refine Kd.C_drewN ?_ _) | (with_reducible refine Kd.C_drew ?_))); (case side4 => exact HC1.out); rintro e w' ⟨rfl, ⟨nd, rfl⟩⟩; refine ⟨_, rfl, ?_⟩) | (go_at_call 22; (with_reducible refine (spec_SameBytes.calls k _ _ l0_2 _ _ l3 true _ ?side1 ?side2 ?side3 ?side4 A8.out).mono ?_); (case side1 => repeat (first | exact (Kd.C_below HR0_2.out (by repeat (first | (with_reducible first | exact HB.out | apply below_alloc | apply pw_below_drewN | apply below_drew1 | refine below_set ?_ GE115.out) | exact HB.out))) | (with_reducible refine Kd.C_alloc ?_ _) | (with_reducible refine Kd.C_drewN ?_ _) | (with_reducible refine Kd.C_drew ?_))); (case side2 => exact HC0_2.out); (case side3 => repeat (first | exact (Kd.C_below HR3.out (by repeat (first | (with_reducible first | exact HB.out | apply below_alloc | apply pw_below_drewN | apply below_drew1 | refine below_set ?_ GE115.out) | exact HB.out))) | (with_reducible refine Kd.C_alloc ?_ _) | (with_reducible refine Kd.C_drewN ?_ _) | (with_reducible refine Kd.C_drew ?_))); (case side4 => exact HC3.out); rintro e w' ⟨rfl, ⟨nd, rfl⟩⟩))
        go_ret
        exact ⟨by first | rfl | (simp [errW_none, errW_some] <;> rfl) | (simp [*, errW_none, errW_some] <;> rfl), by repeat (first | (with_reducible first | exact HB.out | apply below_alloc | apply pw_below_drewN | apply below_drew1 | refine below_set ?_ GE115.out) | exact HB.out)⟩
      · replace c9 := Bool.eq_false_iff.mpr c9
        subst c9
        have H1 : (some false) = some r := by rw [if_neg (show ¬ (false = true) by decide)] at H; exact H
        clear H
        have H := H1
        clear H1
        obtain rfl := Option.some.inj H
        go_enter Tryd.func19, Tryd.ntmps19
        go_wp2_with (first | ((with_reducible refine gate_dst (N := 4) rfl ?_); (try (refine gate_guard (by rfl) ?_; dsimp only)); refine box_event ?hg (N := 4) ?hd (cs := #[.slice A0_0 l0_0.length c0_0, .int .i64 a0_1, .slice A0_2 l0_2.length c0_2, .int .i64 a0_3]) (t := 29) ?hr ?_; (case hd => rfl); (case hg => rfl); (case hr => first | (go_simp; done) | (go_simp; rfl)); intro gb115 hg w12 hbox hb; have n0_ := Aside0.mk (below_step (by repeat (first | (with_reducible first | exact HB.out | apply below_alloc | apply pw_below_drewN | apply below_drew1) | exact HB.out)) hb); have n1_ := Aside0.mk (hbox); have n2_ := Aside0.mk ((by rw [hg]; exact (below_size (by repeat (first | (with_reducible first | exact HB.out | apply below_alloc | apply pw_below_drewN | apply below_drew1) | exact HB.out))) : w.heap.size ≤ gb115)); have n3_ := Aside0.mk ((by rw [hg]; exact (below_size (by repeat (first | (with_reducible first | exact HB.out | apply below_alloc | apply pw_below_drewN | apply below_drew1) | exact HB.out))) : w.heap.size ≤ gb115)); clear HB; have HB := n0_; have BK115 := n1_; have GW115 := n2_; have GE115 := n3_; clear n0_ n1_ n2_ n3_; clear hb hbox hg; have hcz13_0 : w12.cell? ⟨gb115, 0, none⟩ = some (.slice A0_0 l0_0.length c0_0) := (blk_cell BK115.out 0).trans rfl; have hcz13_1 : w12.cell? ⟨gb115, 1, none⟩ = some (.int .i64 a0_1) := (blk_cell BK115.out 1).trans rfl; have hcz13_2 : w12.cell? ⟨gb115, 2, none⟩ = some (.slice A0_2 l0_2.length c0_2) := (blk_cell BK115.out 2).trans rfl; have hcz13_3 : w12.cell? ⟨gb115, 3, none⟩ = some (.int .i64 a0_3) := (blk_cell BK115.out 3).trans rfl; have hfz13_0 := blk_frozen BK115.out 0; have hfz13_1 := blk_frozen BK115.out 1; have hfz13_2 := blk_frozen BK115.out 2; have hfz13_3 := blk_frozen BK115.out 3) | ((with_reducible refine gate_callee (f := 22) rfl ?_); refine goesL_ (some 12) rfl rfl Tryd.func22 (by kernel_rfl) rfl #[.slice A0_0 l0_0.length c0_0, .slice A1 l1.length c1] rfl (by (try simp only [List.map_toArray, List.map_cons, List.map_nil]); first | done | rfl | (simp only [List.length_drop, List.length_take]; rfl)) ?_; (with_reducible refine (spec_SameBytes.calls k _ _ l0_0 _ _ l1 true _ ?side1 ?side2 ?side3 ?side4 A5.out).mono ?_); (case side1 => repeat (first | exact (Kd.C_below HR0_0.out HB.out) | (with_reducible refine Kd.C_alloc ?_ _) | (with_reducible refine Kd.C_drewN ?_ _) | (with_reducible refine Kd.C_drew ?_))); (case side2 => exact HC0_0.out); (case side3 => repeat (first | exact (Kd.C_below HR1.out HB.out) | (with_reducible refine Kd.C_alloc ?_ _) | (with_reducible refine Kd.C_drewN ?_ _) | (with_reducible refine Kd.C_drew ?_))); (case side4 => exact HC1.out); rintro e w' ⟨rfl, ⟨nd, rfl⟩⟩; refine ⟨_, rfl, ?_⟩) | (go_at_call 22; (with_reducible refine (spec_SameBytes.calls k _ _ l0_2 _ _ l3 false _ ?side1 ?side2 ?side3 ?side4 A8.out).mono ?_); (case side1 => repeat (first | exact (Kd.C_below HR0_2.out (by repeat (first | (with_reducible first | exact HB.out | apply below_alloc | apply pw_below_drewN | apply below_drew1 | refine below_set ?_ GE115.out) | exact HB.out))) | (with_reducible refine Kd.C_alloc ?_ _) | (with_reducible refine Kd.C_drewN ?_ _) | (with_reducible refine Kd.C_drew ?_))); (case side2 => exact HC0_2.out); (case side3 => repeat (first | exact (Kd.C_below HR3.out (by repeat (first | (with_reducible first | exact HB.out | apply below_alloc | apply pw_below_drewN | apply below_drew1 | refine below_set ?_ GE115.out) | exact HB.out))) | (with_reducible refine Kd.C_alloc ?_ _) | (with_reducible refine Kd.C_drewN ?_ _) | (with_reducible refine Kd.C_drew ?_))); (case side4 => exact HC3.out); rintro e w' ⟨rfl, ⟨nd, rfl⟩⟩))
        go_ret
        exact ⟨by first | rfl | (simp [errW_none, errW_some] <;> rfl) | (simp [*, errW_none, errW_some] <;> rfl), by repeat (first | (with_reducible first | exact HB.out | apply below_alloc | apply pw_below_drewN | apply below_drew1 | refine below_set ?_ GE115.out) | exact HB.out)⟩
    · rw [if_neg c7] at H
      have c7b0 : (a0_1 == a2) = false := beq_eq_false_iff_ne.mpr c7
      have c7b1 : (a0_1 != a2) = true := bne_iff_ne.mpr c7
      obtain rfl := Option.some.inj H
      go_enter Tryd.func19, Tryd.ntmps19
      go_wp2_with (first | ((with_reducible refine gate_dst (N := 4) rfl ?_); (try (refine gate_guard (by rfl) ?_; dsimp only)); refine box_event ?hg (N := 4) ?hd (cs := #[.slice A0_0 l0_0.length c0_0, .int .i64 a0_1, .slice A0_2 l0_2.length c0_2, .int .i64 a0_3]) (t := 29) ?hr ?_; (case hd => rfl); (case hg => rfl); (case hr => first | (go_simp; done) | (go_simp; rfl)); intro gb115 hg w14 hbox hb; have n0_ := Aside0.mk (below_step (by repeat (first | (with_reducible first | exact HB.out | apply below_alloc | apply pw_below_drewN | apply below_drew1) | exact HB.out)) hb); have n1_ := Aside0.mk (hbox); have n2_ := Aside0.mk ((by rw [hg]; exact (below_size (by repeat (first | (with_reducible first | exact HB.out | apply below_alloc | apply pw_below_drewN | apply below_drew1) | exact HB.out))) : w.heap.size ≤ gb115)); have n3_ := Aside0.mk ((by rw [hg]; exact (below_size (by repeat (first | (with_reducible first | exact HB.out | apply below_alloc | apply pw_below_drewN | apply below_drew1) | exact HB.out))) : w.heap.size ≤ gb115)); clear HB; have HB := n0_; have BK115 := n1_; have GW115 := n2_; have GE115 := n3_; clear n0_ n1_ n2_ n3_; clear hb hbox hg; have hcz15_0 : w14.cell? ⟨gb115, 0, none⟩ = some (.slice A0_0 l0_0.length c0_0) := (blk_cell BK115.out 0).trans rfl; have hcz15_1 : w14.cell? ⟨gb115, 1, none⟩ = some (.int .i64 a0_1) := (blk_cell BK115.out 1).trans rfl; have hcz15_2 : w14.cell? ⟨gb115, 2, none⟩ = some (.slice A0_2 l0_2.length c0_2) := (blk_cell BK115.out 2).trans rfl; have hcz15_3 : w14.cell? ⟨gb115, 3, none⟩ = some (.int .i64 a0_3) := (blk_cell BK115.out 3).trans rfl; have hfz15_0 := blk_frozen BK115.out 0; have hfz15_1 := blk_frozen BK115.out 1; have hfz15_2 := blk_frozen BK115.out 2; have hfz15_3 := blk_frozen BK115.out 3) | ((with_reducible refine gate_callee (f := 22) rfl ?_); refine goesL_ (some 12) rfl rfl Tryd.func22 (by kernel_rfl) rfl #[.slice A0_0 l0_0.length c0_0, .slice A1 l1.length c1] rfl (by (try simp only [List.map_toArray, List.map_cons, List.map_nil]); first | done | rfl | (simp only [List.length_drop, List.length_take]; rfl)) ?_; (with_reducible refine (spec_SameBytes.calls k _ _ l0_0 _ _ l1 true _ ?side1 ?side2 ?side3 ?side4 A5.out).mono ?_); (case side1 => repeat (first | exact (Kd.C_below HR0_0.out HB.out) | (with_reducible refine Kd.C_alloc ?_ _) | (with_reducible refine Kd.C_drewN ?_ _) | (with_reducible refine Kd.C_drew ?_))); (case side2 => exact HC0_0.out); (case side3 => repeat (first | exact (Kd.C_below HR1.out HB.out) | (with_reducible refine Kd.C_alloc ?_ _) | (with_reducible refine Kd.C_drewN ?_ _) | (with_reducible refine Kd.C_drew ?_))); (case side4 => exact HC1.out); rintro e w' ⟨rfl, ⟨nd, rfl⟩⟩; refine ⟨_, rfl, ?_⟩))
      go_ret
      exact ⟨by first | rfl | (simp [errW_none, errW_some] <;> rfl) | (simp [*, errW_none, errW_some] <;> rfl), by repeat (first | (with_reducible first | exact HB.out | apply below_alloc | apply pw_below_drewN | apply below_drew1 | refine below_set ?_ GE115.out) | exact HB.out)⟩
  · replace c6 := Bool.eq_false_iff.mpr c6
    subst c6
    have H1 : (some false) = some r := by rw [if_neg (show ¬ (false = true) by decide)] at H; exact H
    clear H
    have H := H1
    clear H1
    obtain rfl := Option.some.inj H
    go_enter Tryd.func19, Tryd.ntmps19
    go_wp2_with (first | ((with_reducible refine gate_dst (N := 4) rfl ?_); (try (refine gate_guard (by rfl) ?_; dsimp only)); refine box_event ?hg (N := 4) ?hd (cs := #[.slice A0_0 l0_0.length c0_0, .int .i64 a0_1, .slice A0_2 l0_2.length c0_2, .int .i64 a0_3]) (t := 29) ?hr ?_; (case hd => rfl); (case hg => rfl); (case hr => first | (go_simp; done) | (go_simp; rfl)); intro gb115 hg w16 hbox hb; have n0_ := Aside0.mk (below_step (by repeat (first | (with_reducible first | exact HB.out | apply below_alloc | apply pw_below_drewN | apply below_drew1) | exact HB.out)) hb); have n1_ := Aside0.mk (hbox); have n2_ := Aside0.mk ((by rw [hg]; exact (below_size (by repeat (first | (with_reducible first | exact HB.out | apply below_alloc | apply pw_below_drewN | apply below_drew1) | exact HB.out))) : w.heap.size ≤ gb115)); have n3_ := Aside0.mk ((by rw [hg]; exact (below_size (by repeat (first | (with_reducible first | exact HB.out | apply below_alloc | apply pw_below_drewN | apply below_drew1) | exact HB.out))) : w.heap.size ≤ gb115)); clear HB; have HB := n0_; have BK115 := n1_; have GW115 := n2_; have GE115 := n3_; clear n0_ n1_ n2_ n3_; clear hb hbox hg; have hcz17_0 : w16.cell? ⟨gb115, 0, none⟩ = some (.slice A0_0 l0_0.length c0_0) := (blk_cell BK115.out 0).trans rfl; have hcz17_1 : w16.cell? ⟨gb115, 1, none⟩ = some (.int .i64 a0_1) := (blk_cell BK115.out 1).trans rfl; have hcz17_2 : w16.cell? ⟨gb115, 2, none⟩ = some (.slice A0_2 l0_2.length c0_2) := (blk_cell BK115.out 2).trans rfl; have hcz17_3 : w16.cell? ⟨gb115, 3, none⟩ = some (.int .i64 a0_3) := (blk_cell BK115.out 3).trans rfl; have hfz17_0 := blk_frozen BK115.out 0; have hfz17_1 := blk_frozen BK115.out 1; have hfz17_2 := blk_frozen BK115.out 2; have hfz17_3 := blk_frozen BK115.out 3) | ((with_reducible refine gate_callee (f := 22) rfl ?_); refine goesL_ (some 12) rfl rfl Tryd.func22 (by kernel_rfl) rfl #[.slice A0_0 l0_0.length c0_0, .slice A1 l1.length c1] rfl (by (try simp only [List.map_toArray, List.map_cons, List.map_nil]); first | done | rfl | (simp only [List.length_drop, List.length_take]; rfl)) ?_; (with_reducible refine (spec_SameBytes.calls k _ _ l0_0 _ _ l1 false _ ?side1 ?side2 ?side3 ?side4 A5.out).mono ?_); (case side1 => repeat (first | exact (Kd.C_below HR0_0.out HB.out) | (with_reducible refine Kd.C_alloc ?_ _) | (with_reducible refine Kd.C_drewN ?_ _) | (with_reducible refine Kd.C_drew ?_))); (case side2 => exact HC0_0.out); (case side3 => repeat (first | exact (Kd.C_below HR1.out HB.out) | (with_reducible refine Kd.C_alloc ?_ _) | (with_reducible refine Kd.C_drewN ?_ _) | (with_reducible refine Kd.C_drew ?_))); (case side4 => exact HC1.out); rintro e w' ⟨rfl, ⟨nd, rfl⟩⟩; refine ⟨_, rfl, ?_⟩))
    go_ret
    exact ⟨by first | rfl | (simp [errW_none, errW_some] <;> rfl) | (simp [*, errW_none, errW_some] <;> rfl), by repeat (first | (with_reducible first | exact HB.out | apply below_alloc | apply pw_below_drewN | apply below_drew1 | refine below_set ?_ GE115.out) | exact HB.out)⟩

-- NOT PRINTED: function 4 (laws_FnReadOid)

end Go.Proofs.YtfhefoaieefnkaaDoor.PFnReadOid
