-- The printed text of spec.ReadSub with some rows mended (mendrsub.py).
import Derived.Test.YtfhefoaieefnkaaDoorPFnReadAttributex0
import Derived.Test.YtfhefoaieefnkaaDoorPFnReadAttributex3
namespace Go.Proofs.YtfhefoaieefnkaaDoor.PFnReadAttribute
open Go.RowKit Go.Proofs.YtfhefoaieefnkaaDoorW.PrintWords Go.Proofs.YtfhefoaieefnkaaDoorW.PrintLast Go.Proofs.YtfhefoaieefnkaaDoorW.PrintMore
attribute [local go_sem] max2_int min2_int max_two min_two max_three min_three max_four min_four   -- for this text's walks alone
set_option linter.unusedVariables false
set_option linter.unusedSimpArgs false

/-! ### spec_ReadSub: function 60 -/
def spec_ReadSub.j0 : Nat → List Int → Int → Int → Option (Int × List Int × List Int × Int × Int)
  | 0, _, _, _ => none
  | k + 1, x0, x5, x6 => if x6 = 0 then (some (0, ([] : List Int), ([] : List Int), 0, 2)) else (if (wrap64 ((x0.length : Int) - x5)) < x6 then (some (0, ([] : List Int), ([] : List Int), 0, 1)) else (if 0 ≤ x5 then (if x5 < (x0.length : Int) then ((some (([] : List Int) : List Int)).bind fun y118 => (if x5 ≤ (x0.length : Int) then (if y118.length + (x0.take (x5 : Int).toNat).length < 140737488355328 then ((some (([] : List Int) : List Int)).bind fun y125 => (if 0 ≤ (wrap64 (x5 + 1)) then (if (wrap64 (x5 + 1)) ≤ (wrap64 (x5 + x6)) then (if (wrap64 (x5 + x6)) ≤ (x0.length : Int) then (if y125.length + ((x0.take ((wrap64 (x5 + x6)) : Int).toNat).drop ((wrap64 (x5 + 1)) : Int).toNat).length < 140737488355328 then (some (wrap64 (rd x0 x5), (y118 ++ (x0.take (x5 : Int).toNat)), (y125 ++ ((x0.take ((wrap64 (x5 + x6)) : Int).toNat).drop ((wrap64 (x5 + 1)) : Int).toNat)), wrap64 (x5 + x6), 0)) else (none)) else (none)) else (none)) else (none))) else (none)) else (none))) else (none)) else (none)))
def spec_ReadSub.f (k : Nat) (l0 : List Int) : Option (Int × List Int × List Int × Int × Int) := if (l0.length : Int) = 0 then (some (0, ([] : List Int), ([] : List Int), 0, 1)) else (if 0 < (l0.length : Int) then (if (wrap64 (rd l0 0)) = 255 then (if (l0.length : Int) < 5 then (some (0, ([] : List Int), ([] : List Int), 0, 1)) else (if 1 ≤ 5 then (if 5 ≤ (l0.length : Int) then ((spec_Number.f k ((l0.take 5).drop 1)).bind fun t115 => (spec_ReadSub.j0 k l0 5 t115)) else (none)) else (none))) else (if (wrap64 (rd l0 0)) ≥ 192 then (if (l0.length : Int) < 2 then (some (0, ([] : List Int), ([] : List Int), 0, 1)) else (if 1 < (l0.length : Int) then (spec_ReadSub.j0 k l0 2 (wrap64 ((wrap64 ((wrap64 ((wrap64 ((wrap64 (rd l0 0)) - 192)) * 256)) + (wrap64 (rd l0 1)))) + 192))) else (none))) else (spec_ReadSub.j0 k l0 1 (wrap64 (rd l0 0))))) else (none))
theorem spec_ReadSub.mono_l : ∀ k, (∀ y0 y1 y2, LeO (spec_ReadSub.j0 k y0 y1 y2) (spec_ReadSub.j0 (k + 1) y0 y1 y2))
  | 0 => fun _ _ _ r h => by simp [spec_ReadSub.j0] at h
  | k + 1 => by
    have ih0 := spec_ReadSub.mono_l k
    · intro y0 y1 y2
      unfold spec_ReadSub.j0
      repeat' first
      | (with_reducible exact ih0 _ _ _)
      | (with_reducible exact spec_Number.mono _ _)
      | (with_reducible exact LeO.refl _)
      | (with_reducible exact LeO.none _)
      | (with_reducible refine LeO.ite ?_ ?_)
      | (with_reducible refine LeO.bind ?_ (fun _ => ?_))
      | exact ih0 _ _ _
      | exact spec_Number.mono _ _
      | exact LeO.none _
      | refine LeO.ite ?_ ?_
      | refine LeO.bind ?_ (fun _ => ?_)
theorem spec_ReadSub.mono : ∀ a0 k, LeO (spec_ReadSub.f k a0) (spec_ReadSub.f (k + 1) a0) := by
  intro a0 k
  have ih0 := spec_ReadSub.mono_l k
  unfold spec_ReadSub.f
  repeat' first
      | (with_reducible exact ih0 _ _ _)
      | (with_reducible exact spec_Number.mono _ _)
      | (with_reducible exact LeO.refl _)
      | (with_reducible exact LeO.none _)
      | (with_reducible refine LeO.ite ?_ ?_)
      | (with_reducible refine LeO.bind ?_ (fun _ => ?_))
      | exact ih0 _ _ _
      | exact spec_Number.mono _ _
      | exact LeO.none _
      | refine LeO.ite ?_ ?_
      | refine LeO.bind ?_ (fun _ => ?_)
def spec_ReadSub.T11 : Bool × List (List Nat × List Nat) := (true, [([], []), ([0], [0]), ([1], [1]), ([], []), ([3], [3]), ([4], [4]), ([5], [5]), ([2, 6], [2, 6]), ([7], [7]), ([], []), ([8, 9, 0, 1, 2, 3, 4, 5, 6, 7, 8, 9], [0, 8])])
def spec_ReadSub.B11 : List Nat := [0, 1, 3, 0, 8, 24, 56, 127, 255, 0, 1023]
theorem spec_ReadSub.tab11 : rtab .any (opsOf Tryd.f60 11) = spec_ReadSub.T11 := by kernel_rfl
theorem spec_ReadSub.bits11 : waitsOk spec_ReadSub.T11.2 spec_ReadSub.B11 = true := by kernel_rfl
def spec_ReadSub.T16 : Bool × List (List Nat × List Nat) := (true, [([], []), ([], []), ([0, 1], [0, 1]), ([2], [2]), ([3], [3]), ([], []), ([], []), ([], []), ([6, 7], [6, 7]), ([5, 8], [5, 8]), ([], []), ([], []), ([], []), ([12], [12]), ([], []), ([], []), ([14, 15], [14, 15]), ([11, 13, 16], [11, 13, 16]), ([10, 17, 9], [10, 17]), ([4, 9, 18], [4, 9, 18]), ([19, 18, 0, 1, 2, 3, 4, 5, 6, 7, 8, 9, 10, 11, 12, 13, 14, 15, 16, 17, 18, 19], [19])])
def spec_ReadSub.B16 : List Nat := [0, 0, 3, 7, 15, 0, 0, 0, 192, 480, 0, 0, 0, 4096, 0, 0, 49152, 129024, 262112, 524287, 1048575]
theorem spec_ReadSub.tab16 : rtab .any (opsOf Tryd.f60 16) = spec_ReadSub.T16 := by kernel_rfl
theorem spec_ReadSub.bits16 : waitsOk spec_ReadSub.T16.2 spec_ReadSub.B16 = true := by kernel_rfl
set_option maxHeartbeats 8000000 in
set_option maxRecDepth 100000 in
theorem spec_ReadSub.calls (k : Nat) (A0 : Option Addr) (c0 : Nat) (l0 : List Int) (r1 : Int) (r2 : List Int) (r3 : List Int) (r4 : Int) (r5 : Int) (w : World) (hr0 : Kd.C (Kd.int .u8) w A0 l0.length l0) (hc0 : l0.length ≤ c0) (h : spec_ReadSub.f k l0 = some (r1, r2, r3, r4, r5)) :
    Calls Tryd.prog 60 #[.slice A0 l0.length c0] w fun e w' => ∃ v1_ v2_ : Value, e = .returned (.tuple #[.agg #[.int .i64 r1, v1_, v2_], .int .i64 r4, .int .i64 r5]) ∧ Kd.R (Kd.int .u8) 5 w' w.heap.size (fun k_ => some k_ ≠ (v2_ : Value).ownBlock) v1_ r2 ∧ Kd.R (Kd.int .u8) 5 w' w.heap.size (fun k_ => some k_ ≠ (v1_ : Value).ownBlock) v2_ r3 ∧ Below w.heap.size w w' := by
  have hu123 := Tryd.underlying123
  have HR0 := Aside0.mk hr0
  have HC0 := Aside0.mk hc0
  clear hr0 hc0
  have HB := Aside0.mk (Below.refl w.heap.size w)
  have H : (if (l0.length : Int) = 0 then (some (0, ([] : List Int), ([] : List Int), 0, 1)) else (if 0 < (l0.length : Int) then (if (wrap64 (rd l0 0)) = 255 then (if (l0.length : Int) < 5 then (some (0, ([] : List Int), ([] : List Int), 0, 1)) else (if 1 ≤ 5 then (if 5 ≤ (l0.length : Int) then ((spec_Number.f k ((l0.take 5).drop 1)).bind fun t115 => (spec_ReadSub.j0 k l0 5 t115)) else (none)) else (none))) else (if (wrap64 (rd l0 0)) ≥ 192 then (if (l0.length : Int) < 2 then (some (0, ([] : List Int), ([] : List Int), 0, 1)) else (if 1 < (l0.length : Int) then (spec_ReadSub.j0 k l0 2 (wrap64 ((wrap64 ((wrap64 ((wrap64 ((wrap64 (rd l0 0)) - 192)) * 256)) + (wrap64 (rd l0 1)))) + 192))) else (none))) else (spec_ReadSub.j0 k l0 1 (wrap64 (rd l0 0))))) else (none))) = some (r1, r2, r3, r4, r5) := h
  clear h
  by_cases c2 : (l0.length : Int) = 0
  · rw [if_pos c2] at H
    have c2b0 : ((l0.length : Int) == 0) = true := beq_iff_eq.mpr c2
    have c2b1 : ((l0.length : Int) != 0) = false := bne_eq_false_iff_eq.mpr c2
    clear c2
    simp only [Option.some.injEq, Prod.mk.injEq] at H
    obtain ⟨rfl, rfl, rfl, rfl, rfl⟩ := H
    go_enter Tryd.func60, Tryd.ntmps60
    go_wp2_with (first | ((with_reducible refine gate_dst (N := 2) rfl ?_); refine box_event ?hg (N := 2) ?hd (cs := #[.int .i64 0, .slice none 0 0, .slice none 0 0]) (t := 123) ?hr ?_; (case hd => rfl); (case hg => rfl); (case hr => first | (go_simp; done) | (go_simp; rfl)); intro gb112 hg w3 hbox hb; have n0_ := Aside0.mk (below_step (by repeat (first | (with_reducible first | exact HB.out | apply below_alloc | apply pw_below_drewN | apply below_drew1) | exact HB.out)) hb); have n1_ := Aside0.mk (hbox); have n2_ := Aside0.mk ((by rw [hg]; exact (below_size (by repeat (first | (with_reducible first | exact HB.out | apply below_alloc | apply pw_below_drewN | apply below_drew1) | exact HB.out))) : w.heap.size ≤ gb112)); have n3_ := Aside0.mk ((by rw [hg]; exact (below_size (by repeat (first | (with_reducible first | exact HB.out | apply below_alloc | apply pw_below_drewN | apply below_drew1) | exact HB.out))) : w.heap.size ≤ gb112)); clear HB; have HB := n0_; have BK112 := n1_; have GW112 := n2_; have GE112 := n3_; clear n0_ n1_ n2_ n3_; clear hb hbox hg; have hcz4_0 : w3.cell? ⟨gb112, 0, none⟩ = some (.int .i64 0) := (blk_cell BK112.out 0).trans rfl; have hcz4_1 : w3.cell? ⟨gb112, 1, none⟩ = some (.slice none 0 0) := (blk_cell BK112.out 1).trans rfl; have hcz4_2 : w3.cell? ⟨gb112, 2, none⟩ = some (.slice none 0 0) := (blk_cell BK112.out 2).trans rfl; have hfz4_0 := blk_frozen BK112.out 0; have hfz4_1 := blk_frozen BK112.out 1; have hfz4_2 := blk_frozen BK112.out 2))
    refine bodyPost_ret (results_ctt rfl _ _ gb112 123 #[.int .i64 0, .slice none 0 0, .slice none 0 0] (0, 0) _ rfl (by (with_reducible repeat (first | refine blk_drewN ?_ _ | refine blk_drew ?_ | refine blk_alloc ?_ _)); refine blk_put (cs := #[.int .i64 0, .slice none 0 0, .slice none 0 0]) ?_ 2 _ rfl; (with_reducible repeat (first | refine blk_drewN ?_ _ | refine blk_drew ?_ | refine blk_alloc ?_ _)); refine blk_put (cs := #[.int .i64 0, .slice none 0 0, .slice none 0 0]) ?_ 1 _ rfl; (with_reducible repeat (first | refine blk_drewN ?_ _ | refine blk_drew ?_ | refine blk_alloc ?_ _)); refine blk_put (cs := #[.int .i64 0, .slice none 0 0, .slice none 0 0]) ?_ 0 _ rfl; (with_reducible repeat (first | refine blk_drewN ?_ _ | refine blk_drew ?_ | refine blk_alloc ?_ _)); exact BK112.out) Tryd.underlying123 rfl (by kernel_rfl)) rfl ?_
    exact ⟨_, _, by first | rfl | (simp [errW_none, errW_some] <;> rfl) | (simp [*, errW_none, errW_some] <;> rfl), by first | exact Kd.R_nil _ _ _ _ _ | exact Kd.N_nil _ _ _ _ _ | exact Kd.V_nil _ _ _ _ _ | exact Kd.Q_nil _ _ _ _ _ | exact Kd.S_nil _ _ _ _ _, by first | exact Kd.R_nil _ _ _ _ _ | exact Kd.N_nil _ _ _ _ _ | exact Kd.V_nil _ _ _ _ _ | exact Kd.Q_nil _ _ _ _ _ | exact Kd.S_nil _ _ _ _ _, by repeat (first | (with_reducible first | exact HB.out | apply below_alloc | apply pw_below_drewN | apply below_drew1 | refine below_set ?_ GE112.out) | exact HB.out)⟩
  · rw [if_neg c2] at H
    have c2b0 : ((l0.length : Int) == 0) = false := beq_eq_false_iff_ne.mpr c2
    have c2b1 : ((l0.length : Int) != 0) = true := bne_iff_ne.mpr c2
    have c2b2 : ¬ (l0 = []) := fun h_ => c2 (by rw [h_]; rfl)
    by_cases c5 : 0 < (l0.length : Int)
    · rw [if_pos c5] at H
      have c5b0 : decide (0 < (l0.length : Int)) = true := decide_eq_true c5
      have c5b1 : decide (0 < l0.length) = true := decide_eq_true (by omega)
      clear c5
      have HC6 := Aside0.mk H
      clear H
      go_enter Tryd.func60, Tryd.ntmps60
      try go_wp2_with (first | ((with_reducible refine gate_dst (N := 2) rfl ?_); refine box_event ?hg (N := 2) ?hd (cs := #[.int .i64 0, .slice none 0 0, .slice none 0 0]) (t := 123) ?hr ?_; (case hd => rfl); (case hg => rfl); (case hr => first | (go_simp; done) | (go_simp; rfl)); intro gb112 hg w7 hbox hb; have n0_ := Aside0.mk (below_step (by repeat (first | (with_reducible first | exact HB.out | apply below_alloc | apply pw_below_drewN | apply below_drew1) | exact HB.out)) hb); have n1_ := Aside0.mk (hbox); have n2_ := Aside0.mk ((by rw [hg]; exact (below_size (by repeat (first | (with_reducible first | exact HB.out | apply below_alloc | apply pw_below_drewN | apply below_drew1) | exact HB.out))) : w.heap.size ≤ gb112)); have n3_ := Aside0.mk ((by rw [hg]; exact (below_size (by repeat (first | (with_reducible first | exact HB.out | apply below_alloc | apply pw_below_drewN | apply below_drew1) | exact HB.out))) : w.heap.size ≤ gb112)); clear HB; have HB := n0_; have BK112 := n1_; have GW112 := n2_; have GE112 := n3_; clear n0_ n1_ n2_ n3_; clear hb hbox hg))
      have n0_ := Aside0.mk (blk_drew BK112.out)
      have n1_ := Aside0.mk (below_drew1 HB.out)
      clear BK112
      clear HB
      have BK112 := n0_
      have HB := n1_
      clear n0_ n1_
      have p113 : 0 ≤ (0 : Int) := (by omega)
      have q113 : 0 < (l0.length : Int) := of_decide_eq_true (by first | (with_reducible assumption) | assumption)
      obtain ⟨ad113, e113, hx113_0⟩ := Kd.at_int HR0.out 0 p113 q113
      have hw113_0 := hx113_0
      (try rw [show ((0 : Int)).toNat = 0 from rfl] at hw113_0)
      (try rw [show 0 * 1 = 0 from rfl] at hw113_0)
      (try rw [Addr.add_zero'] at hw113_0)
      cases e113
      have qi113 : (0 < l0.length) = True := eq_true (by omega)
      (try rw [show ((0 : Int)).toNat = 0 from rfl] at hx113_0)
      (try rw [Addr.add_zero'] at hx113_0)
      replace hx113_0 := (HB.out.cell (World.block_lt_of_cell? w _ hx113_0)).trans hx113_0
      replace p113 := eq_true p113
      replace q113 := eq_true q113
      refine start_ (n := 6) (S := fun w' => w'.cell? ad113 = some (.int .u8 (rd l0 0))) (ds := []) #[false, false, false, false, false, false] (by kernel_rfl) rfl rfl (((HB.out.cell (World.block_lt_of_cell? w _ hw113_0)).trans hw113_0)) (fun hHeld => ?_)
      generalize w7.drew = w8 at BK112 HB hx113_0 hHeld ⊢
      refine pure_ (i := 0) (N := some 11) (v := ?_) (a' := ?_) #[true, false, false, false, false, false] rfl rfl (by kernel_rfl) (fun _ _ _ h => h) (Or.inl ⟨by rfl, ?_⟩) ?_ ?_
      rotate_left
      · intro w'
        go_simp
        with_reducible rfl
      rotate_left
      · simp only [Act.put, List.setIfInBounds_toArray, List.set_cons_zero, List.set_cons_succ, i64_w, i32_w]
        rfl
      refine pure_ (i := 1) (N := some 12) (v := ?_) (a' := ?_) #[true, true, false, false, false, false] rfl rfl (by kernel_rfl) (fun _ _ _ h => h) (Or.inl ⟨by rfl, ?_⟩) ?_ ?_
      rotate_left
      · intro w'
        go_simp
        with_reducible rfl
      rotate_left
      · simp only [Act.put, List.setIfInBounds_toArray, List.set_cons_zero, List.set_cons_succ, i64_w, i32_w]
        rfl
      refine pure_ (i := 4) (N := some 5) (v := ?_) (a' := ?_) #[true, true, false, false, true, false] rfl rfl (by kernel_rfl) (fun _ _ _ h => h) (Or.inl ⟨by rfl, ?_⟩) ?_ ?_
      rotate_left
      · intro w'
        go_simp
        with_reducible rfl
      rotate_left
      · simp only [Act.put, List.setIfInBounds_toArray, List.set_cons_zero, List.set_cons_succ, i64_w, i32_w]
        rfl
      refine take_ (i := 2) (N := some 13) (v := ?_) (a' := ?_) #[true, true, true, false, true, false] rfl rfl (by kernel_rfl) (fun _ _ _ h => h) (Or.inl ⟨by rfl, ?_⟩) hHeld ?_ ?_
      rotate_left
      · intro w' s0
        go_simp
        with_reducible rfl
      rotate_left
      · simp only [Act.put, List.setIfInBounds_toArray, List.set_cons_zero, List.set_cons_succ, i64_w, i32_w]
        rfl
      refine pure_ (i := 3) (N := some 14) (v := ?_) (a' := ?_) #[true, true, true, true, true, false] rfl rfl (by kernel_rfl) (fun _ _ _ h => h) (Or.inl ⟨by rfl, ?_⟩) ?_ ?_
      rotate_left
      · intro w'
        go_simp
        with_reducible rfl
      rotate_left
      · simp only [Act.put, List.setIfInBounds_toArray, List.set_cons_zero, List.set_cons_succ, i64_w, i32_w]
        rfl
      refine pure_ (i := 5) (N := some 6) (v := ?_) (a' := ?_) #[true, true, true, true, true, true] rfl rfl (by kernel_rfl) (fun _ _ _ h => h) (Or.inl ⟨by rfl, ?_⟩) ?_ ?_
      rotate_left
      · intro w'
        go_simp
        with_reducible rfl
      rotate_left
      · simp only [Act.put, List.setIfInBounds_toArray, List.set_cons_zero, List.set_cons_succ, i64_w, i32_w]
        rfl
      refine done_ (by kernel_rfl) ?_
      go_upto_block 0 with (fail)
      go_cut [5, 6] (fun v5 v6 wc => ∃ (kq : Nat) (x5_5 : Int) (x6_5 : Int) (x113000_5 : Int), v5 = .int .i64 x5_5 ∧ v6 = .int .i64 x6_5 ∧ Aside0 (spec_ReadSub.j0 kq l0 x5_5 x6_5 = some (r1, r2, r3, r4, r5)) ∧ Aside0 (kq ≤ k) ∧ Aside0 (wc.heap[gb112]? = some (.cells #[.int .i64 x113000_5, (.slice none 0 0), (.slice none 0 0)] 123 (0, 0))) ∧ Aside0 (Below w.heap.size w wc))
      case first =>
        have H := HC6.out
        clear HC6
        by_cases c9 : (wrap64 (rd l0 0)) = 255
        · rw [if_pos c9] at H
          have c9b0 : ((wrap64 (rd l0 0)) == 255) = true := beq_iff_eq.mpr c9
          have c9b1 : ((wrap64 (rd l0 0)) != 255) = false := bne_eq_false_iff_eq.mpr c9
          clear c9
          (first | rw [c9b0] | (simp only [i64_w, i32_w]; rw [c9b0]) | skip)
          by_cases c10 : (l0.length : Int) < 5
          · rw [if_pos c10] at H
            have c10b0 : decide ((l0.length : Int) < 5) = true := decide_eq_true c10
            have c10b1 : decide (l0.length < 5) = true := decide_eq_true (by omega)
            clear c10
            simp only [Option.some.injEq, Prod.mk.injEq] at H
            obtain ⟨rfl, rfl, rfl, rfl, rfl⟩ := H
            have hcz11_0 : w8.cell? ⟨gb112, 0, none⟩ = some (.int .i64 0) := (blk_cell BK112.out 0).trans rfl
            have hcz11_1 : w8.cell? ⟨gb112, 1, none⟩ = some (.slice none 0 0) := (blk_cell BK112.out 1).trans rfl
            have hcz11_2 : w8.cell? ⟨gb112, 2, none⟩ = some (.slice none 0 0) := (blk_cell BK112.out 2).trans rfl
            have hfz11_0 := blk_frozen BK112.out 0
            have hfz11_1 := blk_frozen BK112.out 1
            have hfz11_2 := blk_frozen BK112.out 2
            go_wp2
            refine bodyPost_ret (results_ctt rfl _ _ gb112 123 #[.int .i64 0, .slice none 0 0, .slice none 0 0] (0, 0) _ rfl (by (with_reducible repeat (first | refine blk_drewN ?_ _ | refine blk_drew ?_ | refine blk_alloc ?_ _)); refine blk_put (cs := #[.int .i64 0, .slice none 0 0, .slice none 0 0]) ?_ 2 _ rfl; (with_reducible repeat (first | refine blk_drewN ?_ _ | refine blk_drew ?_ | refine blk_alloc ?_ _)); refine blk_put (cs := #[.int .i64 0, .slice none 0 0, .slice none 0 0]) ?_ 1 _ rfl; (with_reducible repeat (first | refine blk_drewN ?_ _ | refine blk_drew ?_ | refine blk_alloc ?_ _)); refine blk_put (cs := #[.int .i64 0, .slice none 0 0, .slice none 0 0]) ?_ 0 _ rfl; (with_reducible repeat (first | refine blk_drewN ?_ _ | refine blk_drew ?_ | refine blk_alloc ?_ _)); exact BK112.out) Tryd.underlying123 rfl (by kernel_rfl)) rfl ?_
            exact ⟨_, _, by first | rfl | (simp [errW_none, errW_some] <;> rfl) | (simp [*, errW_none, errW_some] <;> rfl), by first | exact Kd.R_nil _ _ _ _ _ | exact Kd.N_nil _ _ _ _ _ | exact Kd.V_nil _ _ _ _ _ | exact Kd.Q_nil _ _ _ _ _ | exact Kd.S_nil _ _ _ _ _, by first | exact Kd.R_nil _ _ _ _ _ | exact Kd.N_nil _ _ _ _ _ | exact Kd.V_nil _ _ _ _ _ | exact Kd.Q_nil _ _ _ _ _ | exact Kd.S_nil _ _ _ _ _, by repeat (first | (with_reducible first | exact HB.out | apply below_alloc | apply pw_below_drewN | apply below_drew1 | refine below_set ?_ GE112.out) | exact HB.out)⟩
          · rw [if_neg c10] at H
            have c10b0 : decide ((l0.length : Int) < 5) = false := decide_eq_false c10
            have c10b1 : decide (l0.length < 5) = false := decide_eq_false (by omega)
            clear c10
            by_cases c12 : 1 ≤ 5
            · rw [if_pos c12] at H
              have c12b0 := eq_true c12
              have c12b1 : decide (1 ≤ 5) = true := decide_eq_true c12
              clear c12
              by_cases c13 : 5 ≤ (l0.length : Int)
              · rw [if_pos c13] at H
                have c13b0 := eq_true c13
                have c13b1 : decide (5 ≤ (l0.length : Int)) = true := decide_eq_true c13
                clear c13
                replace H := Option.bind_eq_some_iff.mp H
                obtain ⟨t115, A140, H⟩ := H
                replace H : (spec_ReadSub.j0 k l0 5 t115) = some (r1, r2, r3, r4, r5) := H
                have A14 := Aside0.mk A140
                clear A140
                have H' := Aside0.mk H
                clear H
                obtain ⟨i015, hi015, _, hsz15, _⟩ := info_parts info5
                obtain ⟨A15, hcut15, hA15, hC15⟩ := print_mid_of (P := Tryd.prog) (Value.int .u8) 0 22 5 .i64 .i64 Tryd.underlying22 hi015 hsz15 (some ad113) c0 l0 1 5 (by omega) (by first | omega | exact of_decide_eq_true (by first | (with_reducible assumption) | assumption)) (of_decide_eq_true (by first | (with_reducible assumption) | assumption)) HC0.out
                have HR114 := Aside0.mk (Kd.C_of_reads (h1 := fun _ => rfl) (hA15 _ (Kd.reads_of_C HR0.out)))
                have HC114 := Aside0.mk hC15
                clear hA15 hC15 hi015 hsz15
                go_wp2_with (first | ((with_reducible refine gate_callee (f := 47) rfl ?_); refine goesL_ (some 24) rfl rfl Tryd.func47 (by kernel_rfl) rfl #[.slice A15 ((l0.take 5).drop 1).length (c0 - 1)] rfl (by (try simp only [List.map_toArray, List.map_cons, List.map_nil]); first | done | (rw [show ((l0.take 5).drop 1).length = (5 - 1) from (by rw [List.length_drop, List.length_take]; have h_ : (5 : Int) ≤ (l0.length : Int) := of_decide_eq_true (by first | (with_reducible assumption) | assumption); omega)] <;> rfl) | rfl | (simp only [List.length_drop, List.length_take]; rfl)) ?_; (with_reducible refine (spec_Number.calls k _ _ ((l0.take 5).drop 1) t115 _ ?side1 ?side2 A14.out).mono ?_); (case side1 => repeat (first | exact (Kd.C_below HR114.out HB.out) | (with_reducible refine Kd.C_alloc ?_ _) | (with_reducible refine Kd.C_drewN ?_ _) | (with_reducible refine Kd.C_drew ?_))); (case side2 => exact HC114.out); rintro e w' ⟨rfl, ⟨nd, rfl⟩⟩; refine ⟨_, rfl, ?_⟩))
                go_meet
                case rel => exact ⟨_, (5), (t115), (0), (by first | rfl | (simp; done) | (simp [*]; done)), (by first | rfl | (simp; done) | (simp [*]; done)), H', ⟨by first | omega | exact Nat.le_refl _⟩, ⟨by (with_reducible repeat (first | refine blk_drewN ?_ _ | refine blk_drew ?_ | refine blk_alloc ?_ _)); exact BK112.out⟩, ⟨by repeat (first | (with_reducible first | exact HB.out | apply below_alloc | apply pw_below_drewN | apply below_drew1 | refine below_set ?_ GE112.out) | exact HB.out)⟩⟩
              · rw [if_neg c13] at H
                exact absurd H (by simp)
            · rw [if_neg c12] at H
              exact absurd H (by simp)
        · rw [if_neg c9] at H
          have c9b0 : ((wrap64 (rd l0 0)) == 255) = false := beq_eq_false_iff_ne.mpr c9
          have c9b1 : ((wrap64 (rd l0 0)) != 255) = true := bne_iff_ne.mpr c9
          (first | rw [c9b0] | (simp only [i64_w, i32_w]; rw [c9b0]) | skip)
          by_cases c16 : (wrap64 (rd l0 0)) ≥ 192
          · rw [if_pos c16] at H
            have c16b0 : decide (192 ≤ (wrap64 (rd l0 0))) = true := decide_eq_true c16
            clear c16
            by_cases c17 : (l0.length : Int) < 2
            · rw [if_pos c17] at H
              have c17b0 : decide ((l0.length : Int) < 2) = true := decide_eq_true c17
              have c17b1 : decide (l0.length < 2) = true := decide_eq_true (by omega)
              clear c17
              simp only [Option.some.injEq, Prod.mk.injEq] at H
              obtain ⟨rfl, rfl, rfl, rfl, rfl⟩ := H
              have hcz18_0 : w8.cell? ⟨gb112, 0, none⟩ = some (.int .i64 0) := (blk_cell BK112.out 0).trans rfl
              have hcz18_1 : w8.cell? ⟨gb112, 1, none⟩ = some (.slice none 0 0) := (blk_cell BK112.out 1).trans rfl
              have hcz18_2 : w8.cell? ⟨gb112, 2, none⟩ = some (.slice none 0 0) := (blk_cell BK112.out 2).trans rfl
              have hfz18_0 := blk_frozen BK112.out 0
              have hfz18_1 := blk_frozen BK112.out 1
              have hfz18_2 := blk_frozen BK112.out 2
              go_wp2
              refine bodyPost_ret (results_ctt rfl _ _ gb112 123 #[.int .i64 0, .slice none 0 0, .slice none 0 0] (0, 0) _ rfl (by (with_reducible repeat (first | refine blk_drewN ?_ _ | refine blk_drew ?_ | refine blk_alloc ?_ _)); refine blk_put (cs := #[.int .i64 0, .slice none 0 0, .slice none 0 0]) ?_ 2 _ rfl; (with_reducible repeat (first | refine blk_drewN ?_ _ | refine blk_drew ?_ | refine blk_alloc ?_ _)); refine blk_put (cs := #[.int .i64 0, .slice none 0 0, .slice none 0 0]) ?_ 1 _ rfl; (with_reducible repeat (first | refine blk_drewN ?_ _ | refine blk_drew ?_ | refine blk_alloc ?_ _)); refine blk_put (cs := #[.int .i64 0, .slice none 0 0, .slice none 0 0]) ?_ 0 _ rfl; (with_reducible repeat (first | refine blk_drewN ?_ _ | refine blk_drew ?_ | refine blk_alloc ?_ _)); exact BK112.out) Tryd.underlying123 rfl (by kernel_rfl)) rfl ?_
              exact ⟨_, _, by first | rfl | (simp [errW_none, errW_some] <;> rfl) | (simp [*, errW_none, errW_some] <;> rfl), by first | exact Kd.R_nil _ _ _ _ _ | exact Kd.N_nil _ _ _ _ _ | exact Kd.V_nil _ _ _ _ _ | exact Kd.Q_nil _ _ _ _ _ | exact Kd.S_nil _ _ _ _ _, by first | exact Kd.R_nil _ _ _ _ _ | exact Kd.N_nil _ _ _ _ _ | exact Kd.V_nil _ _ _ _ _ | exact Kd.Q_nil _ _ _ _ _ | exact Kd.S_nil _ _ _ _ _, by repeat (first | (with_reducible first | exact HB.out | apply below_alloc | apply pw_below_drewN | apply below_drew1 | refine below_set ?_ GE112.out) | exact HB.out)⟩
            · rw [if_neg c17] at H
              have c17b0 : decide ((l0.length : Int) < 2) = false := decide_eq_false c17
              have c17b1 : decide (l0.length < 2) = false := decide_eq_false (by omega)
              clear c17
              by_cases c19 : 1 < (l0.length : Int)
              · rw [if_pos c19] at H
                have c19b0 : decide (1 < (l0.length : Int)) = true := decide_eq_true c19
                have c19b1 : decide (1 < l0.length) = true := decide_eq_true (by omega)
                clear c19
                have H' := Aside0.mk H
                clear H
                try go_wp2
                have n0_ := Aside0.mk (blk_drew BK112.out)
                have n1_ := Aside0.mk (below_drew1 HB.out)
                clear BK112
                clear HB
                have BK112 := n0_
                have HB := n1_
                clear n0_ n1_
                have p116 : 0 ≤ (1 : Int) := (by omega)
                have q116 : 1 < (l0.length : Int) := of_decide_eq_true (by first | (with_reducible assumption) | assumption)
                obtain ⟨ad116, e116, hx116_0⟩ := Kd.at_int HR0.out 1 p116 q116
                have hw116_0 := hx116_0
                (try rw [show ((1 : Int)).toNat = 1 from rfl] at hw116_0)
                (try rw [show 1 * 1 = 1 from rfl] at hw116_0)
                (try simp only [Nat.reduceMul, Nat.reduceEqDiff, Go.Addr.add, ↓reduceIte] at hw116_0)
                obtain rfl : ad113 = ad116 := (by injection e116)
                (try simp only [show (1 : Int).toNat = 1 from rfl, Nat.reduceMul, Nat.reduceEqDiff, Go.Addr.add, ↓reduceIte] at hx116_0)
                have qi116 : (1 < l0.length) = True := eq_true (by omega)
                (try rw [show ((1 : Int)).toNat = 1 from rfl] at hx116_0)
                replace hx116_0 := (HB.out.cell (World.block_lt_of_cell? w _ hx116_0)).trans hx116_0
                replace p116 := eq_true p116
                replace q116 := eq_true q116
                refine start_ (n := 11) (S := fun w' => w'.cell? ⟨ad113.block, ad113.off + 1, none⟩ = some (.int .u8 (rd l0 1))) (ds := []) #[false, false, false, false, false, false, false, false, false, false, false] (by kernel_rfl) rfl rfl (((HB.out.cell (World.block_lt_of_cell? w _ hw116_0)).trans hw116_0)) (fun hHeld => ?_); refine with_tabW spec_ReadSub.tab11 spec_ReadSub.bits11 (fun HT_ HW_ => ?_)
                generalize w8.drew = w20 at BK112 HB hx116_0 hHeld ⊢
                refine pure_ (i := 0) (N := some 32) (v := ?_) (a' := ?_) #[true, false, false, false, false, false, false, false, false, false, false] rfl rfl (any_of HT_.out (by kernel_rfl)) (fun _ _ _ h => h) (Or.inl ⟨by rfl, ?_⟩) ?_ ?_
                rotate_left
                · intro w'
                  go_simp
                  with_reducible rfl
                rotate_left
                · simp only [Act.put, List.setIfInBounds_toArray, List.set_cons_zero, List.set_cons_succ, i64_w, i32_w]
                  rfl
                refine pure_ (i := 1) (N := some 33) (v := ?_) (a' := ?_) #[true, true, false, false, false, false, false, false, false, false, false] rfl rfl (any_of HT_.out (by kernel_rfl)) (fun _ _ _ h => h) (Or.inl ⟨by rfl, ?_⟩) ?_ ?_
                rotate_left
                · intro w'
                  go_simp
                  with_reducible rfl
                rotate_left
                · simp only [Act.put, List.setIfInBounds_toArray, List.set_cons_zero, List.set_cons_succ, i64_w, i32_w]
                  rfl
                refine pure_ (i := 2) (N := some 34) (v := ?_) (a' := ?_) #[true, true, true, false, false, false, false, false, false, false, false] rfl rfl (any_of HT_.out (by kernel_rfl)) (fun _ _ _ h => h) (Or.inl ⟨by rfl, ?_⟩) ?_ ?_
                rotate_left
                · intro w'
                  go_simp
                  with_reducible rfl
                rotate_left
                · simp only [Act.put, List.setIfInBounds_toArray, List.set_cons_zero, List.set_cons_succ, i64_w, i32_w]
                  rfl
                refine pure_ (i := 3) (N := some 35) (v := ?_) (a' := ?_) #[true, true, true, true, false, false, false, false, false, false, false] rfl rfl (any_of HT_.out (by kernel_rfl)) (fun _ _ _ h => h) (Or.inl ⟨by rfl, ?_⟩) ?_ ?_
                rotate_left
                · intro w'
                  go_simp
                  with_reducible rfl
                rotate_left
                · simp only [Act.put, List.setIfInBounds_toArray, List.set_cons_zero, List.set_cons_succ, i64_w, i32_w]
                  rfl
                refine pure_ (i := 4) (N := some 36) (v := ?_) (a' := ?_) #[true, true, true, true, true, false, false, false, false, false, false] rfl rfl (any_of HT_.out (by kernel_rfl)) (fun _ _ _ h => h) (Or.inl ⟨by rfl, ?_⟩) ?_ ?_
                rotate_left
                · intro w'
                  go_simp
                  with_reducible rfl
                rotate_left
                · simp only [Act.put, List.setIfInBounds_toArray, List.set_cons_zero, List.set_cons_succ, i64_w, i32_w]
                  rfl
                refine pure_ (i := 9) (N := some 5) (v := ?_) (a' := ?_) #[true, true, true, true, true, false, false, false, false, true, false] rfl rfl (any_of HT_.out (by kernel_rfl)) (fun _ _ _ h => h) (Or.inl ⟨by rfl, ?_⟩) ?_ ?_
                rotate_left
                · intro w'
                  go_simp
                  with_reducible rfl
                rotate_left
                · simp only [Act.put, List.setIfInBounds_toArray, List.set_cons_zero, List.set_cons_succ, i64_w, i32_w]
                  rfl
                refine take_ (i := 5) (N := some 37) (v := ?_) (a' := ?_) #[true, true, true, true, true, true, false, false, false, true, false] rfl rfl (take_ofW HT_.out HW_.out (by kernel_rfl)) (fun _ _ _ h => h) (Or.inl ⟨by rfl, ?_⟩) hHeld ?_ ?_
                rotate_left
                · intro w' s0
                  go_simp
                  with_reducible rfl
                rotate_left
                · simp only [Act.put, List.setIfInBounds_toArray, List.set_cons_zero, List.set_cons_succ, i64_w, i32_w]
                  rfl
                refine pure_ (i := 6) (N := some 38) (v := ?_) (a' := ?_) #[true, true, true, true, true, true, true, false, false, true, false] rfl rfl (any_of HT_.out (by kernel_rfl)) (fun _ _ _ h => h) (Or.inl ⟨by rfl, ?_⟩) ?_ ?_
                rotate_left
                · intro w'
                  go_simp
                  with_reducible rfl
                rotate_left
                · simp only [Act.put, List.setIfInBounds_toArray, List.set_cons_zero, List.set_cons_succ, i64_w, i32_w]
                  rfl
                refine pure_ (i := 7) (N := some 39) (v := ?_) (a' := ?_) #[true, true, true, true, true, true, true, true, false, true, false] rfl rfl (any_of HT_.out (by kernel_rfl)) (fun _ _ _ h => h) (Or.inl ⟨by rfl, ?_⟩) ?_ ?_
                rotate_left
                · intro w'
                  go_simp
                  with_reducible rfl
                rotate_left
                · simp only [Act.put, List.setIfInBounds_toArray, List.set_cons_zero, List.set_cons_succ, i64_w, i32_w]
                  rfl
                refine pure_ (i := 8) (N := some 40) (v := ?_) (a' := ?_) #[true, true, true, true, true, true, true, true, true, true, false] rfl rfl (any_of HT_.out (by kernel_rfl)) (fun _ _ _ h => h) (Or.inl ⟨by rfl, ?_⟩) ?_ ?_
                rotate_left
                · intro w'
                  go_simp
                  with_reducible rfl
                rotate_left
                · simp only [Act.put, List.setIfInBounds_toArray, List.set_cons_zero, List.set_cons_succ, i64_w, i32_w]
                  rfl
                refine pure_ (i := 10) (N := some 6) (v := ?_) (a' := ?_) #[true, true, true, true, true, true, true, true, true, true, true] rfl rfl (any_of HT_.out (by kernel_rfl)) (fun _ _ _ h => h) (Or.inl ⟨by rfl, ?_⟩) ?_ ?_
                rotate_left
                · intro w'
                  go_simp
                  with_reducible rfl
                rotate_left
                · simp only [Act.put, List.setIfInBounds_toArray, List.set_cons_zero, List.set_cons_succ, i64_w, i32_w]
                  rfl
                refine done_ (done_of HT_.out (by kernel_rfl)) ?_
                try go_wp2
                go_meet
                case rel => exact ⟨_, (2), (wrap64 ((wrap64 ((wrap64 ((wrap64 ((wrap64 (rd l0 0)) - 192)) * 256)) + (wrap64 (rd l0 1)))) + 192)), (0), (by first | rfl | (simp; done) | (simp [*]; done)), (by first | rfl | (simp; done) | (simp [*]; done)), H', ⟨by first | omega | exact Nat.le_refl _⟩, ⟨by (with_reducible repeat (first | refine blk_drewN ?_ _ | refine blk_drew ?_ | refine blk_alloc ?_ _)); exact BK112.out⟩, ⟨by repeat (first | (with_reducible first | exact HB.out | apply below_alloc | apply pw_below_drewN | apply below_drew1 | refine below_set ?_ GE112.out) | exact HB.out)⟩⟩
              · rw [if_neg c19] at H
                exact absurd H (by simp)
          · rw [if_neg c16] at H
            have c16b0 : decide (192 ≤ (wrap64 (rd l0 0))) = false := decide_eq_false c16
            clear c16
            have H' := Aside0.mk H
            clear H
            go_wp2
            go_meet
            case rel => exact ⟨_, (1), (wrap64 (rd l0 0)), (0), (by first | rfl | (simp; done) | (simp [*]; done)), (by first | rfl | (simp; done) | (simp [*]; done)), H', ⟨by first | omega | exact Nat.le_refl _⟩, ⟨by (with_reducible repeat (first | refine blk_drewN ?_ _ | refine blk_drew ?_ | refine blk_alloc ?_ _)); exact BK112.out⟩, ⟨by repeat (first | (with_reducible first | exact HB.out | apply below_alloc | apply pw_below_drewN | apply below_drew1 | refine below_set ?_ GE112.out) | exact HB.out)⟩⟩
      case rest =>
        clear HC6
        try clear c1
        try clear p1
        try clear q1
        try clear hx1
        try clear qi1
        try clear c2
        try clear c2b0
        try clear c2b1
        try clear c2b2
        try clear p2
        try clear c4
        try clear c5
        try clear c5b0
        try clear c5b1
        try clear c6
        try clear p6
        try clear c9
        try clear c9b0
        try clear c9b1
        try clear c10
        try clear c10b0
        try clear c10b1
        try clear p11
        try clear q11
        try clear hx11
        try clear qi11
        try clear c12
        try clear c12b0
        try clear c12b1
        try clear c13
        try clear c13b0
        try clear c13b1
        try clear c16
        try clear c16b0
        try clear c17
        try clear c17b0
        try clear c17b1
        try clear c19
        try clear c19b0
        try clear c19b1
        try clear hcz11_0
        try clear hcz11_1
        try clear hcz11_2
        try clear hcz18_0
        try clear hcz18_1
        try clear hcz18_2
        try clear hcz4_0
        try clear hcz4_1
        try clear hcz4_2
        try clear hfz11_0
        try clear hfz11_1
        try clear hfz11_2
        try clear hfz18_0
        try clear hfz18_1
        try clear hfz18_2
        try clear hfz4_0
        try clear hfz4_1
        try clear hfz4_2
        try clear hx113_0
        try clear hx116_0
        try clear p113
        try clear p116
        try clear q113
        try clear q116
        obtain ⟨kq, x5_5, x6_5, x113000_5, rfl, rfl, HA, HJ5, BK112, HB⟩ := hcut
        cases kq with
        | zero => exact absurd HA.out (by simp [spec_ReadSub.j0])
        | succ kj5 =>
          have H := HA.out
          clear HA
          simp only [spec_ReadSub.j0] at H
          by_cases c21 : x6_5 = 0
          · rw [if_pos c21] at H
            have c21b0 : (x6_5 == 0) = true := beq_iff_eq.mpr c21
            have c21b1 : (x6_5 != 0) = false := bne_eq_false_iff_eq.mpr c21
            clear c21
            simp only [Option.some.injEq, Prod.mk.injEq] at H
            obtain ⟨rfl, rfl, rfl, rfl, rfl⟩ := H
            have hcz22_0 : wc.cell? ⟨gb112, 0, none⟩ = some (.int .i64 x113000_5) := (blk_cell BK112.out 0).trans rfl
            have hcz22_1 : wc.cell? ⟨gb112, 1, none⟩ = some (.slice none 0 0) := (blk_cell BK112.out 1).trans rfl
            have hcz22_2 : wc.cell? ⟨gb112, 2, none⟩ = some (.slice none 0 0) := (blk_cell BK112.out 2).trans rfl
            have hfz22_0 := blk_frozen BK112.out 0
            have hfz22_1 := blk_frozen BK112.out 1
            have hfz22_2 := blk_frozen BK112.out 2
            go_wp2
            refine bodyPost_ret (results_ctt rfl _ _ gb112 123 #[.int .i64 0, .slice none 0 0, .slice none 0 0] (0, 0) _ rfl (by (with_reducible repeat (first | refine blk_drewN ?_ _ | refine blk_drew ?_ | refine blk_alloc ?_ _)); refine blk_put (cs := #[.int .i64 0, .slice none 0 0, .slice none 0 0]) ?_ 2 _ rfl; (with_reducible repeat (first | refine blk_drewN ?_ _ | refine blk_drew ?_ | refine blk_alloc ?_ _)); refine blk_put (cs := #[.int .i64 0, .slice none 0 0, .slice none 0 0]) ?_ 1 _ rfl; (with_reducible repeat (first | refine blk_drewN ?_ _ | refine blk_drew ?_ | refine blk_alloc ?_ _)); refine blk_put (cs := #[.int .i64 x113000_5, .slice none 0 0, .slice none 0 0]) ?_ 0 _ rfl; (with_reducible repeat (first | refine blk_drewN ?_ _ | refine blk_drew ?_ | refine blk_alloc ?_ _)); exact BK112.out) Tryd.underlying123 rfl (by kernel_rfl)) rfl ?_
            exact ⟨_, _, by first | rfl | (simp [errW_none, errW_some] <;> rfl) | (simp [*, errW_none, errW_some] <;> rfl), by first | exact Kd.R_nil _ _ _ _ _ | exact Kd.N_nil _ _ _ _ _ | exact Kd.V_nil _ _ _ _ _ | exact Kd.Q_nil _ _ _ _ _ | exact Kd.S_nil _ _ _ _ _, by first | exact Kd.R_nil _ _ _ _ _ | exact Kd.N_nil _ _ _ _ _ | exact Kd.V_nil _ _ _ _ _ | exact Kd.Q_nil _ _ _ _ _ | exact Kd.S_nil _ _ _ _ _, by repeat (first | (with_reducible first | exact HB.out | apply below_alloc | apply pw_below_drewN | apply below_drew1 | refine below_set ?_ GE112.out) | exact HB.out)⟩
          · rw [if_neg c21] at H
            have c21b0 : (x6_5 == 0) = false := beq_eq_false_iff_ne.mpr c21
            have c21b1 : (x6_5 != 0) = true := bne_iff_ne.mpr c21
            by_cases c23 : (wrap64 ((l0.length : Int) - x5_5)) < x6_5
            · rw [if_pos c23] at H
              have c23b0 : decide ((wrap64 ((l0.length : Int) - x5_5)) < x6_5) = true := decide_eq_true c23
              clear c23
              simp only [Option.some.injEq, Prod.mk.injEq] at H
              obtain ⟨rfl, rfl, rfl, rfl, rfl⟩ := H
              have hcz24_0 : wc.cell? ⟨gb112, 0, none⟩ = some (.int .i64 x113000_5) := (blk_cell BK112.out 0).trans rfl
              have hcz24_1 : wc.cell? ⟨gb112, 1, none⟩ = some (.slice none 0 0) := (blk_cell BK112.out 1).trans rfl
              have hcz24_2 : wc.cell? ⟨gb112, 2, none⟩ = some (.slice none 0 0) := (blk_cell BK112.out 2).trans rfl
              have hfz24_0 := blk_frozen BK112.out 0
              have hfz24_1 := blk_frozen BK112.out 1
              have hfz24_2 := blk_frozen BK112.out 2
              go_wp2
              refine bodyPost_ret (results_ctt rfl _ _ gb112 123 #[.int .i64 0, .slice none 0 0, .slice none 0 0] (0, 0) _ rfl (by (with_reducible repeat (first | refine blk_drewN ?_ _ | refine blk_drew ?_ | refine blk_alloc ?_ _)); refine blk_put (cs := #[.int .i64 0, .slice none 0 0, .slice none 0 0]) ?_ 2 _ rfl; (with_reducible repeat (first | refine blk_drewN ?_ _ | refine blk_drew ?_ | refine blk_alloc ?_ _)); refine blk_put (cs := #[.int .i64 0, .slice none 0 0, .slice none 0 0]) ?_ 1 _ rfl; (with_reducible repeat (first | refine blk_drewN ?_ _ | refine blk_drew ?_ | refine blk_alloc ?_ _)); refine blk_put (cs := #[.int .i64 x113000_5, .slice none 0 0, .slice none 0 0]) ?_ 0 _ rfl; (with_reducible repeat (first | refine blk_drewN ?_ _ | refine blk_drew ?_ | refine blk_alloc ?_ _)); exact BK112.out) Tryd.underlying123 rfl (by kernel_rfl)) rfl ?_
              exact ⟨_, _, by first | rfl | (simp [errW_none, errW_some] <;> rfl) | (simp [*, errW_none, errW_some] <;> rfl), by first | exact Kd.R_nil _ _ _ _ _ | exact Kd.N_nil _ _ _ _ _ | exact Kd.V_nil _ _ _ _ _ | exact Kd.Q_nil _ _ _ _ _ | exact Kd.S_nil _ _ _ _ _, by first | exact Kd.R_nil _ _ _ _ _ | exact Kd.N_nil _ _ _ _ _ | exact Kd.V_nil _ _ _ _ _ | exact Kd.Q_nil _ _ _ _ _ | exact Kd.S_nil _ _ _ _ _, by repeat (first | (with_reducible first | exact HB.out | apply below_alloc | apply pw_below_drewN | apply below_drew1 | refine below_set ?_ GE112.out) | exact HB.out)⟩
            · rw [if_neg c23] at H
              have c23b0 : decide ((wrap64 ((l0.length : Int) - x5_5)) < x6_5) = false := decide_eq_false c23
              clear c23
              by_cases c25 : 0 ≤ x5_5
              · rw [if_pos c25] at H
                have c25b0 : decide (0 ≤ x5_5) = true := decide_eq_true c25
                clear c25
                by_cases c26 : x5_5 < (l0.length : Int)
                · rw [if_pos c26] at H
                  have c26b0 : decide (x5_5 < (l0.length : Int)) = true := decide_eq_true c26
                  clear c26
                  obtain ⟨y118, hy118⟩ : ∃ y_ : List Int, y_ = (([] : List Int)) := ⟨_, rfl⟩
                  replace H : (if x5_5 ≤ (l0.length : Int) then (if y118.length + (l0.take (x5_5 : Int).toNat).length < 140737488355328 then ((some (([] : List Int) : List Int)).bind fun y125 => (if 0 ≤ (wrap64 (x5_5 + 1)) then (if (wrap64 (x5_5 + 1)) ≤ (wrap64 (x5_5 + x6_5)) then (if (wrap64 (x5_5 + x6_5)) ≤ (l0.length : Int) then (if y125.length + ((l0.take ((wrap64 (x5_5 + x6_5)) : Int).toNat).drop ((wrap64 (x5_5 + 1)) : Int).toNat).length < 140737488355328 then (some (wrap64 (rd l0 x5_5), (y118 ++ (l0.take (x5_5 : Int).toNat)), (y125 ++ ((l0.take ((wrap64 (x5_5 + x6_5)) : Int).toNat).drop ((wrap64 (x5_5 + 1)) : Int).toNat)), wrap64 (x5_5 + x6_5), 0)) else (none)) else (none)) else (none)) else (none))) else (none)) else (none)) = some (r1, r2, r3, r4, r5) := by first | (rw [hy118]; with_reducible exact H) | (have H2_ := (Option.bind_some _ _).symm.trans H; rw [hy118]; with_reducible exact H2_) | (have H2_ := (Option.bind_some _ _).symm.trans H; with_reducible exact H2_) | with_reducible exact H | (rw [hy118]; exact H) | exact H
                  have Ny118 := Aside0.mk hy118
                  clear hy118
                  have c27b0 := eq_true (of_decide_eq_true (by first | (with_reducible assumption) | assumption) : 0 ≤ x5_5)
                  by_cases c28 : x5_5 ≤ (l0.length : Int)
                  · rw [if_pos c28] at H
                    have c28b0 := eq_true c28
                    have c28b1 : decide (x5_5 ≤ (l0.length : Int)) = true := decide_eq_true c28
                    clear c28
                    by_cases c29 : y118.length + (l0.take (x5_5 : Int).toNat).length < 140737488355328
                    · rw [if_pos c29] at H
                      have LMc29 := Aside0.mk c29
                      clear c29
                      obtain ⟨y122, hy122⟩ : ∃ y_ : List Int, y_ = (y118 ++ (l0.take (x5_5 : Int).toNat)) := ⟨_, rfl⟩
                      replace H : ((some (([] : List Int) : List Int)).bind fun y125 => (if 0 ≤ (wrap64 (x5_5 + 1)) then (if (wrap64 (x5_5 + 1)) ≤ (wrap64 (x5_5 + x6_5)) then (if (wrap64 (x5_5 + x6_5)) ≤ (l0.length : Int) then (if y125.length + ((l0.take ((wrap64 (x5_5 + x6_5)) : Int).toNat).drop ((wrap64 (x5_5 + 1)) : Int).toNat).length < 140737488355328 then (some (wrap64 (rd l0 x5_5), y122, (y125 ++ ((l0.take ((wrap64 (x5_5 + x6_5)) : Int).toNat).drop ((wrap64 (x5_5 + 1)) : Int).toNat)), wrap64 (x5_5 + x6_5), 0)) else (none)) else (none)) else (none)) else (none))) = some (r1, r2, r3, r4, r5) := by first | (rw [hy122]; with_reducible exact H) | (have H2_ := (Option.bind_some _ _).symm.trans H; rw [hy122]; with_reducible exact H2_) | (have H2_ := (Option.bind_some _ _).symm.trans H; with_reducible exact H2_) | with_reducible exact H | (rw [hy122]; exact H) | exact H
                      have Ny122 := Aside0.mk hy122
                      clear hy122
                      obtain ⟨y125, hy125⟩ : ∃ y_ : List Int, y_ = (([] : List Int)) := ⟨_, rfl⟩
                      replace H : (if 0 ≤ (wrap64 (x5_5 + 1)) then (if (wrap64 (x5_5 + 1)) ≤ (wrap64 (x5_5 + x6_5)) then (if (wrap64 (x5_5 + x6_5)) ≤ (l0.length : Int) then (if y125.length + ((l0.take ((wrap64 (x5_5 + x6_5)) : Int).toNat).drop ((wrap64 (x5_5 + 1)) : Int).toNat).length < 140737488355328 then (some (wrap64 (rd l0 x5_5), y122, (y125 ++ ((l0.take ((wrap64 (x5_5 + x6_5)) : Int).toNat).drop ((wrap64 (x5_5 + 1)) : Int).toNat)), wrap64 (x5_5 + x6_5), 0)) else (none)) else (none)) else (none)) else (none)) = some (r1, r2, r3, r4, r5) := by first | (rw [hy125]; with_reducible exact H) | (have H2_ := (Option.bind_some _ _).symm.trans H; rw [hy125]; with_reducible exact H2_) | (have H2_ := (Option.bind_some _ _).symm.trans H; with_reducible exact H2_) | with_reducible exact H | (rw [hy125]; exact H) | exact H
                      have Ny125 := Aside0.mk hy125
                      clear hy125
                      obtain ⟨ji30, hji30⟩ : ∃ j_ : Int, (wrap64 (x5_5 + 1)) = j_ := ⟨_, rfl⟩
                      replace H : (if 0 ≤ (ji30) then (if (ji30) ≤ (wrap64 (x5_5 + x6_5)) then (if (wrap64 (x5_5 + x6_5)) ≤ (l0.length : Int) then (if y125.length + ((l0.take ((wrap64 (x5_5 + x6_5)) : Int).toNat).drop ((ji30) : Int).toNat).length < 140737488355328 then (some (wrap64 (rd l0 x5_5), y122, (y125 ++ ((l0.take ((wrap64 (x5_5 + x6_5)) : Int).toNat).drop ((ji30) : Int).toNat)), wrap64 (x5_5 + x6_5), 0)) else (none)) else (none)) else (none)) else (none)) = some (r1, r2, r3, r4, r5) := by first | (rw [hji30] at H; exact H) | (simp only [hji30] at H ⊢; exact H)
                      have hji30w : (IntKind.i64.wrap (x5_5 + 1)) = ji30 := (i64_w _).trans hji30
                      by_cases c31 : 0 ≤ (ji30)
                      · rw [if_pos c31] at H
                        have c31b0 := eq_true c31
                        have c31b1 : decide (0 ≤ (ji30)) = true := decide_eq_true c31
                        clear c31
                        by_cases c32 : (ji30) ≤ (wrap64 (x5_5 + x6_5))
                        · rw [if_pos c32] at H
                          have c32b0 := eq_true c32
                          have c32b1 : decide ((ji30) ≤ (wrap64 (x5_5 + x6_5))) = true := decide_eq_true c32
                          by_cases c33 : (wrap64 (x5_5 + x6_5)) ≤ (l0.length : Int)
                          · rw [if_pos c33] at H
                            have c33b0 := eq_true c33
                            have c33b1 : decide ((wrap64 (x5_5 + x6_5)) ≤ (l0.length : Int)) = true := decide_eq_true c33
                            by_cases c34 : y125.length + ((l0.take ((wrap64 (x5_5 + x6_5)) : Int).toNat).drop ((ji30) : Int).toNat).length < 140737488355328
                            · rw [if_pos c34] at H
                              have LMc34 := Aside0.mk c34
                              clear c34
                              obtain ⟨y129, hy129⟩ : ∃ y_ : List Int, y_ = (y125 ++ ((l0.take ((wrap64 (x5_5 + x6_5)) : Int).toNat).drop ((ji30) : Int).toNat)) := ⟨_, rfl⟩
                              replace H : (some (wrap64 (rd l0 x5_5), y122, y129, wrap64 (x5_5 + x6_5), 0)) = some (r1, r2, r3, r4, r5) := by first | (rw [hy129]; with_reducible exact H) | (have H2_ := (Option.bind_some _ _).symm.trans H; rw [hy129]; with_reducible exact H2_) | (have H2_ := (Option.bind_some _ _).symm.trans H; with_reducible exact H2_) | with_reducible exact H | (rw [hy129]; exact H) | exact H
                              have Ny129 := Aside0.mk hy129
                              clear hy129
                              simp only [Option.some.injEq, Prod.mk.injEq] at H
                              obtain ⟨rfl, rfl, rfl, rfl, rfl⟩ := H
                              try go_wp2
                              have n0_ := Aside0.mk (blk_drew BK112.out)
                              have n1_ := Aside0.mk (below_drew1 HB.out)
                              clear BK112
                              clear HB
                              have BK112 := n0_
                              have HB := n1_
                              clear n0_ n1_
                              have p117 : 0 ≤ (x5_5 : Int) := of_decide_eq_true (by first | (with_reducible assumption) | assumption)
                              have q117 : x5_5 < (l0.length : Int) := of_decide_eq_true (by first | (with_reducible assumption) | assumption)
                              obtain ⟨ad117, e117, hx117_0⟩ := Kd.at_int HR0.out x5_5 p117 q117
                              have hw117_0 := hx117_0
                              obtain rfl : ad113 = ad117 := (by injection e117)
                              replace hx117_0 := (HB.out.cell (World.block_lt_of_cell? w _ hx117_0)).trans hx117_0
                              replace p117 := eq_true p117
                              replace q117 := eq_true q117
                              obtain ⟨i036, hi036, _, hsz36, _⟩ := info_parts info5
                              obtain ⟨hcut36, hA36, hC36⟩ := print_take_of (P := Tryd.prog) (Value.int .u8) 0 22 5 .i64 Tryd.underlying22 hi036 hsz36 (some ad113) c0 l0 x5_5 (of_decide_eq_true (by first | (with_reducible assumption) | assumption)) (of_decide_eq_true (by first | (with_reducible assumption) | assumption)) HC0.out
                              have HR121 := Aside0.mk (Kd.C_of_reads (h1 := fun _ => rfl) (hA36 _ (Kd.reads_of_C HR0.out)))
                              have HC121 := Aside0.mk hC36
                              clear hA36 hC36 hi036 hsz36
                              obtain ⟨i037, hi037, _, hsz37, _⟩ := info_parts info5
                              obtain ⟨A37, hcut37, hA37, hC37⟩ := print_mid_of (P := Tryd.prog) (Value.int .u8) 0 22 5 .i64 .i64 Tryd.underlying22 hi037 hsz37 (some ad113) c0 l0 (ji30) (wrap64 (x5_5 + x6_5)) (of_decide_eq_true (by first | (with_reducible assumption) | assumption)) (by first | omega | exact of_decide_eq_true (by first | (with_reducible assumption) | assumption)) (of_decide_eq_true (by first | (with_reducible assumption) | assumption)) HC0.out
                              have HR128 := Aside0.mk (Kd.C_of_reads (h1 := fun _ => rfl) (hA37 _ (Kd.reads_of_C HR0.out)))
                              have HC128 := Aside0.mk hC37
                              clear hA37 hC37 hi037 hsz37
                              refine start_ (n := 21) (S := fun w' => w'.cell? (ad113.add (x5_5).toNat) = some (.int .u8 (rd l0 x5_5))) (ds := []) #[false, false, false, false, false, false, false, false, false, false, false, false, false, false, false, false, false, false, false, false, false] (by kernel_rfl) rfl rfl (((HB.out.cell (World.block_lt_of_cell? w _ hw117_0)).trans hw117_0)) (fun hHeld => ?_); refine with_tabW spec_ReadSub.tab16 spec_ReadSub.bits16 (fun HT_ HW_ => ?_)
                              generalize wc.drew = w35 at BK112 HB HR121 HR128 hx117_0 hHeld ⊢
                              refine pure_ (i := 0) (N := some 51) (v := ?_) (a' := ?_) #[true, false, false, false, false, false, false, false, false, false, false, false, false, false, false, false, false, false, false, false, false] rfl rfl (any_of HT_.out (by kernel_rfl)) (fun _ _ _ h => h) (Or.inl ⟨by rfl, ?_⟩) ?_ ?_
                              rotate_left
                              · intro w'
                                go_simp
                                with_reducible rfl
                              rotate_left
                              · simp only [Act.put, List.setIfInBounds_toArray, List.set_cons_zero, List.set_cons_succ, i64_w, i32_w]
                                rfl
                              refine pure_ (i := 1) (N := some 52) (v := ?_) (a' := ?_) #[true, true, false, false, false, false, false, false, false, false, false, false, false, false, false, false, false, false, false, false, false] rfl rfl (any_of HT_.out (by kernel_rfl)) (fun _ _ _ h => h) (Or.inl ⟨by rfl, ?_⟩) ?_ ?_
                              rotate_left
                              · intro w'
                                go_simp
                                with_reducible rfl
                              rotate_left
                              · simp only [Act.put, List.setIfInBounds_toArray, List.set_cons_zero, List.set_cons_succ, i64_w, i32_w]
                                rfl
                              refine pure_ (i := 2) (N := some 53) (v := ?_) (a' := ?_) #[true, true, true, false, false, false, false, false, false, false, false, false, false, false, false, false, false, false, false, false, false] rfl rfl (any_of HT_.out (by kernel_rfl)) (fun _ _ _ h => h) (Or.inl ⟨by rfl, ?_⟩) ?_ ?_
                              rotate_left
                              · intro w'
                                go_simp
                                with_reducible rfl
                              rotate_left
                              · simp only [Act.put, List.setIfInBounds_toArray, List.set_cons_zero, List.set_cons_succ, i64_w, i32_w]
                                rfl
                              refine pure_ (i := 6) (N := some 57) (v := ?_) (a' := ?_) #[true, true, true, false, false, false, true, false, false, false, false, false, false, false, false, false, false, false, false, false, false] rfl rfl (any_of HT_.out (by kernel_rfl)) (fun _ _ _ h => h) (Or.inl ⟨by rfl, ?_⟩) ?_ ?_
                              rotate_left
                              · intro w'
                                go_simp
                                with_reducible rfl
                              rotate_left
                              · simp only [Act.put, List.setIfInBounds_toArray, List.set_cons_zero, List.set_cons_succ, i64_w, i32_w]
                                rfl
                              refine pure_ (i := 7) (N := some 58) (v := ?_) (a' := ?_) #[true, true, true, false, false, false, true, true, false, false, false, false, false, false, false, false, false, false, false, false, false] rfl rfl (any_of HT_.out (by kernel_rfl)) (fun _ _ _ h => h) (Or.inl ⟨by rfl, ?_⟩) ?_ ?_
                              rotate_left
                              · intro w'
                                go_simp
                                with_reducible rfl
                              rotate_left
                              · simp only [Act.put, List.setIfInBounds_toArray, List.set_cons_zero, List.set_cons_succ, i64_w, i32_w]
                                rfl
                              refine pure_ (i := 8) (N := some 59) (v := ?_) (a' := ?_) #[true, true, true, false, false, false, true, true, true, false, false, false, false, false, false, false, false, false, false, false, false] rfl rfl (any_of HT_.out (by kernel_rfl)) (fun _ _ _ h => h) (Or.inl ⟨by rfl, ?_⟩) ?_ ?_
                              rotate_left
                              · intro w'
                                go_simp
                                with_reducible rfl
                              rotate_left
                              · simp only [Act.put, List.setIfInBounds_toArray, List.set_cons_zero, List.set_cons_succ, i64_w, i32_w]
                                rfl
                              refine pure_ (i := 11) (N := some 62) (v := ?_) (a' := ?_) #[true, true, true, false, false, false, true, true, true, false, false, true, false, false, false, false, false, false, false, false, false] rfl rfl (any_of HT_.out (by kernel_rfl)) (fun _ _ _ h => h) (Or.inl ⟨by rfl, ?_⟩) ?_ ?_
                              rotate_left
                              · intro w'
                                go_simp
                                with_reducible rfl
                              rotate_left
                              · simp only [Act.put, List.setIfInBounds_toArray, List.set_cons_zero, List.set_cons_succ, i64_w, i32_w]
                                rfl
                              refine pure_ (i := 12) (N := some 63) (v := ?_) (a' := ?_) #[true, true, true, false, false, false, true, true, true, false, false, true, true, false, false, false, false, false, false, false, false] rfl rfl (any_of HT_.out (by kernel_rfl)) (fun _ _ _ h => h) (Or.inl ⟨by rfl, ?_⟩) ?_ ?_
                              rotate_left
                              · intro w'
                                go_simp
                                with_reducible rfl
                              rotate_left
                              · simp only [Act.put, List.setIfInBounds_toArray, List.set_cons_zero, List.set_cons_succ, i64_w, i32_w]
                                rfl
                              refine pure_ (i := 13) (N := some 64) (v := ?_) (a' := ?_) #[true, true, true, false, false, false, true, true, true, false, false, true, true, true, false, false, false, false, false, false, false] rfl rfl (any_of HT_.out (by kernel_rfl)) (fun _ _ _ h => h) (Or.inl ⟨by rfl, ?_⟩) ?_ ?_
                              rotate_left
                              · intro w'
                                go_simp
                                with_reducible rfl
                              rotate_left
                              · simp only [Act.put, List.setIfInBounds_toArray, List.set_cons_zero, List.set_cons_succ, i64_w, i32_w]
                                rfl
                              refine pure_ (i := 14) (N := some 65) (v := ?_) (a' := ?_) #[true, true, true, false, false, false, true, true, true, false, false, true, true, true, true, false, false, false, false, false, false] rfl rfl (any_of HT_.out (by kernel_rfl)) (fun _ _ _ h => h) (Or.inl ⟨by rfl, ?_⟩) ?_ ?_
                              rotate_left
                              · intro w'
                                go_simp
                                with_reducible rfl
                              rotate_left
                              · simp only [Act.put, List.setIfInBounds_toArray, List.set_cons_zero, List.set_cons_succ, i64_w, i32_w]
                                rfl
                              refine pure_ (i := 15) (N := some 66) (v := ?_) (a' := ?_) #[true, true, true, false, false, false, true, true, true, false, false, true, true, true, true, true, false, false, false, false, false] rfl rfl (any_of HT_.out (by kernel_rfl)) (fun _ _ _ h => h) (Or.inl ⟨by rfl, ?_⟩) ?_ ?_
                              rotate_left
                              · intro w'
                                go_simp
                                with_reducible rfl
                              rotate_left
                              · simp only [Act.put, List.setIfInBounds_toArray, List.set_cons_zero, List.set_cons_succ, i64_w, i32_w]
                                rfl
                              refine pure_ (i := 16) (N := some 67) (v := ?_) (a' := ?_) #[true, true, true, false, false, false, true, true, true, false, false, true, true, true, true, true, true, false, false, false, false] rfl rfl (any_of HT_.out (by kernel_rfl)) (fun _ _ _ h => h) (Or.inl ⟨by rfl, ?_⟩) ?_ ?_
                              rotate_left
                              · intro w'
                                go_simp
                                with_reducible rfl
                              rotate_left
                              · simp only [Act.put, List.setIfInBounds_toArray, List.set_cons_zero, List.set_cons_succ, i64_w, i32_w]
                                rfl
                              refine pure_ (i := 17) (N := some 68) (v := ?_) (a' := ?_) #[true, true, true, false, false, false, true, true, true, false, false, true, true, true, true, true, true, true, false, false, false] rfl rfl (any_of HT_.out (by kernel_rfl)) (fun _ _ _ h => h) (Or.inl ⟨by rfl, ?_⟩) ?_ ?_
                              rotate_left
                              · intro w'
                                go_simp
                                with_reducible rfl
                              rotate_left
                              · simp only [Act.put, List.setIfInBounds_toArray, List.set_cons_zero, List.set_cons_succ, i64_w, i32_w]
                                rfl
                              refine take_ (i := 3) (N := some 54) (v := ?_) (a' := ?_) #[true, true, true, true, false, false, true, true, true, false, false, true, true, true, true, true, true, true, false, false, false] rfl rfl (take_ofW HT_.out HW_.out (by kernel_rfl)) (fun _ _ _ h => h) (Or.inl ⟨by rfl, ?_⟩) hHeld ?_ ?_
                              rotate_left
                              · intro w' s0
                                go_simp
                                with_reducible rfl
                              rotate_left
                              · simp only [Act.put, List.setIfInBounds_toArray, List.set_cons_zero, List.set_cons_succ, i64_w, i32_w]
                                rfl
                              refine pure_ (i := 4) (N := some 55) (v := ?_) (a' := ?_) #[true, true, true, true, true, false, true, true, true, false, false, true, true, true, true, true, true, true, false, false, false] rfl rfl (any_of HT_.out (by kernel_rfl)) (fun _ _ _ h => h) (Or.inl ⟨by rfl, ?_⟩) ?_ ?_
                              rotate_left
                              · intro w'
                                go_simp
                                with_reducible rfl
                              rotate_left
                              · simp only [Act.put, List.setIfInBounds_toArray, List.set_cons_zero, List.set_cons_succ, i64_w, i32_w]
                                rfl
                              refine join_ (σ := Value × Value × Value) 3 #[true, true, true, true, true, true, true, true, true, true, true, true, true, true, true, true, true, true, false, false, false] (fun s_ => [(56, s_.1), (60, s_.2.1), (61, s_.2.2)]) (fun s_ w' => (w'.cell? (ad113.add (x5_5).toNat) = some (.int .u8 (rd l0 x5_5))) ∧ (Kd.R (Kd.int .u8) 5 w' w.heap.size (fun k_ => some k_ ≠ (s_.2.2 : Value).ownBlock) s_.2.1 y122) ∧ (Kd.R (Kd.int .u8) 5 w' w.heap.size (fun k_ => some k_ ≠ (s_.2.1 : Value).ownBlock) s_.2.2 y125) ∧ (w'.heap[gb112]? = some (.cells #[.int .i64 x113000_5, .slice none 0 0, .slice none 0 0] 123 (0, 0))) ∧ (Below w.heap.size w w')) ?_ ?_
                              rotate_left
                              · intro hCont
                                refine two_ (i := 5) (j := 10) (Ni := some 56) (Nj := some 61) #[true, true, true, true, true, true, true, true, true, false, false, true, true, true, true, true, true, true, false, false, false] #[true, true, true, true, true, false, true, true, true, false, true, true, true, true, true, true, true, true, false, false, false] rfl rfl rfl rfl (two_of HT_.out (by kernel_rfl)) (by decide) (by decide) (fun K hK => ?_) (fun K hK => ?_)
                                · skip
                                  refine Kd.R_lit_step (Kd.int .u8) _ 5 ?hg (N := 56) ?hd (xs := ([] : List Int)) (inner := []) (ok := fun _ => True) (okp := fun _ => True) ?hr ?hp (fun _ hk => hk) trivial (Below.refl _ _) (Nat.le_refl _) (by simp) ?_; (case hd => rfl); (case hg => rfl); (case hr => first | (go_simp; done) | (go_simp; rfl)); (case hp => exact (Reps.none _ _))
                                  intro v119 w38 ho39 hb hg_ hnew_
                                  clear hg_ hnew_
                                  (first | rw [← Ny118.out] at ho39 | (simp only [Int.reduceToNat] at ho39; rw [← Ny118.out] at ho39))
                                  have n0_ := Aside0.mk (Kd.R_lower ho39 (below_size (by repeat (first | (with_reducible first | exact HB.out | apply below_alloc | apply pw_below_drewN | apply below_drew1 | refine below_set ?_ GE112.out) | exact HB.out))))
                                  have n1_ := Aside0.mk (blk_below (g := gb112) (o := .cells #[.int .i64 x113000_5, .slice none 0 0, .slice none 0 0] 123 (0, 0)) (by (with_reducible repeat (first | refine blk_drewN ?_ _ | refine blk_drew ?_ | refine blk_alloc ?_ _)); exact BK112.out) hb)
                                  have n2_ := Aside0.mk (below_step (by repeat (first | (with_reducible first | exact HB.out | apply below_alloc | apply pw_below_drewN | apply below_drew1 | refine below_set ?_ GE112.out) | exact HB.out)) hb)
                                  clear BK112
                                  clear HB
                                  have HO120 := n0_
                                  have BK112 := n1_
                                  have HB := n2_
                                  clear n0_ n1_ n2_
                                  clear hb ho39
                                  refine hK.out _ _ (((HB.out.cell (World.block_lt_of_cell? w _ hw117_0)).trans hw117_0)) (fun hHeld => ?_)
                                  clear hK K
                                  refine norm_ (a' := ?_) ?_ ?_
                                  rotate_left
                                  · show Act.put _ (some 56) _ = _
                                    simp only [Act.put, List.setIfInBounds_toArray, List.set_cons_zero, List.set_cons_succ, i64_w, i32_w]
                                    rfl
                                  refine two_ (i := 9) (j := 10) (Ni := some 60) (Nj := some 61) #[true, true, true, true, true, true, true, true, true, true, false, true, true, true, true, true, true, true, false, false, false] #[true, true, true, true, true, true, true, true, true, false, true, true, true, true, true, true, true, true, false, false, false] rfl rfl rfl rfl (two_of HT_.out (by kernel_rfl)) (by decide) (by decide) (fun K hK => ?_) (fun K hK => ?_)
                                  · skip
                                    refine Kd.R_append_rows_step (Kd.int .u8) (w0 := w) w.heap.size (by rfl) (.tmp 56) (.tmp 59) 22 5 (.int .u8 0) 1 rfl Tryd.underlying22 info5 rfl (by decide) (by omega) v119 y118 (l0.take (x5_5 : Int).toNat) _ _ _ (fun _ => True) (fun _ => False) rfl rfl ?aO ?aR (fun _ _ h => h) (fun _ h => h.elim) ?aF ?aB ?aS ?aL ?_
                                    (case aR => first | exact (Kd.C_below HR121.out HB.out) | (have h_ := (Kd.C_below HR121.out HB.out); rw [show (l0.take (x5_5 : Int).toNat).length = x5_5.toNat from (by rw [List.length_take]; have h_ : (x5_5 : Int) ≤ (l0.length : Int) := of_decide_eq_true (by first | (with_reducible assumption) | assumption); omega)] at h_; exact h_))
                                    (case aB => exact (by repeat (first | (with_reducible first | exact HB.out | apply below_alloc | apply pw_below_drewN | apply below_drew1 | refine below_set ?_ GE112.out) | exact HB.out)))
                                    (case aF => exact (fun _ _ => trivial))
                                    (case aO => exact (by (with_reducible repeat (first | apply Kd.R_alloc | apply Kd.R_drewN | apply Kd.R_drew)); exact HO120.out))
                                    (case aS => exact (below_size (by repeat (first | (with_reducible first | exact HB.out | apply below_alloc | apply pw_below_drewN | apply below_drew1 | refine below_set ?_ GE112.out) | exact HB.out))))
                                    (case aL => have := LMc29.out; have hlx_ := (show (l0.take (x5_5 : Int).toNat).length = x5_5.toNat from (by rw [List.length_take]; have h_ : (x5_5 : Int) ≤ (l0.length : Int) := of_decide_eq_true (by first | (with_reducible assumption) | assumption); omega)); omega)
                                    intro v123 w40 ho hb hg hat
                                    rw [← Ny122.out] at ho
                                    have n0_ := Aside0.mk (blk_grown (g := gb112) (o := .cells #[.int .i64 x113000_5, .slice none 0 0, .slice none 0 0] 123 (0, 0)) (by (with_reducible repeat (first | refine blk_drewN ?_ _ | refine blk_drew ?_ | refine blk_alloc ?_ _)); exact BK112.out) hg (Kd.R_ne HO120.out BK112.out (by decide)))
                                    have n1_ := Aside0.mk (hb)
                                    have n2_ := Aside0.mk (ho)
                                    clear BK112
                                    clear HB
                                    clear HO120
                                    have BK112 := n0_
                                    have HB := n1_
                                    have HO124 := n2_
                                    clear n0_ n1_ n2_
                                    clear ho hb hg hat
                                    refine hK.out _ _ (((HB.out.cell (World.block_lt_of_cell? w _ hw117_0)).trans hw117_0)) (fun hHeld => ?_)
                                    clear hK K
                                    refine norm_ (a' := ?_) ?_ ?_
                                    rotate_left
                                    · show Act.put _ (some 60) _ = _
                                      simp only [Act.put, List.setIfInBounds_toArray, List.set_cons_zero, List.set_cons_succ, i64_w, i32_w]
                                      rfl
                                    refine one_ (i := 10) (N := some 61) #[true, true, true, true, true, true, true, true, true, true, true, true, true, true, true, true, true, true, false, false, false] rfl rfl (one_of HT_.out (by kernel_rfl)) (by decide) (fun K hK => ?_)
                                    refine Kd.R_lit_step (Kd.int .u8) _ 5 ?hg (N := 61) ?hd (xs := ([] : List Int)) (inner := []) (ok := fun _ => True) (okp := fun _ => True) ?hr ?hp (fun _ hk => hk) trivial (Below.refl _ _) (Nat.le_refl _) (by simp) ?_; (case hd => rfl); (case hg => rfl); (case hr => first | (go_simp; done) | (go_simp; rfl)); (case hp => exact (Reps.none _ _))
                                    intro v126 w41 ho42 hb hg_ hnew_
                                    clear hg_ hnew_
                                    (first | rw [← Ny125.out] at ho42 | (simp only [Int.reduceToNat] at ho42; rw [← Ny125.out] at ho42))
                                    have n0_ := Aside0.mk (Kd.R_elder' (by (with_reducible repeat (first | apply Kd.R_alloc | apply Kd.R_drewN | apply Kd.R_drew)); exact HO124.out) (Kd.R_base ho42) hb)
                                    have n1_ := Aside0.mk (Kd.R_lower (Kd.R_new' ho42 (Kd.R_lt (by (with_reducible repeat (first | apply Kd.R_alloc | apply Kd.R_drewN | apply Kd.R_drew)); exact HO124.out))) (below_size (by repeat (first | (with_reducible first | exact HB.out | apply below_alloc | apply pw_below_drewN | apply below_drew1 | refine below_set ?_ GE112.out) | exact HB.out))))
                                    have n2_ := Aside0.mk (blk_below (g := gb112) (o := .cells #[.int .i64 x113000_5, .slice none 0 0, .slice none 0 0] 123 (0, 0)) (by (with_reducible repeat (first | refine blk_drewN ?_ _ | refine blk_drew ?_ | refine blk_alloc ?_ _)); exact BK112.out) hb)
                                    have n3_ := Aside0.mk (below_step (by repeat (first | (with_reducible first | exact HB.out | apply below_alloc | apply pw_below_drewN | apply below_drew1 | refine below_set ?_ GE112.out) | exact HB.out)) hb)
                                    clear HO124
                                    clear BK112
                                    clear HB
                                    have HO124 := n0_
                                    have HO127 := n1_
                                    have BK112 := n2_
                                    have HB := n3_
                                    clear n0_ n1_ n2_ n3_
                                    clear hb ho42
                                    refine hK.out _ _ (((HB.out.cell (World.block_lt_of_cell? w _ hw117_0)).trans hw117_0)) (fun hHeld => ?_)
                                    clear hK K
                                    refine norm_ (a' := ?_) ?_ ?_
                                    rotate_left
                                    · show Act.put _ (some 61) _ = _
                                      simp only [Act.put, List.setIfInBounds_toArray, List.set_cons_zero, List.set_cons_succ, i64_w, i32_w]
                                      rfl
                                    exact norm_ (by simp only [putAll, Act.put, List.setIfInBounds_toArray, List.set_cons_zero, List.set_cons_succ]) (hCont (v119, v123, v126) _ ⟨hHeld, (by (with_reducible repeat (first | apply Kd.R_alloc | apply Kd.R_drewN | apply Kd.R_drew)); exact Kd.R_mono HO124.out (fun _ hk => hk.2)), (by (with_reducible repeat (first | apply Kd.R_alloc | apply Kd.R_drewN | apply Kd.R_drew)); exact Kd.R_mono HO127.out (fun _ hk => hk.2)), (by (with_reducible repeat (first | refine blk_drewN ?_ _ | refine blk_drew ?_ | refine blk_alloc ?_ _)); exact BK112.out), (by repeat (first | (with_reducible first | exact HB.out | apply below_alloc | apply pw_below_drewN | apply below_drew1 | refine below_set ?_ GE112.out) | exact HB.out))⟩)
                                  · skip
                                    refine Kd.R_lit_step (Kd.int .u8) _ 5 ?hg (N := 61) ?hd (xs := ([] : List Int)) (inner := []) (ok := fun _ => True) (okp := fun _ => True) ?hr ?hp (fun _ hk => hk) trivial (Below.refl _ _) (Nat.le_refl _) (by simp) ?_; (case hd => rfl); (case hg => rfl); (case hr => first | (go_simp; done) | (go_simp; rfl)); (case hp => exact (Reps.none _ _))
                                    intro v126 w40 ho41 hb hg_ hnew_
                                    clear hg_ hnew_
                                    (first | rw [← Ny125.out] at ho41 | (simp only [Int.reduceToNat] at ho41; rw [← Ny125.out] at ho41))
                                    have n0_ := Aside0.mk (Kd.R_elder' (by (with_reducible repeat (first | apply Kd.R_alloc | apply Kd.R_drewN | apply Kd.R_drew)); exact HO120.out) (Kd.R_base ho41) hb)
                                    have n1_ := Aside0.mk (Kd.R_lower (Kd.R_new' ho41 (Kd.R_lt (by (with_reducible repeat (first | apply Kd.R_alloc | apply Kd.R_drewN | apply Kd.R_drew)); exact HO120.out))) (below_size (by repeat (first | (with_reducible first | exact HB.out | apply below_alloc | apply pw_below_drewN | apply below_drew1 | refine below_set ?_ GE112.out) | exact HB.out))))
                                    have n2_ := Aside0.mk (blk_below (g := gb112) (o := .cells #[.int .i64 x113000_5, .slice none 0 0, .slice none 0 0] 123 (0, 0)) (by (with_reducible repeat (first | refine blk_drewN ?_ _ | refine blk_drew ?_ | refine blk_alloc ?_ _)); exact BK112.out) hb)
                                    have n3_ := Aside0.mk (below_step (by repeat (first | (with_reducible first | exact HB.out | apply below_alloc | apply pw_below_drewN | apply below_drew1 | refine below_set ?_ GE112.out) | exact HB.out)) hb)
                                    clear HO120
                                    clear BK112
                                    clear HB
                                    have HO120 := n0_
                                    have HO127 := n1_
                                    have BK112 := n2_
                                    have HB := n3_
                                    clear n0_ n1_ n2_ n3_
                                    clear hb ho41
                                    refine hK.out _ _ (((HB.out.cell (World.block_lt_of_cell? w _ hw117_0)).trans hw117_0)) (fun hHeld => ?_)
                                    clear hK K
                                    refine norm_ (a' := ?_) ?_ ?_
                                    rotate_left
                                    · show Act.put _ (some 61) _ = _
                                      simp only [Act.put, List.setIfInBounds_toArray, List.set_cons_zero, List.set_cons_succ, i64_w, i32_w]
                                      rfl
                                    refine one_ (i := 9) (N := some 60) #[true, true, true, true, true, true, true, true, true, true, true, true, true, true, true, true, true, true, false, false, false] rfl rfl (one_of HT_.out (by kernel_rfl)) (by decide) (fun K hK => ?_)
                                    refine Kd.R_append_rows_step (Kd.int .u8) (w0 := w) w.heap.size (by rfl) (.tmp 56) (.tmp 59) 22 5 (.int .u8 0) 1 rfl Tryd.underlying22 info5 rfl (by decide) (by omega) v119 y118 (l0.take (x5_5 : Int).toNat) _ _ _ (fun k_ => some k_ ≠ (v126 : Value).ownBlock) (fun _ => False) rfl rfl ?aO ?aR (fun _ _ h => h) (fun _ h => h.elim) ?aF ?aB ?aS ?aL ?_
                                    (case aR => first | exact (Kd.C_below HR121.out HB.out) | (have h_ := (Kd.C_below HR121.out HB.out); rw [show (l0.take (x5_5 : Int).toNat).length = x5_5.toNat from (by rw [List.length_take]; have h_ : (x5_5 : Int) ≤ (l0.length : Int) := of_decide_eq_true (by first | (with_reducible assumption) | assumption); omega)] at h_; exact h_))
                                    (case aB => exact (by repeat (first | (with_reducible first | exact HB.out | apply below_alloc | apply pw_below_drewN | apply below_drew1 | refine below_set ?_ GE112.out) | exact HB.out)))
                                    (case aF => exact (fun k_ hk => Kd.fresh' (Kd.R_lt (by (with_reducible repeat (first | apply Kd.R_alloc | apply Kd.R_drewN | apply Kd.R_drew)); exact HO127.out)) k_ hk))
                                    (case aO => exact (by (with_reducible repeat (first | apply Kd.R_alloc | apply Kd.R_drewN | apply Kd.R_drew)); exact Kd.R_mono HO120.out (fun _ hk => hk.2)))
                                    (case aS => exact (below_size (by repeat (first | (with_reducible first | exact HB.out | apply below_alloc | apply pw_below_drewN | apply below_drew1 | refine below_set ?_ GE112.out) | exact HB.out))))
                                    (case aL => have := LMc29.out; have hlx_ := (show (l0.take (x5_5 : Int).toNat).length = x5_5.toNat from (by rw [List.length_take]; have h_ : (x5_5 : Int) ≤ (l0.length : Int) := of_decide_eq_true (by first | (with_reducible assumption) | assumption); omega)); omega)
                                    intro v123 w42 ho hb hg hat
                                    rw [← Ny122.out] at ho
                                    have n0_ := Aside0.mk (blk_grown (g := gb112) (o := .cells #[.int .i64 x113000_5, .slice none 0 0, .slice none 0 0] 123 (0, 0)) (by (with_reducible repeat (first | refine blk_drewN ?_ _ | refine blk_drew ?_ | refine blk_alloc ?_ _)); exact BK112.out) hg (Kd.R_ne HO120.out BK112.out (by decide)))
                                    have n1_ := Aside0.mk (Kd.R_after (ok := (fun _ => True)) (by (with_reducible repeat (first | apply Kd.R_alloc | apply Kd.R_drewN | apply Kd.R_drew)); exact HO127.out) hg hat)
                                    have n2_ := Aside0.mk (hb)
                                    have n3_ := Aside0.mk (ho)
                                    clear BK112
                                    clear HO127
                                    clear HB
                                    clear HO120
                                    have BK112 := n0_
                                    have HO127 := n1_
                                    have HB := n2_
                                    have HO124 := n3_
                                    clear n0_ n1_ n2_ n3_
                                    clear ho hb hg hat
                                    refine hK.out _ _ (((HB.out.cell (World.block_lt_of_cell? w _ hw117_0)).trans hw117_0)) (fun hHeld => ?_)
                                    clear hK K
                                    refine norm_ (a' := ?_) ?_ ?_
                                    rotate_left
                                    · show Act.put _ (some 60) _ = _
                                      simp only [Act.put, List.setIfInBounds_toArray, List.set_cons_zero, List.set_cons_succ, i64_w, i32_w]
                                      rfl
                                    exact norm_ (by simp only [putAll, Act.put, List.setIfInBounds_toArray, List.set_cons_zero, List.set_cons_succ]) (hCont (v119, v123, v126) _ ⟨hHeld, (by (with_reducible repeat (first | apply Kd.R_alloc | apply Kd.R_drewN | apply Kd.R_drew)); exact HO124.out), (by (with_reducible repeat (first | apply Kd.R_alloc | apply Kd.R_drewN | apply Kd.R_drew)); exact Kd.R_mono HO127.out (fun _ hk => hk.2)), (by (with_reducible repeat (first | refine blk_drewN ?_ _ | refine blk_drew ?_ | refine blk_alloc ?_ _)); exact BK112.out), (by repeat (first | (with_reducible first | exact HB.out | apply below_alloc | apply pw_below_drewN | apply below_drew1 | refine below_set ?_ GE112.out) | exact HB.out))⟩)
                                · skip
                                  refine Kd.R_lit_step (Kd.int .u8) _ 5 ?hg (N := 61) ?hd (xs := ([] : List Int)) (inner := []) (ok := fun _ => True) (okp := fun _ => True) ?hr ?hp (fun _ hk => hk) trivial (Below.refl _ _) (Nat.le_refl _) (by simp) ?_; (case hd => rfl); (case hg => rfl); (case hr => first | (go_simp; done) | (go_simp; rfl)); (case hp => exact (Reps.none _ _))
                                  intro v126 w38 ho39 hb hg_ hnew_
                                  clear hg_ hnew_
                                  (first | rw [← Ny125.out] at ho39 | (simp only [Int.reduceToNat] at ho39; rw [← Ny125.out] at ho39))
                                  have n0_ := Aside0.mk (Kd.R_lower ho39 (below_size (by repeat (first | (with_reducible first | exact HB.out | apply below_alloc | apply pw_below_drewN | apply below_drew1 | refine below_set ?_ GE112.out) | exact HB.out))))
                                  have n1_ := Aside0.mk (blk_below (g := gb112) (o := .cells #[.int .i64 x113000_5, .slice none 0 0, .slice none 0 0] 123 (0, 0)) (by (with_reducible repeat (first | refine blk_drewN ?_ _ | refine blk_drew ?_ | refine blk_alloc ?_ _)); exact BK112.out) hb)
                                  have n2_ := Aside0.mk (below_step (by repeat (first | (with_reducible first | exact HB.out | apply below_alloc | apply pw_below_drewN | apply below_drew1 | refine below_set ?_ GE112.out) | exact HB.out)) hb)
                                  clear BK112
                                  clear HB
                                  have HO127 := n0_
                                  have BK112 := n1_
                                  have HB := n2_
                                  clear n0_ n1_ n2_
                                  clear hb ho39
                                  refine hK.out _ _ (((HB.out.cell (World.block_lt_of_cell? w _ hw117_0)).trans hw117_0)) (fun hHeld => ?_)
                                  clear hK K
                                  refine norm_ (a' := ?_) ?_ ?_
                                  rotate_left
                                  · show Act.put _ (some 61) _ = _
                                    simp only [Act.put, List.setIfInBounds_toArray, List.set_cons_zero, List.set_cons_succ, i64_w, i32_w]
                                    rfl
                                  refine one_ (i := 5) (N := some 56) #[true, true, true, true, true, true, true, true, true, false, true, true, true, true, true, true, true, true, false, false, false] rfl rfl (one_of HT_.out (by kernel_rfl)) (by decide) (fun K hK => ?_)
                                  refine Kd.R_lit_step (Kd.int .u8) _ 5 ?hg (N := 56) ?hd (xs := ([] : List Int)) (inner := []) (ok := fun _ => True) (okp := fun _ => True) ?hr ?hp (fun _ hk => hk) trivial (Below.refl _ _) (Nat.le_refl _) (by simp) ?_; (case hd => rfl); (case hg => rfl); (case hr => first | (go_simp; done) | (go_simp; rfl)); (case hp => exact (Reps.none _ _))
                                  intro v119 w40 ho41 hb hg_ hnew_
                                  clear hg_ hnew_
                                  (first | rw [← Ny118.out] at ho41 | (simp only [Int.reduceToNat] at ho41; rw [← Ny118.out] at ho41))
                                  have n0_ := Aside0.mk (Kd.R_elder' (by (with_reducible repeat (first | apply Kd.R_alloc | apply Kd.R_drewN | apply Kd.R_drew)); exact HO127.out) (Kd.R_base ho41) hb)
                                  have n1_ := Aside0.mk (Kd.R_lower (Kd.R_new' ho41 (Kd.R_lt (by (with_reducible repeat (first | apply Kd.R_alloc | apply Kd.R_drewN | apply Kd.R_drew)); exact HO127.out))) (below_size (by repeat (first | (with_reducible first | exact HB.out | apply below_alloc | apply pw_below_drewN | apply below_drew1 | refine below_set ?_ GE112.out) | exact HB.out))))
                                  have n2_ := Aside0.mk (blk_below (g := gb112) (o := .cells #[.int .i64 x113000_5, .slice none 0 0, .slice none 0 0] 123 (0, 0)) (by (with_reducible repeat (first | refine blk_drewN ?_ _ | refine blk_drew ?_ | refine blk_alloc ?_ _)); exact BK112.out) hb)
                                  have n3_ := Aside0.mk (below_step (by repeat (first | (with_reducible first | exact HB.out | apply below_alloc | apply pw_below_drewN | apply below_drew1 | refine below_set ?_ GE112.out) | exact HB.out)) hb)
                                  clear HO127
                                  clear BK112
                                  clear HB
                                  have HO127 := n0_
                                  have HO120 := n1_
                                  have BK112 := n2_
                                  have HB := n3_
                                  clear n0_ n1_ n2_ n3_
                                  clear hb ho41
                                  refine hK.out _ _ (((HB.out.cell (World.block_lt_of_cell? w _ hw117_0)).trans hw117_0)) (fun hHeld => ?_)
                                  clear hK K
                                  refine norm_ (a' := ?_) ?_ ?_
                                  rotate_left
                                  · show Act.put _ (some 56) _ = _
                                    simp only [Act.put, List.setIfInBounds_toArray, List.set_cons_zero, List.set_cons_succ, i64_w, i32_w]
                                    rfl
                                  refine one_ (i := 9) (N := some 60) #[true, true, true, true, true, true, true, true, true, true, true, true, true, true, true, true, true, true, false, false, false] rfl rfl (one_of HT_.out (by kernel_rfl)) (by decide) (fun K hK => ?_)
                                  refine Kd.R_append_rows_step (Kd.int .u8) (w0 := w) w.heap.size (by rfl) (.tmp 56) (.tmp 59) 22 5 (.int .u8 0) 1 rfl Tryd.underlying22 info5 rfl (by decide) (by omega) v119 y118 (l0.take (x5_5 : Int).toNat) _ _ _ (fun k_ => some k_ ≠ (v126 : Value).ownBlock) (fun _ => False) rfl rfl ?aO ?aR (fun _ _ h => h) (fun _ h => h.elim) ?aF ?aB ?aS ?aL ?_
                                  (case aR => first | exact (Kd.C_below HR121.out HB.out) | (have h_ := (Kd.C_below HR121.out HB.out); rw [show (l0.take (x5_5 : Int).toNat).length = x5_5.toNat from (by rw [List.length_take]; have h_ : (x5_5 : Int) ≤ (l0.length : Int) := of_decide_eq_true (by first | (with_reducible assumption) | assumption); omega)] at h_; exact h_))
                                  (case aB => exact (by repeat (first | (with_reducible first | exact HB.out | apply below_alloc | apply pw_below_drewN | apply below_drew1 | refine below_set ?_ GE112.out) | exact HB.out)))
                                  (case aF => exact (fun k_ hk => Kd.fresh' (Kd.R_lt (by (with_reducible repeat (first | apply Kd.R_alloc | apply Kd.R_drewN | apply Kd.R_drew)); exact HO127.out)) k_ hk))
                                  (case aO => exact (by (with_reducible repeat (first | apply Kd.R_alloc | apply Kd.R_drewN | apply Kd.R_drew)); exact Kd.R_mono HO120.out (fun _ hk => hk.2)))
                                  (case aS => exact (below_size (by repeat (first | (with_reducible first | exact HB.out | apply below_alloc | apply pw_below_drewN | apply below_drew1 | refine below_set ?_ GE112.out) | exact HB.out))))
                                  (case aL => have := LMc29.out; have hlx_ := (show (l0.take (x5_5 : Int).toNat).length = x5_5.toNat from (by rw [List.length_take]; have h_ : (x5_5 : Int) ≤ (l0.length : Int) := of_decide_eq_true (by first | (with_reducible assumption) | assumption); omega)); omega)
                                  intro v123 w42 ho hb hg hat
                                  rw [← Ny122.out] at ho
                                  have n0_ := Aside0.mk (blk_grown (g := gb112) (o := .cells #[.int .i64 x113000_5, .slice none 0 0, .slice none 0 0] 123 (0, 0)) (by (with_reducible repeat (first | refine blk_drewN ?_ _ | refine blk_drew ?_ | refine blk_alloc ?_ _)); exact BK112.out) hg (Kd.R_ne HO120.out BK112.out (by decide)))
                                  have n1_ := Aside0.mk (Kd.R_after (ok := (fun _ => True)) (by (with_reducible repeat (first | apply Kd.R_alloc | apply Kd.R_drewN | apply Kd.R_drew)); exact HO127.out) hg hat)
                                  have n2_ := Aside0.mk (hb)
                                  have n3_ := Aside0.mk (ho)
                                  clear BK112
                                  clear HO127
                                  clear HB
                                  clear HO120
                                  have BK112 := n0_
                                  have HO127 := n1_
                                  have HB := n2_
                                  have HO124 := n3_
                                  clear n0_ n1_ n2_ n3_
                                  clear ho hb hg hat
                                  refine hK.out _ _ (((HB.out.cell (World.block_lt_of_cell? w _ hw117_0)).trans hw117_0)) (fun hHeld => ?_)
                                  clear hK K
                                  refine norm_ (a' := ?_) ?_ ?_
                                  rotate_left
                                  · show Act.put _ (some 60) _ = _
                                    simp only [Act.put, List.setIfInBounds_toArray, List.set_cons_zero, List.set_cons_succ, i64_w, i32_w]
                                    rfl
                                  exact norm_ (by simp only [putAll, Act.put, List.setIfInBounds_toArray, List.set_cons_zero, List.set_cons_succ]) (hCont (v119, v123, v126) _ ⟨hHeld, (by (with_reducible repeat (first | apply Kd.R_alloc | apply Kd.R_drewN | apply Kd.R_drew)); exact HO124.out), (by (with_reducible repeat (first | apply Kd.R_alloc | apply Kd.R_drewN | apply Kd.R_drew)); exact Kd.R_mono HO127.out (fun _ hk => hk.2)), (by (with_reducible repeat (first | refine blk_drewN ?_ _ | refine blk_drew ?_ | refine blk_alloc ?_ _)); exact BK112.out), (by repeat (first | (with_reducible first | exact HB.out | apply below_alloc | apply pw_below_drewN | apply below_drew1 | refine below_set ?_ GE112.out) | exact HB.out))⟩)
                              rintro ⟨v119, v123, v126⟩ w43 ⟨hS_, h0_, h1_, h2_, h3_⟩
                              have n0_ : Aside0 (Kd.R (Kd.int .u8) 5 w43 w.heap.size (fun k_ => some k_ ≠ (v126 : Value).ownBlock) v123 y122) := ⟨h0_⟩
                              have n1_ : Aside0 (Kd.R (Kd.int .u8) 5 w43 w.heap.size (fun k_ => some k_ ≠ (v123 : Value).ownBlock) v126 y125) := ⟨h1_⟩
                              have n2_ : Aside0 (w43.heap[gb112]? = some (.cells #[.int .i64 x113000_5, .slice none 0 0, .slice none 0 0] 123 (0, 0))) := ⟨h2_⟩
                              have n3_ : Aside0 (Below w.heap.size w w43) := ⟨h3_⟩
                              clear BK112
                              clear HB
                              clear h0_ h1_ h2_ h3_
                              have HO124 := n0_
                              have HO127 := n1_
                              have BK112 := n2_
                              have HB := n3_
                              clear n0_ n1_ n2_ n3_
                              have hHeld : w43.cell? (ad113.add (x5_5).toNat) = some (.int .u8 (rd l0 x5_5)) := hS_
                              refine norm_ (a' := ?_) ?_ ?_
                              rotate_left
                              · simp only [putAll, Act.put, List.setIfInBounds_toArray, List.set_cons_zero, List.set_cons_succ]
                                rfl
                              refine one_ (i := 18) (N := some 69) #[true, true, true, true, true, true, true, true, true, true, true, true, true, true, true, true, true, true, true, false, false] rfl rfl (one_of HT_.out (by kernel_rfl)) (by decide) (fun K hK => ?_)
                              refine Kd.R_append_rows_step (Kd.int .u8) (w0 := w) w.heap.size (by rfl) (.tmp 61) (.tmp 68) 22 5 (.int .u8 0) 1 rfl Tryd.underlying22 info5 rfl (by decide) (by omega) v126 y125 ((l0.take ((wrap64 (x5_5 + x6_5)) : Int).toNat).drop ((ji30) : Int).toNat) _ _ _ (fun k_ => some k_ ≠ (v123 : Value).ownBlock) (fun _ => False) rfl rfl ?aO ?aR (fun _ _ h => h) (fun _ h => h.elim) ?aF ?aB ?aS ?aL ?_
                              (case aR => first | exact (Kd.C_below HR128.out HB.out) | (have h_ := (Kd.C_below HR128.out HB.out); rw [show ((l0.take ((wrap64 (x5_5 + x6_5)) : Int).toNat).drop ((ji30) : Int).toNat).length = ((wrap64 (x5_5 + x6_5)).toNat - (ji30).toNat) from (by rw [List.length_drop, List.length_take]; have h_ : ((wrap64 (x5_5 + x6_5)) : Int) ≤ (l0.length : Int) := of_decide_eq_true (by first | (with_reducible assumption) | assumption); omega)] at h_; exact h_))
                              (case aB => exact (by repeat (first | (with_reducible first | exact HB.out | apply below_alloc | apply pw_below_drewN | apply below_drew1 | refine below_set ?_ GE112.out) | exact HB.out)))
                              (case aF => exact (fun k_ hk => Kd.fresh' (Kd.R_lt (by (with_reducible repeat (first | apply Kd.R_alloc | apply Kd.R_drewN | apply Kd.R_drew)); exact HO124.out)) k_ hk))
                              (case aO => exact (by (with_reducible repeat (first | apply Kd.R_alloc | apply Kd.R_drewN | apply Kd.R_drew)); exact HO127.out))
                              (case aS => exact (below_size (by repeat (first | (with_reducible first | exact HB.out | apply below_alloc | apply pw_below_drewN | apply below_drew1 | refine below_set ?_ GE112.out) | exact HB.out))))
                              (case aL => have := LMc34.out; have hlx_ := (show ((l0.take ((wrap64 (x5_5 + x6_5)) : Int).toNat).drop ((ji30) : Int).toNat).length = ((wrap64 (x5_5 + x6_5)).toNat - (ji30).toNat) from (by rw [List.length_drop, List.length_take]; have h_ : ((wrap64 (x5_5 + x6_5)) : Int) ≤ (l0.length : Int) := of_decide_eq_true (by first | (with_reducible assumption) | assumption); omega)); omega)
                              intro v130 w44 ho hb hg hat
                              rw [← Ny129.out] at ho
                              have n0_ := Aside0.mk (blk_grown (g := gb112) (o := .cells #[.int .i64 x113000_5, .slice none 0 0, .slice none 0 0] 123 (0, 0)) (by (with_reducible repeat (first | refine blk_drewN ?_ _ | refine blk_drew ?_ | refine blk_alloc ?_ _)); exact BK112.out) hg (Kd.R_ne HO127.out BK112.out (by decide)))
                              have n1_ := Aside0.mk (Kd.R_after (ok := (fun _ => True)) (by (with_reducible repeat (first | apply Kd.R_alloc | apply Kd.R_drewN | apply Kd.R_drew)); exact Kd.R_mono HO124.out (fun _ hk => ⟨trivial, hk⟩)) hg hat)
                              have n2_ := Aside0.mk (hb)
                              have n3_ := Aside0.mk (ho)
                              clear BK112
                              clear HO124
                              clear HB
                              clear HO127
                              have BK112 := n0_
                              have HO124 := n1_
                              have HB := n2_
                              have HO131 := n3_
                              clear n0_ n1_ n2_ n3_
                              clear ho hb hg hat
                              obtain ⟨Ao45, co45, eo45⟩ := Kd.R_slice HO131.out
                              (first | subst eo45 | (injection eo45 with f1_ f2_ f3_; have f4_ := f1_.symm; have f5_ := f3_.symm; clear f1_ f2_ f3_; subst f4_; subst f5_))
                              obtain ⟨Ao46, co46, eo46⟩ := Kd.R_slice HO124.out
                              (first | subst eo46 | (injection eo46 with f1_ f2_ f3_; have f4_ := f1_.symm; have f5_ := f3_.symm; clear f1_ f2_ f3_; subst f4_; subst f5_))
                              refine hK.out _ _ (((HB.out.cell (World.block_lt_of_cell? w _ hw117_0)).trans hw117_0)) (fun hHeld => ?_)
                              clear hK K
                              refine norm_ (a' := ?_) ?_ ?_
                              rotate_left
                              · show Act.put _ (some 69) _ = _
                                simp only [Act.put, List.setIfInBounds_toArray, List.set_cons_zero, List.set_cons_succ, i64_w, i32_w]
                                rfl
                              refine pure_ (i := 19) (N := some 70) (v := ?_) (a' := ?_) #[true, true, true, true, true, true, true, true, true, true, true, true, true, true, true, true, true, true, true, true, false] rfl rfl (any_of HT_.out (by kernel_rfl)) (fun _ _ _ h => h) (Or.inl ⟨by rfl, ?_⟩) ?_ ?_
                              rotate_left
                              · intro w'
                                go_simp
                                with_reducible rfl
                              rotate_left
                              · simp only [Act.put, List.setIfInBounds_toArray, List.set_cons_zero, List.set_cons_succ, i64_w, i32_w]
                                rfl
                              refine one_ (i := 20) (N := none) #[true, true, true, true, true, true, true, true, true, true, true, true, true, true, true, true, true, true, true, true, true] rfl rfl (one_of HT_.out (by kernel_rfl)) (by decide) (fun K hK => ?_)
                              have hs47 : w44.cell? ⟨gb112, 0, none⟩ = some (.int .i64 x113000_5) := (blk_cell BK112.out 0).trans rfl
                              have hfs47 := blk_frozen BK112.out 0
                              have hs48 : w44.cell? ⟨gb112, 1, none⟩ = some (.slice none 0 0) := (blk_cell BK112.out 1).trans rfl
                              have hfs48 := blk_frozen BK112.out 1
                              have hs49 : w44.cell? ⟨gb112, 2, none⟩ = some (.slice none 0 0) := (blk_cell BK112.out 2).trans rfl
                              have hfs49 := blk_frozen BK112.out 2
                              refine skip_ (w1 := ?_) (by rfl) rfl ?_ ?_
                              rotate_left
                              · go_simp
                                rfl
                              refine hK.out _ _ (((cell_far (p := ⟨gb112, _, none⟩) (by first | exact Nat.ne_of_lt (Nat.lt_of_lt_of_le (by have := World.block_lt_of_cell? _ _ hw117_0; first | rwa [add_block] at this | exact this) GW112.out) | (rw [add_block]; exact Nat.ne_of_lt (Nat.lt_of_lt_of_le (by have := World.block_lt_of_cell? _ _ hw117_0; first | rwa [add_block] at this | exact this) GW112.out)) | (show (Addr.add _ _).block ≠ _; rw [add_block]; exact Nat.ne_of_lt (Nat.lt_of_lt_of_le (by have := World.block_lt_of_cell? _ _ hw117_0; first | rwa [add_block] at this | exact this) GW112.out)) | (dsimp only; exact Nat.ne_of_lt (Nat.lt_of_lt_of_le (by have := World.block_lt_of_cell? _ _ hw117_0; first | rwa [add_block] at this | exact this) GW112.out))) _).trans (((cell_far (p := ⟨gb112, _, none⟩) (by first | exact Nat.ne_of_lt (Nat.lt_of_lt_of_le (by have := World.block_lt_of_cell? _ _ hw117_0; first | rwa [add_block] at this | exact this) GW112.out) | (rw [add_block]; exact Nat.ne_of_lt (Nat.lt_of_lt_of_le (by have := World.block_lt_of_cell? _ _ hw117_0; first | rwa [add_block] at this | exact this) GW112.out)) | (show (Addr.add _ _).block ≠ _; rw [add_block]; exact Nat.ne_of_lt (Nat.lt_of_lt_of_le (by have := World.block_lt_of_cell? _ _ hw117_0; first | rwa [add_block] at this | exact this) GW112.out)) | (dsimp only; exact Nat.ne_of_lt (Nat.lt_of_lt_of_le (by have := World.block_lt_of_cell? _ _ hw117_0; first | rwa [add_block] at this | exact this) GW112.out))) _).trans (((cell_far (p := ⟨gb112, _, none⟩) (by first | exact Nat.ne_of_lt (Nat.lt_of_lt_of_le (by have := World.block_lt_of_cell? _ _ hw117_0; first | rwa [add_block] at this | exact this) GW112.out) | (rw [add_block]; exact Nat.ne_of_lt (Nat.lt_of_lt_of_le (by have := World.block_lt_of_cell? _ _ hw117_0; first | rwa [add_block] at this | exact this) GW112.out)) | (show (Addr.add _ _).block ≠ _; rw [add_block]; exact Nat.ne_of_lt (Nat.lt_of_lt_of_le (by have := World.block_lt_of_cell? _ _ hw117_0; first | rwa [add_block] at this | exact this) GW112.out)) | (dsimp only; exact Nat.ne_of_lt (Nat.lt_of_lt_of_le (by have := World.block_lt_of_cell? _ _ hw117_0; first | rwa [add_block] at this | exact this) GW112.out))) _).trans (hHeld))))))) (fun hHeld => ?_)
                              clear hK K
                              refine done_ (done_of HT_.out (by kernel_rfl)) ?_
                              have hcz50_0 : w44.cell? ⟨gb112, 0, none⟩ = some (.int .i64 x113000_5) := (blk_cell BK112.out 0).trans rfl
                              have hcz50_1 : w44.cell? ⟨gb112, 1, none⟩ = some (.slice none 0 0) := (blk_cell BK112.out 1).trans rfl
                              have hcz50_2 : w44.cell? ⟨gb112, 2, none⟩ = some (.slice none 0 0) := (blk_cell BK112.out 2).trans rfl
                              have hfz50_0 := blk_frozen BK112.out 0
                              have hfz50_1 := blk_frozen BK112.out 1
                              have hfz50_2 := blk_frozen BK112.out 2
                              try go_wp2
                              refine bodyPost_ret (results_ctt rfl _ _ gb112 123 #[.int .i64 (wrap64 (rd l0 x5_5)), .slice Ao46 y122.length co46, .slice Ao45 y129.length co45] (0, 0) _ rfl (by (with_reducible repeat (first | refine blk_drewN ?_ _ | refine blk_drew ?_ | refine blk_alloc ?_ _)); refine blk_put (cs := #[.int .i64 (wrap64 (rd l0 x5_5)), .slice Ao46 y122.length co46, .slice Ao45 y129.length co45]) ?_ 2 _ rfl; (with_reducible repeat (first | refine blk_drewN ?_ _ | refine blk_drew ?_ | refine blk_alloc ?_ _)); refine blk_put (cs := #[.int .i64 (wrap64 (rd l0 x5_5)), .slice Ao46 y122.length co46, .slice Ao45 y129.length co45]) ?_ 1 _ rfl; (with_reducible repeat (first | refine blk_drewN ?_ _ | refine blk_drew ?_ | refine blk_alloc ?_ _)); refine blk_put (cs := #[.int .i64 (wrap64 (rd l0 x5_5)), .slice Ao46 y122.length co46, .slice Ao45 y129.length co45]) ?_ 0 _ rfl; (with_reducible repeat (first | refine blk_drewN ?_ _ | refine blk_drew ?_ | refine blk_alloc ?_ _)); refine blk_put (cs := #[.int .i64 (wrap64 (rd l0 x5_5)), .slice Ao46 y122.length co46, .slice none 0 0]) ?_ 2 _ rfl; (with_reducible repeat (first | refine blk_drewN ?_ _ | refine blk_drew ?_ | refine blk_alloc ?_ _)); refine blk_put (cs := #[.int .i64 (wrap64 (rd l0 x5_5)), .slice none 0 0, .slice none 0 0]) ?_ 1 _ rfl; (with_reducible repeat (first | refine blk_drewN ?_ _ | refine blk_drew ?_ | refine blk_alloc ?_ _)); refine blk_put (cs := #[.int .i64 x113000_5, .slice none 0 0, .slice none 0 0]) ?_ 0 _ rfl; (with_reducible repeat (first | refine blk_drewN ?_ _ | refine blk_drew ?_ | refine blk_alloc ?_ _)); exact BK112.out) Tryd.underlying123 rfl (by kernel_rfl)) rfl ?_
                              exact ⟨_, _, by first | rfl | (simp [errW_none, errW_some] <;> rfl) | (simp only [← hji30]; first | rfl | (simp [errW_none, errW_some] <;> rfl)) | (simp [*, errW_none, errW_some] <;> rfl), by (with_reducible repeat (first | apply Kd.R_alloc | apply Kd.R_drewN | apply Kd.R_drew)); exact Kd.R_mono (Kd.R_far (p := ⟨gb112, 2, none⟩) (Kd.R_far (p := ⟨gb112, 1, none⟩) (Kd.R_far (p := ⟨gb112, 0, none⟩) (Kd.R_far (p := ⟨gb112, 2, none⟩) (Kd.R_far (p := ⟨gb112, 1, none⟩) (Kd.R_far (p := ⟨gb112, 0, none⟩) (Kd.R_types HO124.out BK112.out (by decide)) (fun _ hk => hk.2) (.int .i64 (wrap64 (rd l0 x5_5)))) (fun _ hk => hk.2) (.slice Ao46 y122.length co46)) (fun _ hk => hk.2) (.slice Ao45 y129.length co45)) (fun _ hk => hk.2) (.int .i64 (wrap64 (rd l0 x5_5)))) (fun _ hk => hk.2) (.slice Ao46 y122.length co46)) (fun _ hk => hk.2) (.slice Ao45 y129.length co45)) (fun _ hk => hk.1.2), by (with_reducible repeat (first | apply Kd.R_alloc | apply Kd.R_drewN | apply Kd.R_drew)); exact Kd.R_mono (Kd.R_far (p := ⟨gb112, 2, none⟩) (Kd.R_far (p := ⟨gb112, 1, none⟩) (Kd.R_far (p := ⟨gb112, 0, none⟩) (Kd.R_far (p := ⟨gb112, 2, none⟩) (Kd.R_far (p := ⟨gb112, 1, none⟩) (Kd.R_far (p := ⟨gb112, 0, none⟩) (Kd.R_types HO131.out BK112.out (by decide)) (fun _ hk => hk.2) (.int .i64 (wrap64 (rd l0 x5_5)))) (fun _ hk => hk.2) (.slice Ao46 y122.length co46)) (fun _ hk => hk.2) (.slice Ao45 y129.length co45)) (fun _ hk => hk.2) (.int .i64 (wrap64 (rd l0 x5_5)))) (fun _ hk => hk.2) (.slice Ao46 y122.length co46)) (fun _ hk => hk.2) (.slice Ao45 y129.length co45)) (fun _ hk => hk.1), by repeat (first | (with_reducible first | exact HB.out | apply below_alloc | apply pw_below_drewN | apply below_drew1 | refine below_set ?_ GE112.out) | exact HB.out)⟩
                            · rw [if_neg c34] at H
                              exact absurd H (by simp)
                          · rw [if_neg c33] at H
                            exact absurd H (by simp)
                        · rw [if_neg c32] at H
                          exact absurd H (by simp)
                      · rw [if_neg c31] at H
                        exact absurd H (by simp)
                    · rw [if_neg c29] at H
                      exact absurd H (by simp)
                  · rw [if_neg c28] at H
                    exact absurd H (by simp)
                · rw [if_neg c26] at H
                  exact absurd H (by simp)
              · rw [if_neg c25] at H
                exact absurd H (by simp)
    · rw [if_neg c5] at H
      exact absurd H (by simp)

end Go.Proofs.YtfhefoaieefnkaaDoor.PFnReadAttribute
