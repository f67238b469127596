-- The printed text of spec.ReadPacket with two rows mended (mendrpk.py).
import Derived.Test.YtjdnnpfhlkgooaaDoorPFnBodyReadsx0
import Derived.Test.YtjdnnpfhlkgooaaDoorPFnBodyReadsx1
namespace Go.Proofs.YtjdnnpfhlkgooaaDoor.PFnBodyReads
open Go.RowKit Go.Proofs.YtjdnnpfhlkgooaaDoorW.PrintWords Go.Proofs.YtjdnnpfhlkgooaaDoorW.PrintLast Go.Proofs.YtjdnnpfhlkgooaaDoorW.PrintMore
attribute [local go_sem] max2_int min2_int max_two min_two max_three min_three max_four min_four   -- for this text's walks alone
set_option linter.unusedVariables false
set_option linter.unusedSimpArgs false

/-! ### spec_ReadPacket: function 9 -/
def spec_ReadPacket.l0 : Nat → List Int → Int → Int → Bool → Int → List Int → Option (Int × List Int × Int × Int)
  | 0, _, _, _, _, _, _ => none
  | k + 1, x0, x6, x7, x8, x117000, x117001 => if (wrap64 ((x0.length : Int) - x6)) < x7 then (some (0, ([] : List Int), 0, 1)) else (if 0 ≤ x6 then (if x6 ≤ (wrap64 (x6 + x7)) then (if (wrap64 (x6 + x7)) ≤ (x0.length : Int) then (if x117001.length + ((x0.take ((wrap64 (x6 + x7)) : Int).toNat).drop (x6 : Int).toNat).length < 140737488355328 then ((some (x117001 ++ ((x0.take ((wrap64 (x6 + x7)) : Int).toNat).drop (x6 : Int).toNat) : List Int)).bind fun y129 => (if x8 = true then (if 0 ≤ (wrap64 (x6 + x7)) then ((spec_ReadLength.f k (x0.drop ((wrap64 (x6 + x7)) : Int).toNat)).bind fun bt133 => (if bt133.2.2.2 = 0 then (spec_ReadPacket.l0 k x0 (wrap64 ((wrap64 (x6 + x7)) + bt133.2.2.1)) bt133.1 bt133.2.1 x117000 y129) else (some (0, ([] : List Int), 0, bt133.2.2.2)))) else (none)) else (some (x117000, y129, wrap64 (x6 + x7), 0)))) else (none)) else (none)) else (none)) else (none))
def spec_ReadPacket.f (k : Nat) (l0 : List Int) : Option (Int × List Int × Int × Int) := (spec_ReadHead.f k l0).bind fun bt117 => (if bt117.2.2.2.2.2 = 0 then (if bt117.2.2.1 < 0 then (if 0 ≤ bt117.2.2.2.2.1 then (if bt117.2.2.2.2.1 ≤ (l0.length : Int) then (if ([] : List Int).length + (l0.drop (bt117.2.2.2.2.1 : Int).toNat).length < 140737488355328 then (some (bt117.1, (([] : List Int) ++ (l0.drop (bt117.2.2.2.2.1 : Int).toNat)), (l0.length : Int), 0)) else (none)) else (none)) else (none)) else (spec_ReadPacket.l0 k l0 bt117.2.2.2.2.1 bt117.2.2.1 bt117.2.2.2.1 bt117.1 ([] : List Int))) else (some (0, ([] : List Int), 0, bt117.2.2.2.2.2)))
theorem spec_ReadPacket.mono_l : ∀ k, (∀ y0 y1 y2 y3 y4 y5, LeO (spec_ReadPacket.l0 k y0 y1 y2 y3 y4 y5) (spec_ReadPacket.l0 (k + 1) y0 y1 y2 y3 y4 y5))
  | 0 => fun _ _ _ _ _ _ r h => by simp [spec_ReadPacket.l0] at h
  | k + 1 => by
    have ih0 := spec_ReadPacket.mono_l k
    · intro y0 y1 y2 y3 y4 y5
      unfold spec_ReadPacket.l0
      repeat' first
      | (with_reducible exact ih0 _ _ _ _ _ _)
      | (with_reducible exact spec_ReadHead.mono _ _)
      | (with_reducible exact spec_ReadLength.mono _ _)
      | (with_reducible exact LeO.refl _)
      | (with_reducible exact LeO.none _)
      | (with_reducible refine LeO.ite ?_ ?_)
      | (with_reducible refine LeO.bind ?_ (fun _ => ?_))
      | exact ih0 _ _ _ _ _ _
      | exact spec_ReadHead.mono _ _
      | exact spec_ReadLength.mono _ _
      | exact LeO.none _
      | refine LeO.ite ?_ ?_
      | refine LeO.bind ?_ (fun _ => ?_)
theorem spec_ReadPacket.mono : ∀ a0 k, LeO (spec_ReadPacket.f k a0) (spec_ReadPacket.f (k + 1) a0) := by
  intro a0 k
  have ih0 := spec_ReadPacket.mono_l k
  unfold spec_ReadPacket.f
  repeat' first
      | (with_reducible exact ih0 _ _ _ _ _ _)
      | (with_reducible exact spec_ReadHead.mono _ _)
      | (with_reducible exact spec_ReadLength.mono _ _)
      | (with_reducible exact LeO.refl _)
      | (with_reducible exact LeO.none _)
      | (with_reducible refine LeO.ite ?_ ?_)
      | (with_reducible refine LeO.bind ?_ (fun _ => ?_))
      | exact ih0 _ _ _ _ _ _
      | exact spec_ReadHead.mono _ _
      | exact spec_ReadLength.mono _ _
      | exact LeO.none _
      | refine LeO.ite ?_ ?_
      | refine LeO.bind ?_ (fun _ => ?_)
def spec_ReadPacket.T7 : Bool × List (List Nat × List Nat) := (true, [([], []), ([0], [0]), ([], []), ([], []), ([2, 3], [2, 3]), ([1, 4], [1, 4]), ([0, 1, 2, 3, 4, 5], []), ([6, 5, 5, 0, 1, 2, 3, 4, 5], [5, 6])])
def spec_ReadPacket.B7 : List Nat := [0, 1, 0, 0, 12, 31, 63, 127]
theorem spec_ReadPacket.tab7 : rtab .any (opsOf Tryd.f9 7) = spec_ReadPacket.T7 := by kernel_rfl
theorem spec_ReadPacket.bits7 : waitsOk spec_ReadPacket.T7.2 spec_ReadPacket.B7 = true := by kernel_rfl
def spec_ReadPacket.T12 : Bool × List (List Nat × List Nat) := (true, [([], []), ([0], [0]), ([], []), ([], []), ([], []), ([], []), ([4, 5], [4, 5]), ([2, 3, 6], [2, 3, 6]), ([1, 7], [1, 7]), ([0, 1, 2, 3, 4, 5, 6, 7, 8], []), ([9, 8, 8, 0, 1, 2, 3, 4, 5, 6, 7, 8], [8, 9])])
def spec_ReadPacket.B12 : List Nat := [0, 1, 0, 0, 0, 0, 48, 124, 255, 511, 1023]
theorem spec_ReadPacket.tab12 : rtab .any (opsOf Tryd.f9 12) = spec_ReadPacket.T12 := by kernel_rfl
theorem spec_ReadPacket.bits12 : waitsOk spec_ReadPacket.T12.2 spec_ReadPacket.B12 = true := by kernel_rfl
set_option maxHeartbeats 8000000 in
set_option maxRecDepth 100000 in
theorem spec_ReadPacket.calls (k : Nat) (A0 : Option Addr) (c0 : Nat) (l0 : List Int) (r1 : Int) (r2 : List Int) (r3 : Int) (r4 : Int) (w : World) (hr0 : Kd.C (Kd.int .u8) w A0 l0.length l0) (hc0 : l0.length ≤ c0) (h : spec_ReadPacket.f k l0 = some (r1, r2, r3, r4)) :
    Calls Tryd.prog 9 #[.slice A0 l0.length c0] w fun e w' => ∃ v1_ : Value, e = .returned (.tuple #[.agg #[.int .i64 r1, v1_], .int .i64 r3, .int .i64 r4]) ∧ Kd.R (Kd.int .u8) 5 w' w.heap.size (fun _ => True) v1_ r2 ∧ Below w.heap.size w w' := by
  have hu25 := Tryd.underlying25
  have hu77 := Tryd.underlying77
  have HR0 := Aside0.mk hr0
  have HC0 := Aside0.mk hc0
  clear hr0 hc0
  have HB := Aside0.mk (Below.refl w.heap.size w)
  have H : ((spec_ReadHead.f k l0).bind fun bt117 => (if bt117.2.2.2.2.2 = 0 then (if bt117.2.2.1 < 0 then (if 0 ≤ bt117.2.2.2.2.1 then (if bt117.2.2.2.2.1 ≤ (l0.length : Int) then (if ([] : List Int).length + (l0.drop (bt117.2.2.2.2.1 : Int).toNat).length < 140737488355328 then (some (bt117.1, (([] : List Int) ++ (l0.drop (bt117.2.2.2.2.1 : Int).toNat)), (l0.length : Int), 0)) else (none)) else (none)) else (none)) else (spec_ReadPacket.l0 k l0 bt117.2.2.2.2.1 bt117.2.2.1 bt117.2.2.2.1 bt117.1 ([] : List Int))) else (some (0, ([] : List Int), 0, bt117.2.2.2.2.2)))) = some (r1, r2, r3, r4) := h
  clear h
  replace H := Option.bind_eq_some_iff.mp H
  obtain ⟨⟨t117, t118, t119, t120, t121, t122⟩, A20, H⟩ := H
  replace H : (if t122 = 0 then (if t119 < 0 then (if 0 ≤ t121 then (if t121 ≤ (l0.length : Int) then (if ([] : List Int).length + (l0.drop (t121 : Int).toNat).length < 140737488355328 then (some (t117, (([] : List Int) ++ (l0.drop (t121 : Int).toNat)), (l0.length : Int), 0)) else (none)) else (none)) else (none)) else (spec_ReadPacket.l0 k l0 t121 t119 t120 t117 ([] : List Int))) else (some (0, ([] : List Int), 0, t122))) = some (r1, r2, r3, r4) := H
  have A2 := Aside0.mk A20
  clear A20
  by_cases c3 : t122 = 0
  · rw [if_pos c3] at H
    have c3b0 : (t122 == 0) = true := beq_iff_eq.mpr c3
    have c3b1 : (t122 != 0) = false := bne_eq_false_iff_eq.mpr c3
    clear c3
    by_cases c4 : t119 < 0
    · rw [if_pos c4] at H
      have c4b0 : decide (t119 < 0) = true := decide_eq_true c4
      clear c4
      by_cases c5 : 0 ≤ t121
      · rw [if_pos c5] at H
        have c5b0 := eq_true c5
        have c5b1 : decide (0 ≤ t121) = true := decide_eq_true c5
        clear c5
        by_cases c6 : t121 ≤ (l0.length : Int)
        · rw [if_pos c6] at H
          have c6b0 := eq_true c6
          have c6b1 : decide (t121 ≤ (l0.length : Int)) = true := decide_eq_true c6
          clear c6
          by_cases c7 : ([] : List Int).length + (l0.drop (t121 : Int).toNat).length < 140737488355328
          · rw [if_pos c7] at H
            have LMc7 := Aside0.mk c7
            clear c7
            obtain ⟨y125, hy125⟩ : ∃ y_ : List Int, y_ = (([] : List Int) ++ (l0.drop (t121 : Int).toNat)) := ⟨_, rfl⟩
            replace H : (some (t117, y125, (l0.length : Int), 0)) = some (r1, r2, r3, r4) := by first | (rw [hy125]; with_reducible exact H) | (have H2_ := (Option.bind_some _ _).symm.trans H; rw [hy125]; with_reducible exact H2_) | (have H2_ := (Option.bind_some _ _).symm.trans H; with_reducible exact H2_) | with_reducible exact H | (rw [hy125]; exact H) | exact H
            have Ny125 := Aside0.mk hy125
            clear hy125
            simp only [Option.some.injEq, Prod.mk.injEq] at H
            obtain ⟨rfl, rfl, rfl, rfl⟩ := H
            go_enter Tryd.func9, Tryd.ntmps9
            try go_wp2_with (first | ((with_reducible refine gate_dst (N := 2) rfl ?_); refine box_event ?hg (N := 2) ?hd (cs := #[.int .i64 0, .slice none 0 0]) (t := 25) ?hr ?_; (case hd => rfl); (case hg => rfl); (case hr => first | (go_simp; done) | (go_simp; rfl)); intro gb116 hg w8 hbox hb; have n0_ := Aside0.mk (below_step (by repeat (first | (with_reducible first | exact HB.out | apply below_alloc | apply pw_below_drewN | apply below_drew1) | exact HB.out)) hb); have n1_ := Aside0.mk (hbox); have n2_ := Aside0.mk ((by rw [hg]; exact (below_size (by repeat (first | (with_reducible first | exact HB.out | apply below_alloc | apply pw_below_drewN | apply below_drew1) | exact HB.out))) : w.heap.size ≤ gb116)); have n3_ := Aside0.mk ((by rw [hg]; exact (below_size (by repeat (first | (with_reducible first | exact HB.out | apply below_alloc | apply pw_below_drewN | apply below_drew1) | exact HB.out))) : w.heap.size ≤ gb116)); clear HB; have HB := n0_; have BK116 := n1_; have GW116 := n2_; have GE116 := n3_; clear n0_ n1_ n2_ n3_; clear hb hbox hg) | ((with_reducible refine gate_callee (f := 34) rfl ?_); refine goesL_ (some 12) rfl rfl Tryd.func34 (by kernel_rfl) rfl #[.slice A0 l0.length c0] rfl (by (try simp only [List.map_toArray, List.map_cons, List.map_nil]); first | done | rfl | (simp only [List.length_drop, List.length_take]; rfl)) ?_; (with_reducible refine (spec_ReadHead.calls k _ _ l0 t117 t118 t119 t120 t121 t122 _ ?side1 ?side2 A2.out).mono ?_); (case side1 => repeat (first | exact (Kd.C_below HR0.out HB.out) | (with_reducible refine Kd.C_alloc ?_ _) | (with_reducible refine Kd.C_drewN ?_ _) | (with_reducible refine Kd.C_drew ?_))); (case side2 => exact HC0.out); rintro e w9 ⟨rfl, hb⟩; refine ⟨_, rfl, ?_⟩; have n0_ := Aside0.mk (blk_below (g := gb116) (o := .cells #[.int .i64 0, .slice none 0 0] 25 (0, 0)) (by (with_reducible repeat (first | refine blk_drewN ?_ _ | refine blk_drew ?_ | refine blk_alloc ?_ _)); exact BK116.out) hb); have n1_ := Aside0.mk (below_step (by repeat (first | (with_reducible first | exact HB.out | apply below_alloc | apply pw_below_drewN | apply below_drew1 | refine below_set ?_ GE116.out) | exact HB.out)) hb); clear BK116; clear HB; have BK116 := n0_; have HB := n1_; clear n0_ n1_; (try clear hb); (try clear hb2); (try clear hk); (try clear hi)) | ((with_reducible refine gate_dst (N := 5) rfl ?_); refine box_event ?hg (N := 5) ?hd (cs := #[.int .i64 0, .bool false, .int .i64 0, .bool false, .int .i64 0]) (t := 77) ?hr ?_; (case hd => rfl); (case hg => rfl); (case hr => first | (go_simp; done) | (go_simp; rfl)); intro gb123 hg w10 hbox hb; have n0_ := Aside0.mk (blk_below (g := gb116) (o := .cells #[.int .i64 0, .slice none 0 0] 25 (0, 0)) (by (with_reducible repeat (first | refine blk_drewN ?_ _ | refine blk_drew ?_ | refine blk_alloc ?_ _)); exact BK116.out) hb); have n1_ := Aside0.mk (below_step (by repeat (first | (with_reducible first | exact HB.out | apply below_alloc | apply pw_below_drewN | apply below_drew1 | refine below_set ?_ GE116.out) | exact HB.out)) hb); have n2_ := Aside0.mk (hbox); have n3_ := Aside0.mk ((by rw [hg]; exact (below_size (by repeat (first | (with_reducible first | exact HB.out | apply below_alloc | apply pw_below_drewN | apply below_drew1 | refine below_set ?_ GE116.out) | exact HB.out))) : w.heap.size ≤ gb123)); have n4_ := Aside0.mk ((by rw [hg]; exact (below_size (by repeat (first | (with_reducible first | exact HB.out | apply below_alloc | apply pw_below_drewN | apply below_drew1 | refine below_set ?_ GE116.out) | exact HB.out))) : w.heap.size ≤ gb123)); have n5_ := Aside0.mk ((by rw [hg]; exact Nat.ne_of_lt (blk_lt (g := gb116) (o := .cells #[.int .i64 0, .slice none 0 0] 25 (0, 0)) (by (with_reducible repeat (first | refine blk_drewN ?_ _ | refine blk_drew ?_ | refine blk_alloc ?_ _)); exact BK116.out)) : gb116 ≠ gb123)); have n6_ := Aside0.mk ((by rw [hg]; exact Nat.ne_of_gt (blk_lt (g := gb116) (o := .cells #[.int .i64 0, .slice none 0 0] 25 (0, 0)) (by (with_reducible repeat (first | refine blk_drewN ?_ _ | refine blk_drew ?_ | refine blk_alloc ?_ _)); exact BK116.out)) : gb123 ≠ gb116)); clear BK116; clear HB; have BK116 := n0_; have HB := n1_; have BK123 := n2_; have GW123 := n3_; have GE123 := n4_; have NB116_123 := n5_; have NB123_116 := n6_; clear n0_ n1_ n2_ n3_ n4_ n5_ n6_; clear hb hbox hg; have hnb11 := NB123_116.out; have hnc11 := NB116_123.out; have hcz12_0 : w10.cell? ⟨gb123, 0, none⟩ = some (.int .i64 0) := (blk_cell BK123.out 0).trans rfl; have hcz12_1 : w10.cell? ⟨gb123, 1, none⟩ = some (.bool false) := (blk_cell BK123.out 1).trans rfl; have hcz12_2 : w10.cell? ⟨gb123, 2, none⟩ = some (.int .i64 0) := (blk_cell BK123.out 2).trans rfl; have hcz12_3 : w10.cell? ⟨gb123, 3, none⟩ = some (.bool false) := (blk_cell BK123.out 3).trans rfl; have hcz12_4 : w10.cell? ⟨gb123, 4, none⟩ = some (.int .i64 0) := (blk_cell BK123.out 4).trans rfl; have hfz12_0 := blk_frozen BK123.out 0; have hfz12_1 := blk_frozen BK123.out 1; have hfz12_2 := blk_frozen BK123.out 2; have hfz12_3 := blk_frozen BK123.out 3; have hfz12_4 := blk_frozen BK123.out 4; have hcz13_0 : w10.cell? ⟨gb116, 0, none⟩ = some (.int .i64 0) := (blk_cell BK116.out 0).trans rfl; have hcz13_1 : w10.cell? ⟨gb116, 1, none⟩ = some (.slice none 0 0) := (blk_cell BK116.out 1).trans rfl; have hfz13_0 := blk_frozen BK116.out 0; have hfz13_1 := blk_frozen BK116.out 1))
            have n0_ : Aside0 (((((((w10.setCell ⟨gb123, 0, none⟩ (.int .i64 t117)).setCell ⟨gb123, 1, none⟩ (.bool t118)).setCell ⟨gb123, 2, none⟩ (.int .i64 t119)).setCell ⟨gb123, 3, none⟩ (.bool t120)).setCell ⟨gb123, 4, none⟩ (.int .i64 t121)).setCell ⟨gb116, 0, none⟩ (.int .i64 t117)).heap[gb116]? = some (.cells #[.int .i64 t117, .slice none 0 0] 25 (0, 0))) := ⟨by (with_reducible repeat (first | refine blk_drewN ?_ _ | refine blk_drew ?_ | refine blk_alloc ?_ _)); refine blk_put (cs := #[.int .i64 0, .slice none 0 0]) ?_ 0 _ rfl; (with_reducible repeat (first | refine blk_drewN ?_ _ | refine blk_drew ?_ | refine blk_alloc ?_ _)); refine blk_far ?_ NB116_123.out _; (with_reducible repeat (first | refine blk_drewN ?_ _ | refine blk_drew ?_ | refine blk_alloc ?_ _)); refine blk_far ?_ NB116_123.out _; (with_reducible repeat (first | refine blk_drewN ?_ _ | refine blk_drew ?_ | refine blk_alloc ?_ _)); refine blk_far ?_ NB116_123.out _; (with_reducible repeat (first | refine blk_drewN ?_ _ | refine blk_drew ?_ | refine blk_alloc ?_ _)); refine blk_far ?_ NB116_123.out _; (with_reducible repeat (first | refine blk_drewN ?_ _ | refine blk_drew ?_ | refine blk_alloc ?_ _)); refine blk_far ?_ NB116_123.out _; (with_reducible repeat (first | refine blk_drewN ?_ _ | refine blk_drew ?_ | refine blk_alloc ?_ _)); exact BK116.out⟩
            have n1_ : Aside0 (((((((w10.setCell ⟨gb123, 0, none⟩ (.int .i64 t117)).setCell ⟨gb123, 1, none⟩ (.bool t118)).setCell ⟨gb123, 2, none⟩ (.int .i64 t119)).setCell ⟨gb123, 3, none⟩ (.bool t120)).setCell ⟨gb123, 4, none⟩ (.int .i64 t121)).setCell ⟨gb116, 0, none⟩ (.int .i64 t117)).heap[gb123]? = some (.cells #[.int .i64 t117, .bool t118, .int .i64 t119, .bool t120, .int .i64 t121] 77 (0, 0))) := ⟨by (with_reducible repeat (first | refine blk_drewN ?_ _ | refine blk_drew ?_ | refine blk_alloc ?_ _)); refine blk_far ?_ NB123_116.out _; (with_reducible repeat (first | refine blk_drewN ?_ _ | refine blk_drew ?_ | refine blk_alloc ?_ _)); refine blk_put (cs := #[.int .i64 t117, .bool t118, .int .i64 t119, .bool t120, .int .i64 0]) ?_ 4 _ rfl; (with_reducible repeat (first | refine blk_drewN ?_ _ | refine blk_drew ?_ | refine blk_alloc ?_ _)); refine blk_put (cs := #[.int .i64 t117, .bool t118, .int .i64 t119, .bool false, .int .i64 0]) ?_ 3 _ rfl; (with_reducible repeat (first | refine blk_drewN ?_ _ | refine blk_drew ?_ | refine blk_alloc ?_ _)); refine blk_put (cs := #[.int .i64 t117, .bool t118, .int .i64 0, .bool false, .int .i64 0]) ?_ 2 _ rfl; (with_reducible repeat (first | refine blk_drewN ?_ _ | refine blk_drew ?_ | refine blk_alloc ?_ _)); refine blk_put (cs := #[.int .i64 t117, .bool false, .int .i64 0, .bool false, .int .i64 0]) ?_ 1 _ rfl; (with_reducible repeat (first | refine blk_drewN ?_ _ | refine blk_drew ?_ | refine blk_alloc ?_ _)); refine blk_put (cs := #[.int .i64 0, .bool false, .int .i64 0, .bool false, .int .i64 0]) ?_ 0 _ rfl; (with_reducible repeat (first | refine blk_drewN ?_ _ | refine blk_drew ?_ | refine blk_alloc ?_ _)); exact BK123.out⟩
            have n2_ : Aside0 (Below w.heap.size w ((((((w10.setCell ⟨gb123, 0, none⟩ (.int .i64 t117)).setCell ⟨gb123, 1, none⟩ (.bool t118)).setCell ⟨gb123, 2, none⟩ (.int .i64 t119)).setCell ⟨gb123, 3, none⟩ (.bool t120)).setCell ⟨gb123, 4, none⟩ (.int .i64 t121)).setCell ⟨gb116, 0, none⟩ (.int .i64 t117))) := ⟨by repeat (first | (with_reducible first | exact HB.out | apply below_alloc | apply pw_below_drewN | apply below_drew1 | refine below_set ?_ GE116.out | refine below_set ?_ GE123.out) | exact HB.out)⟩
            (try clear BK116)
            (try clear BK123)
            (try clear HB)
            generalize ((((((w10.setCell ⟨gb123, 0, none⟩ (.int .i64 t117)).setCell ⟨gb123, 1, none⟩ (.bool t118)).setCell ⟨gb123, 2, none⟩ (.int .i64 t119)).setCell ⟨gb123, 3, none⟩ (.bool t120)).setCell ⟨gb123, 4, none⟩ (.int .i64 t121)).setCell ⟨gb116, 0, none⟩ (.int .i64 t117)) = w14 at n0_ n1_ n2_ ⊢
            have BK116 := n0_
            have BK123 := n1_
            have HB := n2_
            clear n0_ n1_ n2_
            have n0_ := Aside0.mk (blk_drew BK116.out)
            have n1_ := Aside0.mk (blk_drew BK123.out)
            have n2_ := Aside0.mk (below_drew1 HB.out)
            clear BK116
            clear BK123
            clear HB
            have BK116 := n0_
            have BK123 := n1_
            have HB := n2_
            clear n0_ n1_ n2_
            obtain ⟨i016, hi016, _, hsz16, _⟩ := info_parts info5
            obtain ⟨A16, hcut16, hA16, hC16⟩ := print_drop_of (P := Tryd.prog) (Value.int .u8) 0 22 5 .i64 Tryd.underlying22 hi016 hsz16 A0 c0 l0 t121 (of_decide_eq_true (by first | (with_reducible assumption) | assumption)) (of_decide_eq_true (by first | (with_reducible assumption) | assumption)) HC0.out
            have HR124 := Aside0.mk (Kd.C_of_reads (h1 := fun _ => rfl) (hA16 _ (Kd.reads_of_C HR0.out)))
            have HC124 := Aside0.mk hC16
            clear hA16 hC16 hi016 hsz16
            refine start_ (n := 8) (S := fun w' => w'.cell? ⟨gb116, 0, none⟩ = some (.int .i64 t117) ∧ w'.cell? ⟨gb116, 1, none⟩ = some (.slice none 0 0)) (ds := [7]) #[false, false, false, false, false, false, false, false] (by kernel_rfl) rfl rfl ⟨(blk_cell BK116.out 0).trans rfl, (blk_cell BK116.out 1).trans rfl⟩ (fun hHeld => ?_); refine with_tabW spec_ReadPacket.tab7 spec_ReadPacket.bits7 (fun HT_ HW_ => ?_)
            generalize w14.drew = w15 at BK116 BK123 HB HR124 hHeld ⊢
            refine pure_ (i := 0) (N := some 27) (v := ?_) (a' := ?_) #[true, false, false, false, false, false, false, false] rfl rfl (any_of HT_.out (by kernel_rfl)) (fun _ _ _ h => h) (Or.inl ⟨by rfl, ?_⟩) ?_ ?_
            rotate_left
            · intro w'
              go_simp
              with_reducible rfl
            rotate_left
            · simp only [Act.put, List.setIfInBounds_toArray, List.set_cons_zero, List.set_cons_succ, i64_w, i32_w]
              rfl
            refine pure_ (i := 2) (N := some 29) (v := ?_) (a' := ?_) #[true, false, true, false, false, false, false, false] rfl rfl (any_of HT_.out (by kernel_rfl)) (fun _ _ _ h => h) (Or.inl ⟨by rfl, ?_⟩) ?_ ?_
            rotate_left
            · intro w'
              go_simp
              with_reducible rfl
            rotate_left
            · simp only [Act.put, List.setIfInBounds_toArray, List.set_cons_zero, List.set_cons_succ, i64_w, i32_w]
              rfl
            refine pure_ (i := 3) (N := some 30) (v := ?_) (a' := ?_) #[true, false, true, true, false, false, false, false] rfl rfl (any_of HT_.out (by kernel_rfl)) (fun _ _ _ h => h) (Or.inl ⟨by rfl, ?_⟩) ?_ ?_
            rotate_left
            · intro w'
              go_simp
              with_reducible rfl
            rotate_left
            · simp only [Act.put, List.setIfInBounds_toArray, List.set_cons_zero, List.set_cons_succ, i64_w, i32_w]
              rfl
            refine pure_ (i := 4) (N := some 31) (v := ?_) (a' := ?_) #[true, false, true, true, true, false, false, false] rfl rfl (any_of HT_.out (by kernel_rfl)) (fun _ _ _ h => h) (Or.inl ⟨by rfl, ?_⟩) ?_ ?_
            rotate_left
            · intro w'
              go_simp
              with_reducible rfl
            rotate_left
            · simp only [Act.put, List.setIfInBounds_toArray, List.set_cons_zero, List.set_cons_succ, i64_w, i32_w]
              rfl
            refine take_ (i := 1) (N := some 28) (v := ?_) (a' := ?_) #[true, true, true, true, true, false, false, false] rfl rfl (take_ofW HT_.out HW_.out (by kernel_rfl)) (fun _ _ _ h => h) (Or.inl ⟨by rfl, ?_⟩) hHeld ?_ ?_
            rotate_left
            · rintro w' ⟨s0, s1⟩
              go_simp
              with_reducible rfl
            rotate_left
            · simp only [Act.put, List.setIfInBounds_toArray, List.set_cons_zero, List.set_cons_succ, i64_w, i32_w]
              rfl
            refine one_ (i := 5) (N := some 32) #[true, true, true, true, true, true, false, false] rfl rfl (one_of HT_.out (by kernel_rfl)) (by decide) (fun K hK => ?_)
            refine Kd.R_append_rows_step (Kd.int .u8) (w0 := w) w.heap.size (by rfl) (.tmp 28) (.tmp 31) 22 5 (.int .u8 0) 1 rfl Tryd.underlying22 info5 rfl (by decide) (by omega) (.slice none 0 0) ([] : List Int) (l0.drop (t121 : Int).toNat) _ _ _ (fun _ => True) (fun _ => False) rfl rfl ?aO ?aR (fun _ _ h => h) (fun _ h => h.elim) ?aF ?aB ?aS ?aL ?_
            (case aR => first | (rw [← show (l0.drop (t121 : Int).toNat).length = (l0.length - t121.toNat) from List.length_drop]; repeat (first | exact (Kd.C_below HR124.out HB.out) | (with_reducible refine Kd.C_alloc ?_ _) | (with_reducible refine Kd.C_drewN ?_ _) | (with_reducible refine Kd.C_drew ?_))) | (repeat (first | exact (Kd.C_below HR124.out HB.out) | (with_reducible refine Kd.C_alloc ?_ _) | (with_reducible refine Kd.C_drewN ?_ _) | (with_reducible refine Kd.C_drew ?_))))
            (case aB => exact (by repeat (first | (with_reducible first | exact HB.out | apply below_alloc | apply pw_below_drewN | apply below_drew1 | refine below_set ?_ GE116.out | refine below_set ?_ GE123.out) | exact HB.out)))
            (case aF => exact (fun _ _ => trivial))
            (case aO => exact ((Kd.R_nil _ _ _ _ (fun _ => True))))
            (case aS => exact (below_size (by repeat (first | (with_reducible first | exact HB.out | apply below_alloc | apply pw_below_drewN | apply below_drew1 | refine below_set ?_ GE116.out | refine below_set ?_ GE123.out) | exact HB.out))))
            (case aL => have := LMc7.out; have hlx_ := (show (l0.drop (t121 : Int).toNat).length = (l0.length - t121.toNat) from List.length_drop); omega)
            intro v126 w17 ho hb hg hat
            rw [← Ny125.out] at ho
            have n0_ := Aside0.mk (blk_grown (g := gb116) (o := .cells #[.int .i64 t117, .slice none 0 0] 25 (0, 0)) (by (with_reducible repeat (first | refine blk_drewN ?_ _ | refine blk_drew ?_ | refine blk_alloc ?_ _)); exact BK116.out) hg (by simp [Value.ownBlock]))
            have n1_ := Aside0.mk (blk_grown (g := gb123) (o := .cells #[.int .i64 t117, .bool t118, .int .i64 t119, .bool t120, .int .i64 t121] 77 (0, 0)) (by (with_reducible repeat (first | refine blk_drewN ?_ _ | refine blk_drew ?_ | refine blk_alloc ?_ _)); exact BK123.out) hg (by simp [Value.ownBlock]))
            have n2_ := Aside0.mk (hb)
            have n3_ := Aside0.mk (ho)
            clear BK116
            clear BK123
            clear HB
            have BK116 := n0_
            have BK123 := n1_
            have HB := n2_
            have HO127 := n3_
            clear n0_ n1_ n2_ n3_
            clear ho hb hg hat
            obtain ⟨Ao18, co18, eo18⟩ := Kd.R_slice HO127.out
            (first | subst eo18 | (injection eo18 with f1_ f2_ f3_; have f4_ := f1_.symm; have f5_ := f3_.symm; clear f1_ f2_ f3_; subst f4_; subst f5_))
            refine hK.out _ _ ⟨(blk_cell BK116.out 0).trans rfl, (blk_cell BK116.out 1).trans rfl⟩ (fun hHeld => ?_)
            clear hK K
            refine norm_ (a' := ?_) ?_ ?_
            rotate_left
            · show Act.put _ (some 32) _ = _
              simp only [Act.put, List.setIfInBounds_toArray, List.set_cons_zero, List.set_cons_succ, i64_w, i32_w]
              rfl
            refine pure_ (i := 6) (N := some 33) (v := ?_) (a' := ?_) #[true, true, true, true, true, true, true, false] rfl rfl (any_of HT_.out (by kernel_rfl)) (fun _ _ _ h => h) (Or.inl ⟨by rfl, ?_⟩) ?_ ?_
            rotate_left
            · intro w'
              go_simp
              with_reducible rfl
            rotate_left
            · simp only [Act.put, List.setIfInBounds_toArray, List.set_cons_zero, List.set_cons_succ, i64_w, i32_w]
              rfl
            refine last_ (i := 7) (N := none) #[true, true, true, true, true, true, true, true] rfl rfl (one_of HT_.out (by kernel_rfl)) (by decide) (fun K hK => ?_)
            have hs19 : w17.cell? ⟨gb116, 1, none⟩ = some (.slice none 0 0) := (blk_cell BK116.out 1).trans rfl
            have hfs19 := blk_frozen BK116.out 1
            have hns19_1 := NB123_116.out
            have hms19_1 := NB116_123.out
            refine skip_ (w1 := ?_) (by rfl) rfl ?_ ?_
            rotate_left
            · go_simp
              rfl
            refine hK.out _ _ ?_
            clear hK K
            refine done_ (done_of HT_.out (by kernel_rfl)) ?_
            have hcz20_0 : w17.cell? ⟨gb116, 0, none⟩ = some (.int .i64 t117) := (blk_cell BK116.out 0).trans rfl
            have hcz20_1 : w17.cell? ⟨gb116, 1, none⟩ = some (.slice none 0 0) := (blk_cell BK116.out 1).trans rfl
            have hfz20_0 := blk_frozen BK116.out 0
            have hfz20_1 := blk_frozen BK116.out 1
            try go_wp2
            refine bodyPost_ret (results_ctt rfl _ _ gb116 25 #[.int .i64 t117, .slice Ao18 y125.length co18] (0, 0) _ rfl (by (with_reducible repeat (first | refine blk_drewN ?_ _ | refine blk_drew ?_ | refine blk_alloc ?_ _)); refine blk_put (cs := #[.int .i64 t117, .slice Ao18 y125.length co18]) ?_ 1 _ rfl; (with_reducible repeat (first | refine blk_drewN ?_ _ | refine blk_drew ?_ | refine blk_alloc ?_ _)); refine blk_put (cs := #[.int .i64 t117, .slice Ao18 y125.length co18]) ?_ 0 _ rfl; (with_reducible repeat (first | refine blk_drewN ?_ _ | refine blk_drew ?_ | refine blk_alloc ?_ _)); refine blk_put (cs := #[.int .i64 t117, .slice none 0 0]) ?_ 1 _ rfl; (with_reducible repeat (first | refine blk_drewN ?_ _ | refine blk_drew ?_ | refine blk_alloc ?_ _)); exact BK116.out) Tryd.underlying25 rfl (by kernel_rfl)) rfl ?_
            exact ⟨_, by first | rfl | (simp [errW_none, errW_some] <;> rfl) | (simp [*, errW_none, errW_some] <;> rfl), by (with_reducible repeat (first | apply Kd.R_alloc | apply Kd.R_drewN | apply Kd.R_drew)); exact Kd.R_mono (Kd.R_far (p := ⟨gb116, 1, none⟩) (Kd.R_far (p := ⟨gb116, 0, none⟩) (Kd.R_far (p := ⟨gb116, 1, none⟩) (Kd.R_types HO127.out BK116.out (by decide)) (fun _ hk => hk.2) (.slice Ao18 y125.length co18)) (fun _ hk => hk.2) (.int .i64 t117)) (fun _ hk => hk.2) (.slice Ao18 y125.length co18)) (fun _ hk => trivial), by repeat (first | (with_reducible first | exact HB.out | apply below_alloc | apply pw_below_drewN | apply below_drew1 | refine below_set ?_ GE116.out | refine below_set ?_ GE123.out) | exact HB.out)⟩
          · rw [if_neg c7] at H
            exact absurd H (by simp)
        · rw [if_neg c6] at H
          exact absurd H (by simp)
      · rw [if_neg c5] at H
        exact absurd H (by simp)
    · rw [if_neg c4] at H
      have c4b0 : decide (t119 < 0) = false := decide_eq_false c4
      clear c4
      have H' := Aside0.mk H
      clear H
      go_enter Tryd.func9, Tryd.ntmps9
      try go_wp2_with (first | ((with_reducible refine gate_dst (N := 2) rfl ?_); refine box_event ?hg (N := 2) ?hd (cs := #[.int .i64 0, .slice none 0 0]) (t := 25) ?hr ?_; (case hd => rfl); (case hg => rfl); (case hr => first | (go_simp; done) | (go_simp; rfl)); intro gb116 hg w21 hbox hb; have n0_ := Aside0.mk (below_step (by repeat (first | (with_reducible first | exact HB.out | apply below_alloc | apply pw_below_drewN | apply below_drew1) | exact HB.out)) hb); have n1_ := Aside0.mk (hbox); have n2_ := Aside0.mk ((by rw [hg]; exact (below_size (by repeat (first | (with_reducible first | exact HB.out | apply below_alloc | apply pw_below_drewN | apply below_drew1) | exact HB.out))) : w.heap.size ≤ gb116)); have n3_ := Aside0.mk ((by rw [hg]; exact (below_size (by repeat (first | (with_reducible first | exact HB.out | apply below_alloc | apply pw_below_drewN | apply below_drew1) | exact HB.out))) : w.heap.size ≤ gb116)); clear HB; have HB := n0_; have BK116 := n1_; have GW116 := n2_; have GE116 := n3_; clear n0_ n1_ n2_ n3_; clear hb hbox hg) | ((with_reducible refine gate_callee (f := 34) rfl ?_); refine goesL_ (some 12) rfl rfl Tryd.func34 (by kernel_rfl) rfl #[.slice A0 l0.length c0] rfl (by (try simp only [List.map_toArray, List.map_cons, List.map_nil]); first | done | rfl | (simp only [List.length_drop, List.length_take]; rfl)) ?_; (with_reducible refine (spec_ReadHead.calls k _ _ l0 t117 t118 t119 t120 t121 t122 _ ?side1 ?side2 A2.out).mono ?_); (case side1 => repeat (first | exact (Kd.C_below HR0.out HB.out) | (with_reducible refine Kd.C_alloc ?_ _) | (with_reducible refine Kd.C_drewN ?_ _) | (with_reducible refine Kd.C_drew ?_))); (case side2 => exact HC0.out); rintro e w22 ⟨rfl, hb⟩; refine ⟨_, rfl, ?_⟩; have n0_ := Aside0.mk (blk_below (g := gb116) (o := .cells #[.int .i64 0, .slice none 0 0] 25 (0, 0)) (by (with_reducible repeat (first | refine blk_drewN ?_ _ | refine blk_drew ?_ | refine blk_alloc ?_ _)); exact BK116.out) hb); have n1_ := Aside0.mk (below_step (by repeat (first | (with_reducible first | exact HB.out | apply below_alloc | apply pw_below_drewN | apply below_drew1 | refine below_set ?_ GE116.out) | exact HB.out)) hb); clear BK116; clear HB; have BK116 := n0_; have HB := n1_; clear n0_ n1_; (try clear hb); (try clear hb2); (try clear hk); (try clear hi)) | ((with_reducible refine gate_dst (N := 5) rfl ?_); refine box_event ?hg (N := 5) ?hd (cs := #[.int .i64 0, .bool false, .int .i64 0, .bool false, .int .i64 0]) (t := 77) ?hr ?_; (case hd => rfl); (case hg => rfl); (case hr => first | (go_simp; done) | (go_simp; rfl)); intro gb123 hg w23 hbox hb; have n0_ := Aside0.mk (blk_below (g := gb116) (o := .cells #[.int .i64 0, .slice none 0 0] 25 (0, 0)) (by (with_reducible repeat (first | refine blk_drewN ?_ _ | refine blk_drew ?_ | refine blk_alloc ?_ _)); exact BK116.out) hb); have n1_ := Aside0.mk (below_step (by repeat (first | (with_reducible first | exact HB.out | apply below_alloc | apply pw_below_drewN | apply below_drew1 | refine below_set ?_ GE116.out) | exact HB.out)) hb); have n2_ := Aside0.mk (hbox); have n3_ := Aside0.mk ((by rw [hg]; exact (below_size (by repeat (first | (with_reducible first | exact HB.out | apply below_alloc | apply pw_below_drewN | apply below_drew1 | refine below_set ?_ GE116.out) | exact HB.out))) : w.heap.size ≤ gb123)); have n4_ := Aside0.mk ((by rw [hg]; exact (below_size (by repeat (first | (with_reducible first | exact HB.out | apply below_alloc | apply pw_below_drewN | apply below_drew1 | refine below_set ?_ GE116.out) | exact HB.out))) : w.heap.size ≤ gb123)); have n5_ := Aside0.mk ((by rw [hg]; exact Nat.ne_of_lt (blk_lt (g := gb116) (o := .cells #[.int .i64 0, .slice none 0 0] 25 (0, 0)) (by (with_reducible repeat (first | refine blk_drewN ?_ _ | refine blk_drew ?_ | refine blk_alloc ?_ _)); exact BK116.out)) : gb116 ≠ gb123)); have n6_ := Aside0.mk ((by rw [hg]; exact Nat.ne_of_gt (blk_lt (g := gb116) (o := .cells #[.int .i64 0, .slice none 0 0] 25 (0, 0)) (by (with_reducible repeat (first | refine blk_drewN ?_ _ | refine blk_drew ?_ | refine blk_alloc ?_ _)); exact BK116.out)) : gb123 ≠ gb116)); clear BK116; clear HB; have BK116 := n0_; have HB := n1_; have BK123 := n2_; have GW123 := n3_; have GE123 := n4_; have NB116_123 := n5_; have NB123_116 := n6_; clear n0_ n1_ n2_ n3_ n4_ n5_ n6_; clear hb hbox hg; have hnb24 := NB123_116.out; have hnc24 := NB116_123.out; have hcz25_0 : w23.cell? ⟨gb123, 0, none⟩ = some (.int .i64 0) := (blk_cell BK123.out 0).trans rfl; have hcz25_1 : w23.cell? ⟨gb123, 1, none⟩ = some (.bool false) := (blk_cell BK123.out 1).trans rfl; have hcz25_2 : w23.cell? ⟨gb123, 2, none⟩ = some (.int .i64 0) := (blk_cell BK123.out 2).trans rfl; have hcz25_3 : w23.cell? ⟨gb123, 3, none⟩ = some (.bool false) := (blk_cell BK123.out 3).trans rfl; have hcz25_4 : w23.cell? ⟨gb123, 4, none⟩ = some (.int .i64 0) := (blk_cell BK123.out 4).trans rfl; have hfz25_0 := blk_frozen BK123.out 0; have hfz25_1 := blk_frozen BK123.out 1; have hfz25_2 := blk_frozen BK123.out 2; have hfz25_3 := blk_frozen BK123.out 3; have hfz25_4 := blk_frozen BK123.out 4; have hcz26_0 : w23.cell? ⟨gb116, 0, none⟩ = some (.int .i64 0) := (blk_cell BK116.out 0).trans rfl; have hcz26_1 : w23.cell? ⟨gb116, 1, none⟩ = some (.slice none 0 0) := (blk_cell BK116.out 1).trans rfl; have hfz26_0 := blk_frozen BK116.out 0; have hfz26_1 := blk_frozen BK116.out 1))
      have n0_ : Aside0 (((((((w23.setCell ⟨gb123, 0, none⟩ (.int .i64 t117)).setCell ⟨gb123, 1, none⟩ (.bool t118)).setCell ⟨gb123, 2, none⟩ (.int .i64 t119)).setCell ⟨gb123, 3, none⟩ (.bool t120)).setCell ⟨gb123, 4, none⟩ (.int .i64 t121)).setCell ⟨gb116, 0, none⟩ (.int .i64 t117)).heap[gb116]? = some (.cells #[.int .i64 t117, .slice none 0 0] 25 (0, 0))) := ⟨by (with_reducible repeat (first | refine blk_drewN ?_ _ | refine blk_drew ?_ | refine blk_alloc ?_ _)); refine blk_put (cs := #[.int .i64 0, .slice none 0 0]) ?_ 0 _ rfl; (with_reducible repeat (first | refine blk_drewN ?_ _ | refine blk_drew ?_ | refine blk_alloc ?_ _)); refine blk_far ?_ NB116_123.out _; (with_reducible repeat (first | refine blk_drewN ?_ _ | refine blk_drew ?_ | refine blk_alloc ?_ _)); refine blk_far ?_ NB116_123.out _; (with_reducible repeat (first | refine blk_drewN ?_ _ | refine blk_drew ?_ | refine blk_alloc ?_ _)); refine blk_far ?_ NB116_123.out _; (with_reducible repeat (first | refine blk_drewN ?_ _ | refine blk_drew ?_ | refine blk_alloc ?_ _)); refine blk_far ?_ NB116_123.out _; (with_reducible repeat (first | refine blk_drewN ?_ _ | refine blk_drew ?_ | refine blk_alloc ?_ _)); refine blk_far ?_ NB116_123.out _; (with_reducible repeat (first | refine blk_drewN ?_ _ | refine blk_drew ?_ | refine blk_alloc ?_ _)); exact BK116.out⟩
      have n1_ : Aside0 (((((((w23.setCell ⟨gb123, 0, none⟩ (.int .i64 t117)).setCell ⟨gb123, 1, none⟩ (.bool t118)).setCell ⟨gb123, 2, none⟩ (.int .i64 t119)).setCell ⟨gb123, 3, none⟩ (.bool t120)).setCell ⟨gb123, 4, none⟩ (.int .i64 t121)).setCell ⟨gb116, 0, none⟩ (.int .i64 t117)).heap[gb123]? = some (.cells #[.int .i64 t117, .bool t118, .int .i64 t119, .bool t120, .int .i64 t121] 77 (0, 0))) := ⟨by (with_reducible repeat (first | refine blk_drewN ?_ _ | refine blk_drew ?_ | refine blk_alloc ?_ _)); refine blk_far ?_ NB123_116.out _; (with_reducible repeat (first | refine blk_drewN ?_ _ | refine blk_drew ?_ | refine blk_alloc ?_ _)); refine blk_put (cs := #[.int .i64 t117, .bool t118, .int .i64 t119, .bool t120, .int .i64 0]) ?_ 4 _ rfl; (with_reducible repeat (first | refine blk_drewN ?_ _ | refine blk_drew ?_ | refine blk_alloc ?_ _)); refine blk_put (cs := #[.int .i64 t117, .bool t118, .int .i64 t119, .bool false, .int .i64 0]) ?_ 3 _ rfl; (with_reducible repeat (first | refine blk_drewN ?_ _ | refine blk_drew ?_ | refine blk_alloc ?_ _)); refine blk_put (cs := #[.int .i64 t117, .bool t118, .int .i64 0, .bool false, .int .i64 0]) ?_ 2 _ rfl; (with_reducible repeat (first | refine blk_drewN ?_ _ | refine blk_drew ?_ | refine blk_alloc ?_ _)); refine blk_put (cs := #[.int .i64 t117, .bool false, .int .i64 0, .bool false, .int .i64 0]) ?_ 1 _ rfl; (with_reducible repeat (first | refine blk_drewN ?_ _ | refine blk_drew ?_ | refine blk_alloc ?_ _)); refine blk_put (cs := #[.int .i64 0, .bool false, .int .i64 0, .bool false, .int .i64 0]) ?_ 0 _ rfl; (with_reducible repeat (first | refine blk_drewN ?_ _ | refine blk_drew ?_ | refine blk_alloc ?_ _)); exact BK123.out⟩
      have n2_ : Aside0 (Below w.heap.size w ((((((w23.setCell ⟨gb123, 0, none⟩ (.int .i64 t117)).setCell ⟨gb123, 1, none⟩ (.bool t118)).setCell ⟨gb123, 2, none⟩ (.int .i64 t119)).setCell ⟨gb123, 3, none⟩ (.bool t120)).setCell ⟨gb123, 4, none⟩ (.int .i64 t121)).setCell ⟨gb116, 0, none⟩ (.int .i64 t117))) := ⟨by repeat (first | (with_reducible first | exact HB.out | apply below_alloc | apply pw_below_drewN | apply below_drew1 | refine below_set ?_ GE116.out | refine below_set ?_ GE123.out) | exact HB.out)⟩
      (try clear BK116)
      (try clear BK123)
      (try clear HB)
      generalize ((((((w23.setCell ⟨gb123, 0, none⟩ (.int .i64 t117)).setCell ⟨gb123, 1, none⟩ (.bool t118)).setCell ⟨gb123, 2, none⟩ (.int .i64 t119)).setCell ⟨gb123, 3, none⟩ (.bool t120)).setCell ⟨gb123, 4, none⟩ (.int .i64 t121)).setCell ⟨gb116, 0, none⟩ (.int .i64 t117)) = w27 at n0_ n1_ n2_ ⊢
      have BK116 := n0_
      have BK123 := n1_
      have HB := n2_
      clear n0_ n1_ n2_
      have n0_ := Aside0.mk (blk_drew BK116.out)
      have n1_ := Aside0.mk (blk_drew BK123.out)
      have n2_ := Aside0.mk (below_drew1 HB.out)
      clear BK116
      clear BK123
      clear HB
      have BK116 := n0_
      have BK123 := n1_
      have HB := n2_
      clear n0_ n1_ n2_
      refine start_ (n := 6) (S := fun w' => w'.cell? ⟨gb123, 0, none⟩ = some (.int .i64 t117) ∧ w'.cell? ⟨gb123, 1, none⟩ = some (.bool t118) ∧ w'.cell? ⟨gb123, 2, none⟩ = some (.int .i64 t119) ∧ w'.cell? ⟨gb123, 3, none⟩ = some (.bool t120) ∧ w'.cell? ⟨gb123, 4, none⟩ = some (.int .i64 t121)) (ds := []) #[false, false, false, false, false, false] (by kernel_rfl) rfl rfl ⟨(blk_cell BK123.out 0).trans rfl, (blk_cell BK123.out 1).trans rfl, (blk_cell BK123.out 2).trans rfl, (blk_cell BK123.out 3).trans rfl, (blk_cell BK123.out 4).trans rfl⟩ (fun hHeld => ?_)
      generalize w27.drew = w28 at BK116 BK123 HB hHeld ⊢
      refine pure_ (i := 0) (N := some 37) (v := ?_) (a' := ?_) #[true, false, false, false, false, false] rfl rfl (by kernel_rfl) (fun _ _ _ h => h) (Or.inl ⟨by rfl, ?_⟩) ?_ ?_
      rotate_left
      · intro w'
        go_simp
        with_reducible rfl
      rotate_left
      · simp only [Act.put, List.setIfInBounds_toArray, List.set_cons_zero, List.set_cons_succ, i64_w, i32_w]
        rfl
      refine pure_ (i := 2) (N := some 39) (v := ?_) (a' := ?_) #[true, false, true, false, false, false] rfl rfl (by kernel_rfl) (fun _ _ _ h => h) (Or.inl ⟨by rfl, ?_⟩) ?_ ?_
      rotate_left
      · intro w'
        go_simp
        with_reducible rfl
      rotate_left
      · simp only [Act.put, List.setIfInBounds_toArray, List.set_cons_zero, List.set_cons_succ, i64_w, i32_w]
        rfl
      refine take_ (i := 1) (N := some 38) (v := ?_) (a' := ?_) #[true, true, true, false, false, false] rfl rfl (by kernel_rfl) (fun _ _ _ h => h) (Or.inl ⟨by rfl, ?_⟩) hHeld ?_ ?_
      rotate_left
      · rintro w' ⟨s0, s1, s2, s3, s4⟩
        go_simp
        with_reducible rfl
      rotate_left
      · simp only [Act.put, List.setIfInBounds_toArray, List.set_cons_zero, List.set_cons_succ, i64_w, i32_w]
        rfl
      refine pure_ (i := 4) (N := some 7) (v := ?_) (a' := ?_) #[true, true, true, false, true, false] rfl rfl (by kernel_rfl) (fun _ _ _ h => h) (Or.inl ⟨by rfl, ?_⟩) ?_ ?_
      rotate_left
      · intro w'
        go_simp
        with_reducible rfl
      rotate_left
      · simp only [Act.put, List.setIfInBounds_toArray, List.set_cons_zero, List.set_cons_succ, i64_w, i32_w]
        rfl
      refine take_ (i := 3) (N := some 40) (v := ?_) (a' := ?_) #[true, true, true, true, true, false] rfl rfl (by kernel_rfl) (fun _ _ _ h => h) (Or.inl ⟨by rfl, ?_⟩) hHeld ?_ ?_
      rotate_left
      · rintro w' ⟨s0, s1, s2, s3, s4⟩
        go_simp
        with_reducible rfl
      rotate_left
      · simp only [Act.put, List.setIfInBounds_toArray, List.set_cons_zero, List.set_cons_succ, i64_w, i32_w]
        rfl
      refine pure_ (i := 5) (N := some 8) (v := ?_) (a' := ?_) #[true, true, true, true, true, true] rfl rfl (by kernel_rfl) (fun _ _ _ h => h) (Or.inl ⟨by rfl, ?_⟩) ?_ ?_
      rotate_left
      · intro w'
        go_simp
        with_reducible rfl
      rotate_left
      · simp only [Act.put, List.setIfInBounds_toArray, List.set_cons_zero, List.set_cons_succ, i64_w, i32_w]
        rfl
      refine done_ (by kernel_rfl) ?_
      try go_wp2
      go_loopg [6, 7, 8] k (fun kq v6 v7 v8 w' => ∃ (x6_1 : Int) (x7_1 : Int) (x8_1 : Bool) (x117000_1 : Int) (x117001_1 : List Int) (u117001 : Value), v6 = .int .i64 x6_1 ∧ v7 = .int .i64 x7_1 ∧ v8 = .bool x8_1 ∧ Aside0 (spec_ReadPacket.l0 kq l0 x6_1 x7_1 x8_1 x117000_1 x117001_1 = some (r1, r2, r3, r4)) ∧ Aside0 (kq ≤ k) ∧ Aside0 (Kd.R (Kd.int .u8) 5 w' w.heap.size (fun _ => True) u117001 x117001_1) ∧ Aside0 (w'.heap[gb116]? = some (.cells #[.int .i64 x117000_1, u117001] 25 (0, 0))) ∧ Aside0 (w'.heap[gb123]? = some (.cells #[.int .i64 t117, .bool t118, .int .i64 t119, .bool t120, .int .i64 t121] 77 (0, 0))) ∧ Aside0 (Below w.heap.size w w'))
      case atStart => exact ⟨(t121), (t119), (t120), (t117), (([] : List Int)), (.slice none 0 0), (by first | rfl | (simp; done) | (simp [*]; done)), (by first | rfl | (simp; done) | (simp [*]; done)), (by first | rfl | (simp; done) | (simp [*]; done)), H', ⟨Nat.le_refl _⟩, ⟨by first | exact Kd.R_nil _ _ _ _ _ | exact Kd.N_nil _ _ _ _ _ | exact Kd.V_nil _ _ _ _ _ | exact Kd.Q_nil _ _ _ _ _ | exact Kd.S_nil _ _ _ _ _⟩, ⟨by (with_reducible repeat (first | refine blk_drewN ?_ _ | refine blk_drew ?_ | refine blk_alloc ?_ _)); exact BK116.out⟩, ⟨by (with_reducible repeat (first | refine blk_drewN ?_ _ | refine blk_drew ?_ | refine blk_alloc ?_ _)); exact BK123.out⟩, ⟨by repeat (first | (with_reducible first | exact HB.out | apply below_alloc | apply pw_below_drewN | apply below_drew1 | refine below_set ?_ GE116.out | refine below_set ?_ GE123.out) | exact HB.out)⟩⟩
      case round =>
        clear H'
        try clear c1
        try clear c2
        try clear p2
        try clear c3
        try clear c3b0
        try clear c3b1
        try clear c4
        try clear c4b0
        try clear c5
        try clear c5b0
        try clear c5b1
        try clear c6
        try clear c6b0
        try clear c6b1
        try clear c7
        try clear c9
        try clear c11
        try clear c24
        try clear hcz12_0
        try clear hcz12_1
        try clear hcz12_2
        try clear hcz12_3
        try clear hcz12_4
        try clear hcz13_0
        try clear hcz13_1
        try clear hcz20_0
        try clear hcz20_1
        try clear hcz25_0
        try clear hcz25_1
        try clear hcz25_2
        try clear hcz25_3
        try clear hcz25_4
        try clear hcz26_0
        try clear hcz26_1
        try clear hfz12_0
        try clear hfz12_1
        try clear hfz12_2
        try clear hfz12_3
        try clear hfz12_4
        try clear hfz13_0
        try clear hfz13_1
        try clear hfz20_0
        try clear hfz20_1
        try clear hfz25_0
        try clear hfz25_1
        try clear hfz25_2
        try clear hfz25_3
        try clear hfz25_4
        try clear hfz26_0
        try clear hfz26_1
        obtain ⟨x6_1, x7_1, x8_1, x117000_1, x117001_1, u117001, rfl, rfl, rfl, HA, HK1, HO_117001, BK116, BK123, HB⟩ := hrel
        cases gk with
        | zero => exact absurd HA.out (by simp [spec_ReadPacket.l0])
        | succ k1 =>
          have H := HA.out
          clear HA
          simp only [spec_ReadPacket.l0] at H
          by_cases c29 : (wrap64 ((l0.length : Int) - x6_1)) < x7_1
          · rw [if_pos c29] at H
            have c29b0 : decide ((wrap64 ((l0.length : Int) - x6_1)) < x7_1) = true := decide_eq_true c29
            clear c29
            simp only [Option.some.injEq, Prod.mk.injEq] at H
            obtain ⟨rfl, rfl, rfl, rfl⟩ := H
            have hnb30 := NB116_123.out
            have hnc30 := NB123_116.out
            have hcz31_0 : wr.cell? ⟨gb116, 0, none⟩ = some (.int .i64 x117000_1) := (blk_cell BK116.out 0).trans rfl
            have hcz31_1 : wr.cell? ⟨gb116, 1, none⟩ = some (u117001) := (blk_cell BK116.out 1).trans rfl
            have hfz31_0 := blk_frozen BK116.out 0
            have hfz31_1 := blk_frozen BK116.out 1
            go_wp2
            refine bodyPost_ret (results_ctt rfl _ _ gb116 25 #[.int .i64 0, .slice none 0 0] (0, 0) _ rfl (by (with_reducible repeat (first | refine blk_drewN ?_ _ | refine blk_drew ?_ | refine blk_alloc ?_ _)); refine blk_put (cs := #[.int .i64 0, u117001]) ?_ 1 _ rfl; (with_reducible repeat (first | refine blk_drewN ?_ _ | refine blk_drew ?_ | refine blk_alloc ?_ _)); refine blk_put (cs := #[.int .i64 x117000_1, u117001]) ?_ 0 _ rfl; (with_reducible repeat (first | refine blk_drewN ?_ _ | refine blk_drew ?_ | refine blk_alloc ?_ _)); exact BK116.out) Tryd.underlying25 rfl (by kernel_rfl)) rfl ?_
            exact ⟨_, by first | rfl | (simp [errW_none, errW_some] <;> rfl) | (simp [*, errW_none, errW_some] <;> rfl), by first | exact Kd.R_nil _ _ _ _ _ | exact Kd.N_nil _ _ _ _ _ | exact Kd.V_nil _ _ _ _ _ | exact Kd.Q_nil _ _ _ _ _ | exact Kd.S_nil _ _ _ _ _, by repeat (first | (with_reducible first | exact HB.out | apply below_alloc | apply pw_below_drewN | apply below_drew1 | refine below_set ?_ GE116.out | refine below_set ?_ GE123.out) | exact HB.out)⟩
          · rw [if_neg c29] at H
            have c29b0 : decide ((wrap64 ((l0.length : Int) - x6_1)) < x7_1) = false := decide_eq_false c29
            clear c29
            by_cases c32 : 0 ≤ x6_1
            · rw [if_pos c32] at H
              have c32b0 := eq_true c32
              have c32b1 : decide (0 ≤ x6_1) = true := decide_eq_true c32
              clear c32
              by_cases c33 : x6_1 ≤ (wrap64 (x6_1 + x7_1))
              · rw [if_pos c33] at H
                have c33b0 := eq_true c33
                have c33b1 : decide (x6_1 ≤ (wrap64 (x6_1 + x7_1))) = true := decide_eq_true c33
                by_cases c34 : (wrap64 (x6_1 + x7_1)) ≤ (l0.length : Int)
                · rw [if_pos c34] at H
                  have c34b0 := eq_true c34
                  have c34b1 : decide ((wrap64 (x6_1 + x7_1)) ≤ (l0.length : Int)) = true := decide_eq_true c34
                  by_cases c35 : x117001_1.length + ((l0.take ((wrap64 (x6_1 + x7_1)) : Int).toNat).drop (x6_1 : Int).toNat).length < 140737488355328
                  · rw [if_pos c35] at H
                    have LMc35 := Aside0.mk c35
                    clear c35
                    obtain ⟨y129, hy129⟩ : ∃ y_ : List Int, y_ = (x117001_1 ++ ((l0.take ((wrap64 (x6_1 + x7_1)) : Int).toNat).drop (x6_1 : Int).toNat)) := ⟨_, rfl⟩
                    replace H : (if x8_1 = true then (if 0 ≤ (wrap64 (x6_1 + x7_1)) then ((spec_ReadLength.f k1 (l0.drop ((wrap64 (x6_1 + x7_1)) : Int).toNat)).bind fun bt133 => (if bt133.2.2.2 = 0 then (spec_ReadPacket.l0 k1 l0 (wrap64 ((wrap64 (x6_1 + x7_1)) + bt133.2.2.1)) bt133.1 bt133.2.1 x117000_1 y129) else (some (0, ([] : List Int), 0, bt133.2.2.2)))) else (none)) else (some (x117000_1, y129, wrap64 (x6_1 + x7_1), 0))) = some (r1, r2, r3, r4) := by first | (rw [hy129]; with_reducible exact H) | (have H2_ := (Option.bind_some _ _).symm.trans H; rw [hy129]; with_reducible exact H2_) | (have H2_ := (Option.bind_some _ _).symm.trans H; with_reducible exact H2_) | with_reducible exact H | (rw [hy129]; exact H) | exact H
                    have Ny129 := Aside0.mk hy129
                    clear hy129
                    by_cases c36 : x8_1 = true
                    · subst c36
                      have H1 : (if 0 ≤ (wrap64 (x6_1 + x7_1)) then ((spec_ReadLength.f k1 (l0.drop ((wrap64 (x6_1 + x7_1)) : Int).toNat)).bind fun bt133 => (if bt133.2.2.2 = 0 then (spec_ReadPacket.l0 k1 l0 (wrap64 ((wrap64 (x6_1 + x7_1)) + bt133.2.2.1)) bt133.1 bt133.2.1 x117000_1 y129) else (some (0, ([] : List Int), 0, bt133.2.2.2)))) else (none)) = some (r1, r2, r3, r4) := by rw [if_pos rfl] at H; exact H
                      clear H
                      have H := H1
                      clear H1
                      obtain ⟨ji37, hji37⟩ : ∃ j_ : Int, (wrap64 (x6_1 + x7_1)) = j_ := ⟨_, rfl⟩
                      replace H : (if 0 ≤ (ji37) then ((spec_ReadLength.f k1 (l0.drop ((ji37) : Int).toNat)).bind fun bt133 => (if bt133.2.2.2 = 0 then (spec_ReadPacket.l0 k1 l0 (wrap64 ((ji37) + bt133.2.2.1)) bt133.1 bt133.2.1 x117000_1 y129) else (some (0, ([] : List Int), 0, bt133.2.2.2)))) else (none)) = some (r1, r2, r3, r4) := by first | (rw [hji37] at H; exact H) | (simp only [hji37] at H ⊢; exact H)
                      (try rw [hji37] at c33b0)
                      (try rw [hji37] at c33b1)
                      (try rw [hji37] at c33)
                      (try rw [hji37] at c34b0)
                      (try rw [hji37] at c34b1)
                      (try rw [hji37] at c34)
                      (try rw [hji37] at Ny129)
                      (try rw [hji37] at Ny129)
                      have hji37w : (IntKind.i64.wrap (x6_1 + x7_1)) = ji37 := (i64_w _).trans hji37
                      by_cases c38 : 0 ≤ (ji37)
                      · rw [if_pos c38] at H
                        have c38b0 := eq_true c38
                        have c38b1 : decide (0 ≤ (ji37)) = true := decide_eq_true c38
                        clear c38
                        have c39b0 := eq_true (of_decide_eq_true (by first | (with_reducible assumption) | assumption) : (ji37) ≤ (l0.length : Int))
                        replace H := Option.bind_eq_some_iff.mp H
                        obtain ⟨⟨t133, t134, t135, t136⟩, A400, H⟩ := H
                        replace H : (if t136 = 0 then (spec_ReadPacket.l0 k1 l0 (wrap64 ((ji37) + t135)) t133 t134 x117000_1 y129) else (some (0, ([] : List Int), 0, t136))) = some (r1, r2, r3, r4) := H
                        have A40 := Aside0.mk A400
                        clear A400
                        by_cases c41 : t136 = 0
                        · rw [if_pos c41] at H
                          have c41b0 : (t136 == 0) = true := beq_iff_eq.mpr c41
                          have c41b1 : (t136 != 0) = false := bne_eq_false_iff_eq.mpr c41
                          clear c41
                          have H' := Aside0.mk H
                          clear H
                          try go_wp2
                          have n0_ := Aside0.mk (Kd.R_drew HO_117001.out)
                          have n1_ := Aside0.mk (blk_drew BK116.out)
                          have n2_ := Aside0.mk (blk_drew BK123.out)
                          have n3_ := Aside0.mk (below_drew1 HB.out)
                          clear HO_117001
                          clear BK116
                          clear BK123
                          clear HB
                          have HO_117001 := n0_
                          have BK116 := n1_
                          have BK123 := n2_
                          have HB := n3_
                          clear n0_ n1_ n2_ n3_
                          obtain ⟨i043, hi043, _, hsz43, _⟩ := info_parts info5
                          obtain ⟨A43, hcut43, hA43, hC43⟩ := print_mid_of (P := Tryd.prog) (Value.int .u8) 0 22 5 .i64 .i64 Tryd.underlying22 hi043 hsz43 A0 c0 l0 x6_1 (ji37) (of_decide_eq_true (by first | (with_reducible assumption) | assumption)) (by first | omega | exact of_decide_eq_true (by first | (with_reducible assumption) | assumption)) (of_decide_eq_true (by first | (with_reducible assumption) | assumption)) HC0.out
                          have HR128 := Aside0.mk (Kd.C_of_reads (h1 := fun _ => rfl) (hA43 _ (Kd.reads_of_C HR0.out)))
                          have HC128 := Aside0.mk hC43
                          clear hA43 hC43 hi043 hsz43
                          refine start_ (n := 11) (S := fun w' => w'.cell? ⟨gb116, 0, none⟩ = some (.int .i64 x117000_1) ∧ w'.cell? ⟨gb116, 1, none⟩ = some (u117001)) (ds := [10]) #[false, false, false, false, false, false, false, false, false, false, false] (by kernel_rfl) rfl rfl ⟨(blk_cell BK116.out 0).trans rfl, (blk_cell BK116.out 1).trans rfl⟩ (fun hHeld => ?_); refine with_tabW spec_ReadPacket.tab12 spec_ReadPacket.bits12 (fun HT_ HW_ => ?_)
                          generalize wr.drew = w42 at HO_117001 BK116 BK123 HB HR128 hHeld ⊢
                          refine pure_ (i := 0) (N := some 48) (v := ?_) (a' := ?_) #[true, false, false, false, false, false, false, false, false, false, false] rfl rfl (any_of HT_.out (by kernel_rfl)) (fun _ _ _ h => h) (Or.inl ⟨by rfl, ?_⟩) ?_ ?_
                          rotate_left
                          · intro w'
                            go_simp
                            with_reducible rfl
                          rotate_left
                          · simp only [Act.put, List.setIfInBounds_toArray, List.set_cons_zero, List.set_cons_succ, i64_w, i32_w]
                            rfl
                          refine pure_ (i := 2) (N := some 50) (v := ?_) (a' := ?_) #[true, false, true, false, false, false, false, false, false, false, false] rfl rfl (any_of HT_.out (by kernel_rfl)) (fun _ _ _ h => h) (Or.inl ⟨by rfl, ?_⟩) ?_ ?_
                          rotate_left
                          · intro w'
                            go_simp
                            with_reducible rfl
                          rotate_left
                          · simp only [Act.put, List.setIfInBounds_toArray, List.set_cons_zero, List.set_cons_succ, i64_w, i32_w]
                            rfl
                          refine pure_ (i := 3) (N := some 51) (v := ?_) (a' := ?_) #[true, false, true, true, false, false, false, false, false, false, false] rfl rfl (any_of HT_.out (by kernel_rfl)) (fun _ _ _ h => h) (Or.inl ⟨by rfl, ?_⟩) ?_ ?_
                          rotate_left
                          · intro w'
                            go_simp
                            with_reducible rfl
                          rotate_left
                          · simp only [Act.put, List.setIfInBounds_toArray, List.set_cons_zero, List.set_cons_succ, i64_w, i32_w]
                            rfl
                          refine pure_ (i := 4) (N := some 52) (v := ?_) (a' := ?_) #[true, false, true, true, true, false, false, false, false, false, false] rfl rfl (any_of HT_.out (by kernel_rfl)) (fun _ _ _ h => h) (Or.inl ⟨by rfl, ?_⟩) ?_ ?_
                          rotate_left
                          · intro w'
                            go_simp
                            with_reducible rfl
                          rotate_left
                          · simp only [Act.put, List.setIfInBounds_toArray, List.set_cons_zero, List.set_cons_succ, i64_w, i32_w]
                            rfl
                          refine pure_ (i := 5) (N := some 53) (v := ?_) (a' := ?_) #[true, false, true, true, true, true, false, false, false, false, false] rfl rfl (any_of HT_.out (by kernel_rfl)) (fun _ _ _ h => h) (Or.inl ⟨by rfl, ?_⟩) ?_ ?_
                          rotate_left
                          · intro w'
                            go_simp
                            with_reducible rfl
                          rotate_left
                          · simp only [Act.put, List.setIfInBounds_toArray, List.set_cons_zero, List.set_cons_succ, i64_w, i32_w]
                            rfl
                          refine pure_ (i := 6) (N := some 54) (v := ?_) (a' := ?_) #[true, false, true, true, true, true, true, false, false, false, false] rfl rfl (any_of HT_.out (by kernel_rfl)) (fun _ _ _ h => h) (Or.inl ⟨by rfl, ?_⟩) ?_ ?_
                          rotate_left
                          · intro w'
                            go_simp
                            with_reducible rfl
                          rotate_left
                          · simp only [Act.put, List.setIfInBounds_toArray, List.set_cons_zero, List.set_cons_succ, i64_w, i32_w]
                            rfl
                          refine pure_ (i := 7) (N := some 55) (v := ?_) (a' := ?_) #[true, false, true, true, true, true, true, true, false, false, false] rfl rfl (any_of HT_.out (by kernel_rfl)) (fun _ _ _ h => h) (Or.inl ⟨by rfl, ?_⟩) ?_ ?_
                          rotate_left
                          · intro w'
                            go_simp
                            with_reducible rfl
                          rotate_left
                          · simp only [Act.put, List.setIfInBounds_toArray, List.set_cons_zero, List.set_cons_succ, i64_w, i32_w]
                            rfl
                          refine take_ (i := 1) (N := some 49) (v := ?_) (a' := ?_) #[true, true, true, true, true, true, true, true, false, false, false] rfl rfl (take_ofW HT_.out HW_.out (by kernel_rfl)) (fun _ _ _ h => h) (Or.inl ⟨by rfl, ?_⟩) hHeld ?_ ?_
                          rotate_left
                          · rintro w' ⟨s0, s1⟩
                            go_simp
                            with_reducible rfl
                          rotate_left
                          · simp only [Act.put, List.setIfInBounds_toArray, List.set_cons_zero, List.set_cons_succ, i64_w, i32_w]
                            rfl
                          refine one_ (i := 8) (N := some 56) #[true, true, true, true, true, true, true, true, true, false, false] rfl rfl (one_of HT_.out (by kernel_rfl)) (by decide) (fun K hK => ?_)
                          refine Kd.R_append_rows_step (Kd.int .u8) (w0 := w) w.heap.size (by rfl) (.tmp 49) (.tmp 55) 22 5 (.int .u8 0) 1 rfl Tryd.underlying22 info5 rfl (by decide) (by omega) u117001 x117001_1 ((l0.take ((ji37) : Int).toNat).drop (x6_1 : Int).toNat) _ _ _ (fun _ => True) (fun _ => False) rfl rfl ?aO ?aR (fun _ _ h => h) (fun _ h => h.elim) ?aF ?aB ?aS ?aL ?_
                          (case aR => first | (rw [← show ((l0.take ((ji37) : Int).toNat).drop (x6_1 : Int).toNat).length = ((ji37).toNat - x6_1.toNat) from (by rw [List.length_drop, List.length_take]; have h_ : ((ji37) : Int) ≤ (l0.length : Int) := of_decide_eq_true (by first | (with_reducible assumption) | assumption); omega)]; repeat (first | exact (Kd.C_below HR128.out HB.out) | (with_reducible refine Kd.C_alloc ?_ _) | (with_reducible refine Kd.C_drewN ?_ _) | (with_reducible refine Kd.C_drew ?_))) | (repeat (first | exact (Kd.C_below HR128.out HB.out) | (with_reducible refine Kd.C_alloc ?_ _) | (with_reducible refine Kd.C_drewN ?_ _) | (with_reducible refine Kd.C_drew ?_))))
                          (case aB => exact (by repeat (first | (with_reducible first | exact HB.out | apply below_alloc | apply pw_below_drewN | apply below_drew1 | refine below_set ?_ GE116.out | refine below_set ?_ GE123.out) | exact HB.out)))
                          (case aF => exact (fun _ _ => trivial))
                          (case aO => exact (by (with_reducible repeat (first | apply Kd.R_alloc | apply Kd.R_drewN | apply Kd.R_drew)); exact HO_117001.out))
                          (case aS => exact (below_size (by repeat (first | (with_reducible first | exact HB.out | apply below_alloc | apply pw_below_drewN | apply below_drew1 | refine below_set ?_ GE116.out | refine below_set ?_ GE123.out) | exact HB.out))))
                          (case aL => have := LMc35.out; rw [hji37] at this; have hlx_ := (show ((l0.take ((ji37) : Int).toNat).drop (x6_1 : Int).toNat).length = ((ji37).toNat - x6_1.toNat) from (by rw [List.length_drop, List.length_take]; have h_ : ((ji37) : Int) ≤ (l0.length : Int) := of_decide_eq_true (by first | (with_reducible assumption) | assumption); omega)); omega)
                          intro v130 w44 ho hb hg hat
                          rw [← Ny129.out] at ho
                          have n0_ := Aside0.mk (blk_grown (g := gb116) (o := .cells #[.int .i64 x117000_1, u117001] 25 (0, 0)) (by (with_reducible repeat (first | refine blk_drewN ?_ _ | refine blk_drew ?_ | refine blk_alloc ?_ _)); exact BK116.out) hg (Kd.R_ne HO_117001.out BK116.out (by decide)))
                          have n1_ := Aside0.mk (blk_grown (g := gb123) (o := .cells #[.int .i64 t117, .bool t118, .int .i64 t119, .bool t120, .int .i64 t121] 77 (0, 0)) (by (with_reducible repeat (first | refine blk_drewN ?_ _ | refine blk_drew ?_ | refine blk_alloc ?_ _)); exact BK123.out) hg (Kd.R_ne HO_117001.out BK123.out (by decide)))
                          have n2_ := Aside0.mk (hb)
                          have n3_ := Aside0.mk (ho)
                          clear BK116
                          clear BK123
                          clear HB
                          clear HO_117001
                          have BK116 := n0_
                          have BK123 := n1_
                          have HB := n2_
                          have HO131 := n3_
                          clear n0_ n1_ n2_ n3_
                          clear ho hb hg hat
                          obtain ⟨Ao45, co45, eo45⟩ := Kd.R_slice HO131.out
                          (first | subst eo45 | (injection eo45 with f1_ f2_ f3_; have f4_ := f1_.symm; have f5_ := f3_.symm; clear f1_ f2_ f3_; subst f4_; subst f5_))
                          refine hK.out _ _ ⟨(blk_cell BK116.out 0).trans rfl, (blk_cell BK116.out 1).trans rfl⟩ (fun hHeld => ?_)
                          clear hK K
                          refine norm_ (a' := ?_) ?_ ?_
                          rotate_left
                          · show Act.put _ (some 56) _ = _
                            simp only [Act.put, List.setIfInBounds_toArray, List.set_cons_zero, List.set_cons_succ, i64_w, i32_w]
                            rfl
                          refine pure_ (i := 9) (N := some 57) (v := ?_) (a' := ?_) #[true, true, true, true, true, true, true, true, true, true, false] rfl rfl (any_of HT_.out (by kernel_rfl)) (fun _ _ _ h => h) (Or.inl ⟨by rfl, ?_⟩) ?_ ?_
                          rotate_left
                          · intro w'
                            go_simp
                            with_reducible rfl
                          rotate_left
                          · simp only [Act.put, List.setIfInBounds_toArray, List.set_cons_zero, List.set_cons_succ, i64_w, i32_w]
                            rfl
                          refine last_ (i := 10) (N := none) #[true, true, true, true, true, true, true, true, true, true, true] rfl rfl (one_of HT_.out (by kernel_rfl)) (by decide) (fun K hK => ?_)
                          have hs46 : w44.cell? ⟨gb116, 1, none⟩ = some (u117001) := (blk_cell BK116.out 1).trans rfl
                          have hfs46 := blk_frozen BK116.out 1
                          have hns46_1 := NB123_116.out
                          have hms46_1 := NB116_123.out
                          refine skip_ (w1 := ?_) (by rfl) rfl ?_ ?_
                          rotate_left
                          · go_simp
                            rfl
                          refine hK.out _ _ ?_
                          clear hK K
                          refine done_ (done_of HT_.out (by kernel_rfl)) ?_
                          obtain ⟨i047, hi047, _, hsz47, _⟩ := info_parts info5
                          obtain ⟨A47, hcut47, hA47, hC47⟩ := print_drop_of (P := Tryd.prog) (Value.int .u8) 0 22 5 .i64 Tryd.underlying22 hi047 hsz47 A0 c0 l0 (ji37) (of_decide_eq_true (by first | (with_reducible assumption) | assumption)) (of_decide_eq_true (by first | (with_reducible assumption) | assumption)) HC0.out
                          have HR132 := Aside0.mk (Kd.C_of_reads (h1 := fun _ => rfl) (hA47 _ (Kd.reads_of_C HR0.out)))
                          have HC132 := Aside0.mk hC47
                          clear hA47 hC47 hi047 hsz47
                          try go_wp2_with (first | ((with_reducible refine gate_callee (f := 35) rfl ?_); refine goesL_ (some 69) rfl rfl Tryd.func35 (by kernel_rfl) rfl #[.slice A47 (l0.drop ((ji37) : Int).toNat).length (c0 - (ji37).toNat)] rfl (by (try simp only [List.map_toArray, List.map_cons, List.map_nil]); first | done | (rw [show (l0.drop ((ji37) : Int).toNat).length = (l0.length - (ji37).toNat) from List.length_drop] <;> rfl) | (simp only [hji37]; rfl) | rfl | (simp only [List.length_drop, List.length_take]; rfl)) ?_; (with_reducible refine (spec_ReadLength.calls k1 _ _ (l0.drop ((ji37) : Int).toNat) t133 t134 t135 t136 _ ?side1 ?side2 A40.out).mono ?_); (case side1 => exact Kd.C_below HR132.out (by repeat (first | (with_reducible first | exact HB.out | apply below_alloc | apply pw_below_drewN | apply below_drew1 | refine below_set ?_ GE116.out | refine below_set ?_ GE123.out) | exact HB.out))); (case side2 => exact HC132.out); rintro e w' ⟨rfl, ⟨nd, rfl⟩⟩; refine ⟨_, rfl, ?_⟩))
                          go_roundg k1
                          case measure => have := HK1.out; omega
                          case rel => exact ⟨(wrap64 ((ji37) + t135)), (t133), (t134), (x117000_1), (y129), (.slice Ao45 y129.length co45), (by first | rfl | (simp; done) | (simp only [← hji37] <;> (first | rfl | simp)) | (simp [*]; done)), (by first | rfl | (simp; done) | (simp [*]; done)), (by first | rfl | (simp; done) | (simp [*]; done)), H', ⟨by have := HK1.out; omega⟩, ⟨by (with_reducible repeat (first | apply Kd.R_alloc | apply Kd.R_drewN | apply Kd.R_drew)); exact Kd.R_mono (Kd.R_far (p := ⟨gb116, 1, none⟩) (Kd.R_types HO131.out BK116.out (by decide)) (fun _ hk => hk.2) (.slice Ao45 y129.length co45)) (fun _ hk => trivial)⟩, ⟨by (with_reducible repeat (first | refine blk_drewN ?_ _ | refine blk_drew ?_ | refine blk_alloc ?_ _)); refine blk_put (cs := #[.int .i64 x117000_1, u117001]) ?_ 1 _ rfl; (with_reducible repeat (first | refine blk_drewN ?_ _ | refine blk_drew ?_ | refine blk_alloc ?_ _)); exact BK116.out⟩, ⟨by (with_reducible repeat (first | refine blk_drewN ?_ _ | refine blk_drew ?_ | refine blk_alloc ?_ _)); refine blk_far ?_ NB123_116.out _; (with_reducible repeat (first | refine blk_drewN ?_ _ | refine blk_drew ?_ | refine blk_alloc ?_ _)); exact BK123.out⟩, ⟨by repeat (first | (with_reducible first | exact HB.out | apply below_alloc | apply pw_below_drewN | apply below_drew1 | refine below_set ?_ GE116.out | refine below_set ?_ GE123.out) | exact HB.out)⟩⟩
                        · rw [if_neg c41] at H
                          have c41b0 : (t136 == 0) = false := beq_eq_false_iff_ne.mpr c41
                          have c41b1 : (t136 != 0) = true := bne_iff_ne.mpr c41
                          simp only [Option.some.injEq, Prod.mk.injEq] at H
                          obtain ⟨rfl, rfl, rfl, rfl⟩ := H
                          try go_wp2
                          have n0_ := Aside0.mk (Kd.R_drew HO_117001.out)
                          have n1_ := Aside0.mk (blk_drew BK116.out)
                          have n2_ := Aside0.mk (blk_drew BK123.out)
                          have n3_ := Aside0.mk (below_drew1 HB.out)
                          clear HO_117001
                          clear BK116
                          clear BK123
                          clear HB
                          have HO_117001 := n0_
                          have BK116 := n1_
                          have BK123 := n2_
                          have HB := n3_
                          clear n0_ n1_ n2_ n3_
                          obtain ⟨i049, hi049, _, hsz49, _⟩ := info_parts info5
                          obtain ⟨A49, hcut49, hA49, hC49⟩ := print_mid_of (P := Tryd.prog) (Value.int .u8) 0 22 5 .i64 .i64 Tryd.underlying22 hi049 hsz49 A0 c0 l0 x6_1 (ji37) (of_decide_eq_true (by first | (with_reducible assumption) | assumption)) (by first | omega | exact of_decide_eq_true (by first | (with_reducible assumption) | assumption)) (of_decide_eq_true (by first | (with_reducible assumption) | assumption)) HC0.out
                          have HR128 := Aside0.mk (Kd.C_of_reads (h1 := fun _ => rfl) (hA49 _ (Kd.reads_of_C HR0.out)))
                          have HC128 := Aside0.mk hC49
                          clear hA49 hC49 hi049 hsz49
                          refine start_ (n := 11) (S := fun w' => w'.cell? ⟨gb116, 0, none⟩ = some (.int .i64 x117000_1) ∧ w'.cell? ⟨gb116, 1, none⟩ = some (u117001)) (ds := [10]) #[false, false, false, false, false, false, false, false, false, false, false] (by kernel_rfl) rfl rfl ⟨(blk_cell BK116.out 0).trans rfl, (blk_cell BK116.out 1).trans rfl⟩ (fun hHeld => ?_); refine with_tabW spec_ReadPacket.tab12 spec_ReadPacket.bits12 (fun HT_ HW_ => ?_)
                          generalize wr.drew = w48 at HO_117001 BK116 BK123 HB HR128 hHeld ⊢
                          refine pure_ (i := 0) (N := some 48) (v := ?_) (a' := ?_) #[true, false, false, false, false, false, false, false, false, false, false] rfl rfl (any_of HT_.out (by kernel_rfl)) (fun _ _ _ h => h) (Or.inl ⟨by rfl, ?_⟩) ?_ ?_
                          rotate_left
                          · intro w'
                            go_simp
                            with_reducible rfl
                          rotate_left
                          · simp only [Act.put, List.setIfInBounds_toArray, List.set_cons_zero, List.set_cons_succ, i64_w, i32_w]
                            rfl
                          refine pure_ (i := 2) (N := some 50) (v := ?_) (a' := ?_) #[true, false, true, false, false, false, false, false, false, false, false] rfl rfl (any_of HT_.out (by kernel_rfl)) (fun _ _ _ h => h) (Or.inl ⟨by rfl, ?_⟩) ?_ ?_
                          rotate_left
                          · intro w'
                            go_simp
                            with_reducible rfl
                          rotate_left
                          · simp only [Act.put, List.setIfInBounds_toArray, List.set_cons_zero, List.set_cons_succ, i64_w, i32_w]
                            rfl
                          refine pure_ (i := 3) (N := some 51) (v := ?_) (a' := ?_) #[true, false, true, true, false, false, false, false, false, false, false] rfl rfl (any_of HT_.out (by kernel_rfl)) (fun _ _ _ h => h) (Or.inl ⟨by rfl, ?_⟩) ?_ ?_
                          rotate_left
                          · intro w'
                            go_simp
                            with_reducible rfl
                          rotate_left
                          · simp only [Act.put, List.setIfInBounds_toArray, List.set_cons_zero, List.set_cons_succ, i64_w, i32_w]
                            rfl
                          refine pure_ (i := 4) (N := some 52) (v := ?_) (a' := ?_) #[true, false, true, true, true, false, false, false, false, false, false] rfl rfl (any_of HT_.out (by kernel_rfl)) (fun _ _ _ h => h) (Or.inl ⟨by rfl, ?_⟩) ?_ ?_
                          rotate_left
                          · intro w'
                            go_simp
                            with_reducible rfl
                          rotate_left
                          · simp only [Act.put, List.setIfInBounds_toArray, List.set_cons_zero, List.set_cons_succ, i64_w, i32_w]
                            rfl
                          refine pure_ (i := 5) (N := some 53) (v := ?_) (a' := ?_) #[true, false, true, true, true, true, false, false, false, false, false] rfl rfl (any_of HT_.out (by kernel_rfl)) (fun _ _ _ h => h) (Or.inl ⟨by rfl, ?_⟩) ?_ ?_
                          rotate_left
                          · intro w'
                            go_simp
                            with_reducible rfl
                          rotate_left
                          · simp only [Act.put, List.setIfInBounds_toArray, List.set_cons_zero, List.set_cons_succ, i64_w, i32_w]
                            rfl
                          refine pure_ (i := 6) (N := some 54) (v := ?_) (a' := ?_) #[true, false, true, true, true, true, true, false, false, false, false] rfl rfl (any_of HT_.out (by kernel_rfl)) (fun _ _ _ h => h) (Or.inl ⟨by rfl, ?_⟩) ?_ ?_
                          rotate_left
                          · intro w'
                            go_simp
                            with_reducible rfl
                          rotate_left
                          · simp only [Act.put, List.setIfInBounds_toArray, List.set_cons_zero, List.set_cons_succ, i64_w, i32_w]
                            rfl
                          refine pure_ (i := 7) (N := some 55) (v := ?_) (a' := ?_) #[true, false, true, true, true, true, true, true, false, false, false] rfl rfl (any_of HT_.out (by kernel_rfl)) (fun _ _ _ h => h) (Or.inl ⟨by rfl, ?_⟩) ?_ ?_
                          rotate_left
                          · intro w'
                            go_simp
                            with_reducible rfl
                          rotate_left
                          · simp only [Act.put, List.setIfInBounds_toArray, List.set_cons_zero, List.set_cons_succ, i64_w, i32_w]
                            rfl
                          refine take_ (i := 1) (N := some 49) (v := ?_) (a' := ?_) #[true, true, true, true, true, true, true, true, false, false, false] rfl rfl (take_ofW HT_.out HW_.out (by kernel_rfl)) (fun _ _ _ h => h) (Or.inl ⟨by rfl, ?_⟩) hHeld ?_ ?_
                          rotate_left
                          · rintro w' ⟨s0, s1⟩
                            go_simp
                            with_reducible rfl
                          rotate_left
                          · simp only [Act.put, List.setIfInBounds_toArray, List.set_cons_zero, List.set_cons_succ, i64_w, i32_w]
                            rfl
                          refine one_ (i := 8) (N := some 56) #[true, true, true, true, true, true, true, true, true, false, false] rfl rfl (one_of HT_.out (by kernel_rfl)) (by decide) (fun K hK => ?_)
                          refine Kd.R_append_rows_step (Kd.int .u8) (w0 := w) w.heap.size (by rfl) (.tmp 49) (.tmp 55) 22 5 (.int .u8 0) 1 rfl Tryd.underlying22 info5 rfl (by decide) (by omega) u117001 x117001_1 ((l0.take ((ji37) : Int).toNat).drop (x6_1 : Int).toNat) _ _ _ (fun _ => True) (fun _ => False) rfl rfl ?aO ?aR (fun _ _ h => h) (fun _ h => h.elim) ?aF ?aB ?aS ?aL ?_
                          (case aR => first | (rw [← show ((l0.take ((ji37) : Int).toNat).drop (x6_1 : Int).toNat).length = ((ji37).toNat - x6_1.toNat) from (by rw [List.length_drop, List.length_take]; have h_ : ((ji37) : Int) ≤ (l0.length : Int) := of_decide_eq_true (by first | (with_reducible assumption) | assumption); omega)]; repeat (first | exact (Kd.C_below HR128.out HB.out) | (with_reducible refine Kd.C_alloc ?_ _) | (with_reducible refine Kd.C_drewN ?_ _) | (with_reducible refine Kd.C_drew ?_))) | (repeat (first | exact (Kd.C_below HR128.out HB.out) | (with_reducible refine Kd.C_alloc ?_ _) | (with_reducible refine Kd.C_drewN ?_ _) | (with_reducible refine Kd.C_drew ?_))))
                          (case aB => exact (by repeat (first | (with_reducible first | exact HB.out | apply below_alloc | apply pw_below_drewN | apply below_drew1 | refine below_set ?_ GE116.out | refine below_set ?_ GE123.out) | exact HB.out)))
                          (case aF => exact (fun _ _ => trivial))
                          (case aO => exact (by (with_reducible repeat (first | apply Kd.R_alloc | apply Kd.R_drewN | apply Kd.R_drew)); exact HO_117001.out))
                          (case aS => exact (below_size (by repeat (first | (with_reducible first | exact HB.out | apply below_alloc | apply pw_below_drewN | apply below_drew1 | refine below_set ?_ GE116.out | refine below_set ?_ GE123.out) | exact HB.out))))
                          (case aL => have := LMc35.out; rw [hji37] at this; have hlx_ := (show ((l0.take ((ji37) : Int).toNat).drop (x6_1 : Int).toNat).length = ((ji37).toNat - x6_1.toNat) from (by rw [List.length_drop, List.length_take]; have h_ : ((ji37) : Int) ≤ (l0.length : Int) := of_decide_eq_true (by first | (with_reducible assumption) | assumption); omega)); omega)
                          intro v130 w50 ho hb hg hat
                          rw [← Ny129.out] at ho
                          have n0_ := Aside0.mk (blk_grown (g := gb116) (o := .cells #[.int .i64 x117000_1, u117001] 25 (0, 0)) (by (with_reducible repeat (first | refine blk_drewN ?_ _ | refine blk_drew ?_ | refine blk_alloc ?_ _)); exact BK116.out) hg (Kd.R_ne HO_117001.out BK116.out (by decide)))
                          have n1_ := Aside0.mk (blk_grown (g := gb123) (o := .cells #[.int .i64 t117, .bool t118, .int .i64 t119, .bool t120, .int .i64 t121] 77 (0, 0)) (by (with_reducible repeat (first | refine blk_drewN ?_ _ | refine blk_drew ?_ | refine blk_alloc ?_ _)); exact BK123.out) hg (Kd.R_ne HO_117001.out BK123.out (by decide)))
                          have n2_ := Aside0.mk (hb)
                          have n3_ := Aside0.mk (ho)
                          clear BK116
                          clear BK123
                          clear HB
                          clear HO_117001
                          have BK116 := n0_
                          have BK123 := n1_
                          have HB := n2_
                          have HO131 := n3_
                          clear n0_ n1_ n2_ n3_
                          clear ho hb hg hat
                          obtain ⟨Ao51, co51, eo51⟩ := Kd.R_slice HO131.out
                          (first | subst eo51 | (injection eo51 with f1_ f2_ f3_; have f4_ := f1_.symm; have f5_ := f3_.symm; clear f1_ f2_ f3_; subst f4_; subst f5_))
                          refine hK.out _ _ ⟨(blk_cell BK116.out 0).trans rfl, (blk_cell BK116.out 1).trans rfl⟩ (fun hHeld => ?_)
                          clear hK K
                          refine norm_ (a' := ?_) ?_ ?_
                          rotate_left
                          · show Act.put _ (some 56) _ = _
                            simp only [Act.put, List.setIfInBounds_toArray, List.set_cons_zero, List.set_cons_succ, i64_w, i32_w]
                            rfl
                          refine pure_ (i := 9) (N := some 57) (v := ?_) (a' := ?_) #[true, true, true, true, true, true, true, true, true, true, false] rfl rfl (any_of HT_.out (by kernel_rfl)) (fun _ _ _ h => h) (Or.inl ⟨by rfl, ?_⟩) ?_ ?_
                          rotate_left
                          · intro w'
                            go_simp
                            with_reducible rfl
                          rotate_left
                          · simp only [Act.put, List.setIfInBounds_toArray, List.set_cons_zero, List.set_cons_succ, i64_w, i32_w]
                            rfl
                          refine last_ (i := 10) (N := none) #[true, true, true, true, true, true, true, true, true, true, true] rfl rfl (one_of HT_.out (by kernel_rfl)) (by decide) (fun K hK => ?_)
                          have hs52 : w50.cell? ⟨gb116, 1, none⟩ = some (u117001) := (blk_cell BK116.out 1).trans rfl
                          have hfs52 := blk_frozen BK116.out 1
                          have hns52_1 := NB123_116.out
                          have hms52_1 := NB116_123.out
                          refine skip_ (w1 := ?_) (by rfl) rfl ?_ ?_
                          rotate_left
                          · go_simp
                            rfl
                          refine hK.out _ _ ?_
                          clear hK K
                          refine done_ (done_of HT_.out (by kernel_rfl)) ?_
                          obtain ⟨i053, hi053, _, hsz53, _⟩ := info_parts info5
                          obtain ⟨A53, hcut53, hA53, hC53⟩ := print_drop_of (P := Tryd.prog) (Value.int .u8) 0 22 5 .i64 Tryd.underlying22 hi053 hsz53 A0 c0 l0 (ji37) (of_decide_eq_true (by first | (with_reducible assumption) | assumption)) (of_decide_eq_true (by first | (with_reducible assumption) | assumption)) HC0.out
                          have HR132 := Aside0.mk (Kd.C_of_reads (h1 := fun _ => rfl) (hA53 _ (Kd.reads_of_C HR0.out)))
                          have HC132 := Aside0.mk hC53
                          clear hA53 hC53 hi053 hsz53
                          try go_wp2_with (first | ((with_reducible refine gate_callee (f := 35) rfl ?_); refine goesL_ (some 69) rfl rfl Tryd.func35 (by kernel_rfl) rfl #[.slice A53 (l0.drop ((ji37) : Int).toNat).length (c0 - (ji37).toNat)] rfl (by (try simp only [List.map_toArray, List.map_cons, List.map_nil]); first | done | (rw [show (l0.drop ((ji37) : Int).toNat).length = (l0.length - (ji37).toNat) from List.length_drop] <;> rfl) | (simp only [hji37]; rfl) | rfl | (simp only [List.length_drop, List.length_take]; rfl)) ?_; (with_reducible refine (spec_ReadLength.calls k1 _ _ (l0.drop ((ji37) : Int).toNat) t133 t134 t135 t136 _ ?side1 ?side2 A40.out).mono ?_); (case side1 => exact Kd.C_below HR132.out (by repeat (first | (with_reducible first | exact HB.out | apply below_alloc | apply pw_below_drewN | apply below_drew1 | refine below_set ?_ GE116.out | refine below_set ?_ GE123.out) | exact HB.out))); (case side2 => exact HC132.out); rintro e w' ⟨rfl, ⟨nd, rfl⟩⟩; refine ⟨_, rfl, ?_⟩; have hnb54 := NB116_123.out; have hnc54 := NB123_116.out; have hcz55_0 : w50.cell? ⟨gb116, 0, none⟩ = some (.int .i64 x117000_1) := (blk_cell BK116.out 0).trans rfl; have hcz55_1 : w50.cell? ⟨gb116, 1, none⟩ = some (u117001) := (blk_cell BK116.out 1).trans rfl; have hfz55_0 := blk_frozen BK116.out 0; have hfz55_1 := blk_frozen BK116.out 1))
                          refine bodyPost_ret (results_ctt rfl _ _ gb116 25 #[.int .i64 0, .slice none 0 0] (0, 0) _ rfl (by (with_reducible repeat (first | refine blk_drewN ?_ _ | refine blk_drew ?_ | refine blk_alloc ?_ _)); refine blk_put (cs := #[.int .i64 0, .slice Ao51 y129.length co51]) ?_ 1 _ rfl; (with_reducible repeat (first | refine blk_drewN ?_ _ | refine blk_drew ?_ | refine blk_alloc ?_ _)); refine blk_put (cs := #[.int .i64 x117000_1, .slice Ao51 y129.length co51]) ?_ 0 _ rfl; (with_reducible repeat (first | refine blk_drewN ?_ _ | refine blk_drew ?_ | refine blk_alloc ?_ _)); refine blk_put (cs := #[.int .i64 x117000_1, u117001]) ?_ 1 _ rfl; (with_reducible repeat (first | refine blk_drewN ?_ _ | refine blk_drew ?_ | refine blk_alloc ?_ _)); exact BK116.out) Tryd.underlying25 rfl (by kernel_rfl)) rfl ?_
                          exact ⟨_, by first | rfl | (simp [errW_none, errW_some] <;> rfl) | (simp only [← hji37]; first | rfl | (simp [errW_none, errW_some] <;> rfl)) | (simp [*, errW_none, errW_some] <;> rfl), by first | exact Kd.R_nil _ _ _ _ _ | exact Kd.N_nil _ _ _ _ _ | exact Kd.V_nil _ _ _ _ _ | exact Kd.Q_nil _ _ _ _ _ | exact Kd.S_nil _ _ _ _ _, by repeat (first | (with_reducible first | exact HB.out | apply below_alloc | apply pw_below_drewN | apply below_drew1 | refine below_set ?_ GE116.out | refine below_set ?_ GE123.out) | exact HB.out)⟩
                      · rw [if_neg c38] at H
                        exact absurd H (by simp)
                    · replace c36 := Bool.eq_false_iff.mpr c36
                      subst c36
                      have H1 : (some (x117000_1, y129, wrap64 (x6_1 + x7_1), 0)) = some (r1, r2, r3, r4) := by rw [if_neg (show ¬ (false = true) by decide)] at H; exact H
                      clear H
                      have H := H1
                      clear H1
                      simp only [Option.some.injEq, Prod.mk.injEq] at H
                      obtain ⟨rfl, rfl, rfl, rfl⟩ := H
                      try go_wp2
                      have n0_ := Aside0.mk (Kd.R_drew HO_117001.out)
                      have n1_ := Aside0.mk (blk_drew BK116.out)
                      have n2_ := Aside0.mk (blk_drew BK123.out)
                      have n3_ := Aside0.mk (below_drew1 HB.out)
                      clear HO_117001
                      clear BK116
                      clear BK123
                      clear HB
                      have HO_117001 := n0_
                      have BK116 := n1_
                      have BK123 := n2_
                      have HB := n3_
                      clear n0_ n1_ n2_ n3_
                      obtain ⟨i057, hi057, _, hsz57, _⟩ := info_parts info5
                      obtain ⟨A57, hcut57, hA57, hC57⟩ := print_mid_of (P := Tryd.prog) (Value.int .u8) 0 22 5 .i64 .i64 Tryd.underlying22 hi057 hsz57 A0 c0 l0 x6_1 (wrap64 (x6_1 + x7_1)) (of_decide_eq_true (by first | (with_reducible assumption) | assumption)) (by first | omega | exact of_decide_eq_true (by first | (with_reducible assumption) | assumption)) (of_decide_eq_true (by first | (with_reducible assumption) | assumption)) HC0.out
                      have HR128 := Aside0.mk (Kd.C_of_reads (h1 := fun _ => rfl) (hA57 _ (Kd.reads_of_C HR0.out)))
                      have HC128 := Aside0.mk hC57
                      clear hA57 hC57 hi057 hsz57
                      refine start_ (n := 11) (S := fun w' => w'.cell? ⟨gb116, 0, none⟩ = some (.int .i64 x117000_1) ∧ w'.cell? ⟨gb116, 1, none⟩ = some (u117001)) (ds := [10]) #[false, false, false, false, false, false, false, false, false, false, false] (by kernel_rfl) rfl rfl ⟨(blk_cell BK116.out 0).trans rfl, (blk_cell BK116.out 1).trans rfl⟩ (fun hHeld => ?_); refine with_tabW spec_ReadPacket.tab12 spec_ReadPacket.bits12 (fun HT_ HW_ => ?_)
                      generalize wr.drew = w56 at HO_117001 BK116 BK123 HB HR128 hHeld ⊢
                      refine pure_ (i := 0) (N := some 48) (v := ?_) (a' := ?_) #[true, false, false, false, false, false, false, false, false, false, false] rfl rfl (any_of HT_.out (by kernel_rfl)) (fun _ _ _ h => h) (Or.inl ⟨by rfl, ?_⟩) ?_ ?_
                      rotate_left
                      · intro w'
                        go_simp
                        with_reducible rfl
                      rotate_left
                      · simp only [Act.put, List.setIfInBounds_toArray, List.set_cons_zero, List.set_cons_succ, i64_w, i32_w]
                        rfl
                      refine pure_ (i := 2) (N := some 50) (v := ?_) (a' := ?_) #[true, false, true, false, false, false, false, false, false, false, false] rfl rfl (any_of HT_.out (by kernel_rfl)) (fun _ _ _ h => h) (Or.inl ⟨by rfl, ?_⟩) ?_ ?_
                      rotate_left
                      · intro w'
                        go_simp
                        with_reducible rfl
                      rotate_left
                      · simp only [Act.put, List.setIfInBounds_toArray, List.set_cons_zero, List.set_cons_succ, i64_w, i32_w]
                        rfl
                      refine pure_ (i := 3) (N := some 51) (v := ?_) (a' := ?_) #[true, false, true, true, false, false, false, false, false, false, false] rfl rfl (any_of HT_.out (by kernel_rfl)) (fun _ _ _ h => h) (Or.inl ⟨by rfl, ?_⟩) ?_ ?_
                      rotate_left
                      · intro w'
                        go_simp
                        with_reducible rfl
                      rotate_left
                      · simp only [Act.put, List.setIfInBounds_toArray, List.set_cons_zero, List.set_cons_succ, i64_w, i32_w]
                        rfl
                      refine pure_ (i := 4) (N := some 52) (v := ?_) (a' := ?_) #[true, false, true, true, true, false, false, false, false, false, false] rfl rfl (any_of HT_.out (by kernel_rfl)) (fun _ _ _ h => h) (Or.inl ⟨by rfl, ?_⟩) ?_ ?_
                      rotate_left
                      · intro w'
                        go_simp
                        with_reducible rfl
                      rotate_left
                      · simp only [Act.put, List.setIfInBounds_toArray, List.set_cons_zero, List.set_cons_succ, i64_w, i32_w]
                        rfl
                      refine pure_ (i := 5) (N := some 53) (v := ?_) (a' := ?_) #[true, false, true, true, true, true, false, false, false, false, false] rfl rfl (any_of HT_.out (by kernel_rfl)) (fun _ _ _ h => h) (Or.inl ⟨by rfl, ?_⟩) ?_ ?_
                      rotate_left
                      · intro w'
                        go_simp
                        with_reducible rfl
                      rotate_left
                      · simp only [Act.put, List.setIfInBounds_toArray, List.set_cons_zero, List.set_cons_succ, i64_w, i32_w]
                        rfl
                      refine pure_ (i := 6) (N := some 54) (v := ?_) (a' := ?_) #[true, false, true, true, true, true, true, false, false, false, false] rfl rfl (any_of HT_.out (by kernel_rfl)) (fun _ _ _ h => h) (Or.inl ⟨by rfl, ?_⟩) ?_ ?_
                      rotate_left
                      · intro w'
                        go_simp
                        with_reducible rfl
                      rotate_left
                      · simp only [Act.put, List.setIfInBounds_toArray, List.set_cons_zero, List.set_cons_succ, i64_w, i32_w]
                        rfl
                      refine pure_ (i := 7) (N := some 55) (v := ?_) (a' := ?_) #[true, false, true, true, true, true, true, true, false, false, false] rfl rfl (any_of HT_.out (by kernel_rfl)) (fun _ _ _ h => h) (Or.inl ⟨by rfl, ?_⟩) ?_ ?_
                      rotate_left
                      · intro w'
                        go_simp
                        with_reducible rfl
                      rotate_left
                      · simp only [Act.put, List.setIfInBounds_toArray, List.set_cons_zero, List.set_cons_succ, i64_w, i32_w]
                        rfl
                      refine take_ (i := 1) (N := some 49) (v := ?_) (a' := ?_) #[true, true, true, true, true, true, true, true, false, false, false] rfl rfl (take_ofW HT_.out HW_.out (by kernel_rfl)) (fun _ _ _ h => h) (Or.inl ⟨by rfl, ?_⟩) hHeld ?_ ?_
                      rotate_left
                      · rintro w' ⟨s0, s1⟩
                        go_simp
                        with_reducible rfl
                      rotate_left
                      · simp only [Act.put, List.setIfInBounds_toArray, List.set_cons_zero, List.set_cons_succ, i64_w, i32_w]
                        rfl
                      refine one_ (i := 8) (N := some 56) #[true, true, true, true, true, true, true, true, true, false, false] rfl rfl (one_of HT_.out (by kernel_rfl)) (by decide) (fun K hK => ?_)
                      refine Kd.R_append_rows_step (Kd.int .u8) (w0 := w) w.heap.size (by rfl) (.tmp 49) (.tmp 55) 22 5 (.int .u8 0) 1 rfl Tryd.underlying22 info5 rfl (by decide) (by omega) u117001 x117001_1 ((l0.take ((wrap64 (x6_1 + x7_1)) : Int).toNat).drop (x6_1 : Int).toNat) _ _ _ (fun _ => True) (fun _ => False) rfl rfl ?aO ?aR (fun _ _ h => h) (fun _ h => h.elim) ?aF ?aB ?aS ?aL ?_
                      (case aR => first | (rw [← show ((l0.take ((wrap64 (x6_1 + x7_1)) : Int).toNat).drop (x6_1 : Int).toNat).length = ((wrap64 (x6_1 + x7_1)).toNat - x6_1.toNat) from (by rw [List.length_drop, List.length_take]; have h_ : ((wrap64 (x6_1 + x7_1)) : Int) ≤ (l0.length : Int) := of_decide_eq_true (by first | (with_reducible assumption) | assumption); omega)]; repeat (first | exact (Kd.C_below HR128.out HB.out) | (with_reducible refine Kd.C_alloc ?_ _) | (with_reducible refine Kd.C_drewN ?_ _) | (with_reducible refine Kd.C_drew ?_))) | (repeat (first | exact (Kd.C_below HR128.out HB.out) | (with_reducible refine Kd.C_alloc ?_ _) | (with_reducible refine Kd.C_drewN ?_ _) | (with_reducible refine Kd.C_drew ?_))))
                      (case aB => exact (by repeat (first | (with_reducible first | exact HB.out | apply below_alloc | apply pw_below_drewN | apply below_drew1 | refine below_set ?_ GE116.out | refine below_set ?_ GE123.out) | exact HB.out)))
                      (case aF => exact (fun _ _ => trivial))
                      (case aO => exact (by (with_reducible repeat (first | apply Kd.R_alloc | apply Kd.R_drewN | apply Kd.R_drew)); exact HO_117001.out))
                      (case aS => exact (below_size (by repeat (first | (with_reducible first | exact HB.out | apply below_alloc | apply pw_below_drewN | apply below_drew1 | refine below_set ?_ GE116.out | refine below_set ?_ GE123.out) | exact HB.out))))
                      (case aL => have := LMc35.out; have hlx_ := (show ((l0.take ((wrap64 (x6_1 + x7_1)) : Int).toNat).drop (x6_1 : Int).toNat).length = ((wrap64 (x6_1 + x7_1)).toNat - x6_1.toNat) from (by rw [List.length_drop, List.length_take]; have h_ : ((wrap64 (x6_1 + x7_1)) : Int) ≤ (l0.length : Int) := of_decide_eq_true (by first | (with_reducible assumption) | assumption); omega)); omega)
                      intro v130 w58 ho hb hg hat
                      rw [← Ny129.out] at ho
                      have n0_ := Aside0.mk (blk_grown (g := gb116) (o := .cells #[.int .i64 x117000_1, u117001] 25 (0, 0)) (by (with_reducible repeat (first | refine blk_drewN ?_ _ | refine blk_drew ?_ | refine blk_alloc ?_ _)); exact BK116.out) hg (Kd.R_ne HO_117001.out BK116.out (by decide)))
                      have n1_ := Aside0.mk (blk_grown (g := gb123) (o := .cells #[.int .i64 t117, .bool t118, .int .i64 t119, .bool t120, .int .i64 t121] 77 (0, 0)) (by (with_reducible repeat (first | refine blk_drewN ?_ _ | refine blk_drew ?_ | refine blk_alloc ?_ _)); exact BK123.out) hg (Kd.R_ne HO_117001.out BK123.out (by decide)))
                      have n2_ := Aside0.mk (hb)
                      have n3_ := Aside0.mk (ho)
                      clear BK116
                      clear BK123
                      clear HB
                      clear HO_117001
                      have BK116 := n0_
                      have BK123 := n1_
                      have HB := n2_
                      have HO131 := n3_
                      clear n0_ n1_ n2_ n3_
                      clear ho hb hg hat
                      obtain ⟨Ao59, co59, eo59⟩ := Kd.R_slice HO131.out
                      (first | subst eo59 | (injection eo59 with f1_ f2_ f3_; have f4_ := f1_.symm; have f5_ := f3_.symm; clear f1_ f2_ f3_; subst f4_; subst f5_))
                      refine hK.out _ _ ⟨(blk_cell BK116.out 0).trans rfl, (blk_cell BK116.out 1).trans rfl⟩ (fun hHeld => ?_)
                      clear hK K
                      refine norm_ (a' := ?_) ?_ ?_
                      rotate_left
                      · show Act.put _ (some 56) _ = _
                        simp only [Act.put, List.setIfInBounds_toArray, List.set_cons_zero, List.set_cons_succ, i64_w, i32_w]
                        rfl
                      refine pure_ (i := 9) (N := some 57) (v := ?_) (a' := ?_) #[true, true, true, true, true, true, true, true, true, true, false] rfl rfl (any_of HT_.out (by kernel_rfl)) (fun _ _ _ h => h) (Or.inl ⟨by rfl, ?_⟩) ?_ ?_
                      rotate_left
                      · intro w'
                        go_simp
                        with_reducible rfl
                      rotate_left
                      · simp only [Act.put, List.setIfInBounds_toArray, List.set_cons_zero, List.set_cons_succ, i64_w, i32_w]
                        rfl
                      refine last_ (i := 10) (N := none) #[true, true, true, true, true, true, true, true, true, true, true] rfl rfl (one_of HT_.out (by kernel_rfl)) (by decide) (fun K hK => ?_)
                      have hs60 : w58.cell? ⟨gb116, 1, none⟩ = some (u117001) := (blk_cell BK116.out 1).trans rfl
                      have hfs60 := blk_frozen BK116.out 1
                      have hns60_1 := NB123_116.out
                      have hms60_1 := NB116_123.out
                      refine skip_ (w1 := ?_) (by rfl) rfl ?_ ?_
                      rotate_left
                      · go_simp
                        rfl
                      refine hK.out _ _ ?_
                      clear hK K
                      refine done_ (done_of HT_.out (by kernel_rfl)) ?_
                      have hnb61 := NB116_123.out
                      have hnc61 := NB123_116.out
                      have hcz62_0 : w58.cell? ⟨gb116, 0, none⟩ = some (.int .i64 x117000_1) := (blk_cell BK116.out 0).trans rfl
                      have hcz62_1 : w58.cell? ⟨gb116, 1, none⟩ = some (u117001) := (blk_cell BK116.out 1).trans rfl
                      have hfz62_0 := blk_frozen BK116.out 0
                      have hfz62_1 := blk_frozen BK116.out 1
                      try go_wp2
                      refine bodyPost_ret (results_ctt rfl _ _ gb116 25 #[.int .i64 x117000_1, .slice Ao59 y129.length co59] (0, 0) _ rfl (by (with_reducible repeat (first | refine blk_drewN ?_ _ | refine blk_drew ?_ | refine blk_alloc ?_ _)); refine blk_put (cs := #[.int .i64 x117000_1, .slice Ao59 y129.length co59]) ?_ 1 _ rfl; (with_reducible repeat (first | refine blk_drewN ?_ _ | refine blk_drew ?_ | refine blk_alloc ?_ _)); refine blk_put (cs := #[.int .i64 x117000_1, .slice Ao59 y129.length co59]) ?_ 0 _ rfl; (with_reducible repeat (first | refine blk_drewN ?_ _ | refine blk_drew ?_ | refine blk_alloc ?_ _)); refine blk_put (cs := #[.int .i64 x117000_1, u117001]) ?_ 1 _ rfl; (with_reducible repeat (first | refine blk_drewN ?_ _ | refine blk_drew ?_ | refine blk_alloc ?_ _)); exact BK116.out) Tryd.underlying25 rfl (by kernel_rfl)) rfl ?_
                      exact ⟨_, by first | rfl | (simp [errW_none, errW_some] <;> rfl) | (simp [*, errW_none, errW_some] <;> rfl), by (with_reducible repeat (first | apply Kd.R_alloc | apply Kd.R_drewN | apply Kd.R_drew)); exact Kd.R_mono (Kd.R_far (p := ⟨gb116, 1, none⟩) (Kd.R_far (p := ⟨gb116, 0, none⟩) (Kd.R_far (p := ⟨gb116, 1, none⟩) (Kd.R_types HO131.out BK116.out (by decide)) (fun _ hk => hk.2) (.slice Ao59 y129.length co59)) (fun _ hk => hk.2) (.int .i64 x117000_1)) (fun _ hk => hk.2) (.slice Ao59 y129.length co59)) (fun _ hk => trivial), by repeat (first | (with_reducible first | exact HB.out | apply below_alloc | apply pw_below_drewN | apply below_drew1 | refine below_set ?_ GE116.out | refine below_set ?_ GE123.out) | exact HB.out)⟩
                  · rw [if_neg c35] at H
                    exact absurd H (by simp)
                · rw [if_neg c34] at H
                  exact absurd H (by simp)
              · rw [if_neg c33] at H
                exact absurd H (by simp)
            · rw [if_neg c32] at H
              exact absurd H (by simp)
  · rw [if_neg c3] at H
    have c3b0 : (t122 == 0) = false := beq_eq_false_iff_ne.mpr c3
    have c3b1 : (t122 != 0) = true := bne_iff_ne.mpr c3
    simp only [Option.some.injEq, Prod.mk.injEq] at H
    obtain ⟨rfl, rfl, rfl, rfl⟩ := H
    go_enter Tryd.func9, Tryd.ntmps9
    go_wp2_with (first | ((with_reducible refine gate_dst (N := 2) rfl ?_); refine box_event ?hg (N := 2) ?hd (cs := #[.int .i64 0, .slice none 0 0]) (t := 25) ?hr ?_; (case hd => rfl); (case hg => rfl); (case hr => first | (go_simp; done) | (go_simp; rfl)); intro gb116 hg w63 hbox hb; have n0_ := Aside0.mk (below_step (by repeat (first | (with_reducible first | exact HB.out | apply below_alloc | apply pw_below_drewN | apply below_drew1) | exact HB.out)) hb); have n1_ := Aside0.mk (hbox); have n2_ := Aside0.mk ((by rw [hg]; exact (below_size (by repeat (first | (with_reducible first | exact HB.out | apply below_alloc | apply pw_below_drewN | apply below_drew1) | exact HB.out))) : w.heap.size ≤ gb116)); have n3_ := Aside0.mk ((by rw [hg]; exact (below_size (by repeat (first | (with_reducible first | exact HB.out | apply below_alloc | apply pw_below_drewN | apply below_drew1) | exact HB.out))) : w.heap.size ≤ gb116)); clear HB; have HB := n0_; have BK116 := n1_; have GW116 := n2_; have GE116 := n3_; clear n0_ n1_ n2_ n3_; clear hb hbox hg) | ((with_reducible refine gate_callee (f := 34) rfl ?_); refine goesL_ (some 12) rfl rfl Tryd.func34 (by kernel_rfl) rfl #[.slice A0 l0.length c0] rfl (by (try simp only [List.map_toArray, List.map_cons, List.map_nil]); first | done | rfl | (simp only [List.length_drop, List.length_take]; rfl)) ?_; (with_reducible refine (spec_ReadHead.calls k _ _ l0 t117 t118 t119 t120 t121 t122 _ ?side1 ?side2 A2.out).mono ?_); (case side1 => repeat (first | exact (Kd.C_below HR0.out HB.out) | (with_reducible refine Kd.C_alloc ?_ _) | (with_reducible refine Kd.C_drewN ?_ _) | (with_reducible refine Kd.C_drew ?_))); (case side2 => exact HC0.out); rintro e w64 ⟨rfl, hb⟩; refine ⟨_, rfl, ?_⟩; have n0_ := Aside0.mk (blk_below (g := gb116) (o := .cells #[.int .i64 0, .slice none 0 0] 25 (0, 0)) (by (with_reducible repeat (first | refine blk_drewN ?_ _ | refine blk_drew ?_ | refine blk_alloc ?_ _)); exact BK116.out) hb); have n1_ := Aside0.mk (below_step (by repeat (first | (with_reducible first | exact HB.out | apply below_alloc | apply pw_below_drewN | apply below_drew1 | refine below_set ?_ GE116.out) | exact HB.out)) hb); clear BK116; clear HB; have BK116 := n0_; have HB := n1_; clear n0_ n1_; (try clear hb); (try clear hb2); (try clear hk); (try clear hi)) | ((with_reducible refine gate_dst (N := 5) rfl ?_); refine box_event ?hg (N := 5) ?hd (cs := #[.int .i64 0, .bool false, .int .i64 0, .bool false, .int .i64 0]) (t := 77) ?hr ?_; (case hd => rfl); (case hg => rfl); (case hr => first | (go_simp; done) | (go_simp; rfl)); intro gb123 hg w65 hbox hb; have n0_ := Aside0.mk (blk_below (g := gb116) (o := .cells #[.int .i64 0, .slice none 0 0] 25 (0, 0)) (by (with_reducible repeat (first | refine blk_drewN ?_ _ | refine blk_drew ?_ | refine blk_alloc ?_ _)); exact BK116.out) hb); have n1_ := Aside0.mk (below_step (by repeat (first | (with_reducible first | exact HB.out | apply below_alloc | apply pw_below_drewN | apply below_drew1 | refine below_set ?_ GE116.out) | exact HB.out)) hb); have n2_ := Aside0.mk (hbox); have n3_ := Aside0.mk ((by rw [hg]; exact (below_size (by repeat (first | (with_reducible first | exact HB.out | apply below_alloc | apply pw_below_drewN | apply below_drew1 | refine below_set ?_ GE116.out) | exact HB.out))) : w.heap.size ≤ gb123)); have n4_ := Aside0.mk ((by rw [hg]; exact (below_size (by repeat (first | (with_reducible first | exact HB.out | apply below_alloc | apply pw_below_drewN | apply below_drew1 | refine below_set ?_ GE116.out) | exact HB.out))) : w.heap.size ≤ gb123)); have n5_ := Aside0.mk ((by rw [hg]; exact Nat.ne_of_lt (blk_lt (g := gb116) (o := .cells #[.int .i64 0, .slice none 0 0] 25 (0, 0)) (by (with_reducible repeat (first | refine blk_drewN ?_ _ | refine blk_drew ?_ | refine blk_alloc ?_ _)); exact BK116.out)) : gb116 ≠ gb123)); have n6_ := Aside0.mk ((by rw [hg]; exact Nat.ne_of_gt (blk_lt (g := gb116) (o := .cells #[.int .i64 0, .slice none 0 0] 25 (0, 0)) (by (with_reducible repeat (first | refine blk_drewN ?_ _ | refine blk_drew ?_ | refine blk_alloc ?_ _)); exact BK116.out)) : gb123 ≠ gb116)); clear BK116; clear HB; have BK116 := n0_; have HB := n1_; have BK123 := n2_; have GW123 := n3_; have GE123 := n4_; have NB116_123 := n5_; have NB123_116 := n6_; clear n0_ n1_ n2_ n3_ n4_ n5_ n6_; clear hb hbox hg; have hnb66 := NB123_116.out; have hnc66 := NB116_123.out; have hcz67_0 : w65.cell? ⟨gb123, 0, none⟩ = some (.int .i64 0) := (blk_cell BK123.out 0).trans rfl; have hcz67_1 : w65.cell? ⟨gb123, 1, none⟩ = some (.bool false) := (blk_cell BK123.out 1).trans rfl; have hcz67_2 : w65.cell? ⟨gb123, 2, none⟩ = some (.int .i64 0) := (blk_cell BK123.out 2).trans rfl; have hcz67_3 : w65.cell? ⟨gb123, 3, none⟩ = some (.bool false) := (blk_cell BK123.out 3).trans rfl; have hcz67_4 : w65.cell? ⟨gb123, 4, none⟩ = some (.int .i64 0) := (blk_cell BK123.out 4).trans rfl; have hfz67_0 := blk_frozen BK123.out 0; have hfz67_1 := blk_frozen BK123.out 1; have hfz67_2 := blk_frozen BK123.out 2; have hfz67_3 := blk_frozen BK123.out 3; have hfz67_4 := blk_frozen BK123.out 4; have hcz68_0 : w65.cell? ⟨gb116, 0, none⟩ = some (.int .i64 0) := (blk_cell BK116.out 0).trans rfl; have hcz68_1 : w65.cell? ⟨gb116, 1, none⟩ = some (.slice none 0 0) := (blk_cell BK116.out 1).trans rfl; have hfz68_0 := blk_frozen BK116.out 0; have hfz68_1 := blk_frozen BK116.out 1))
    refine bodyPost_ret (results_ctt rfl _ _ gb116 25 #[.int .i64 0, .slice none 0 0] (0, 0) _ rfl (by (with_reducible repeat (first | refine blk_drewN ?_ _ | refine blk_drew ?_ | refine blk_alloc ?_ _)); refine blk_put (cs := #[.int .i64 0, .slice none 0 0]) ?_ 1 _ rfl; (with_reducible repeat (first | refine blk_drewN ?_ _ | refine blk_drew ?_ | refine blk_alloc ?_ _)); refine blk_put (cs := #[.int .i64 0, .slice none 0 0]) ?_ 0 _ rfl; (with_reducible repeat (first | refine blk_drewN ?_ _ | refine blk_drew ?_ | refine blk_alloc ?_ _)); refine blk_far ?_ NB116_123.out _; (with_reducible repeat (first | refine blk_drewN ?_ _ | refine blk_drew ?_ | refine blk_alloc ?_ _)); refine blk_far ?_ NB116_123.out _; (with_reducible repeat (first | refine blk_drewN ?_ _ | refine blk_drew ?_ | refine blk_alloc ?_ _)); refine blk_far ?_ NB116_123.out _; (with_reducible repeat (first | refine blk_drewN ?_ _ | refine blk_drew ?_ | refine blk_alloc ?_ _)); refine blk_far ?_ NB116_123.out _; (with_reducible repeat (first | refine blk_drewN ?_ _ | refine blk_drew ?_ | refine blk_alloc ?_ _)); refine blk_far ?_ NB116_123.out _; (with_reducible repeat (first | refine blk_drewN ?_ _ | refine blk_drew ?_ | refine blk_alloc ?_ _)); exact BK116.out) Tryd.underlying25 rfl (by kernel_rfl)) rfl ?_
    exact ⟨_, by first | rfl | (simp [errW_none, errW_some] <;> rfl) | (simp [*, errW_none, errW_some] <;> rfl), by first | exact Kd.R_nil _ _ _ _ _ | exact Kd.N_nil _ _ _ _ _ | exact Kd.V_nil _ _ _ _ _ | exact Kd.Q_nil _ _ _ _ _ | exact Kd.S_nil _ _ _ _ _, by repeat (first | (with_reducible first | exact HB.out | apply below_alloc | apply pw_below_drewN | apply below_drew1 | refine below_set ?_ GE116.out | refine below_set ?_ GE123.out) | exact HB.out)⟩

end Go.Proofs.YtjdnnpfhlkgooaaDoor.PFnBodyReads
