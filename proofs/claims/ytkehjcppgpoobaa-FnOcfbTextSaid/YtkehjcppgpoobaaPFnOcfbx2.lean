-- PRINTED BY print.sh 35421559b90ae4d0a3588c463048766b98c2df88dd9212a6774a882060cdf62d: not written by this session
import Derived.Test.YtkehjcppgpoobaaPFnOcfbx0
import Derived.Test.YtkehjcppgpoobaaPFnOcfbx1
namespace Go.Proofs.Ytkehjcppgpoobaa.PFnOcfb
open Go.RowKit Go.Proofs.YtkehjcppgpoobaaW.PrintWords Go.Proofs.YtkehjcppgpoobaaW.PrintLast Go.Proofs.YtkehjcppgpoobaaW.PrintMore
attribute [local go_sem] max2_int min2_int max_two min_two max_three min_three max_four min_four   -- for this text's walks alone
set_option linter.unusedVariables false
set_option linter.unusedSimpArgs false

/-! ### laws_feedable: function 22 -/
def laws_feedable.f (k : Nat) (l0_0 : List Int) (l0_1 : List Int) (l0_2 : List Int) (l1 : List Int) (l2 : List (List Int)) : Option (Bool) := (spec_RightBlock.f k l0_0 l0_1 l0_2).bind fun t115 => (if t115 = true then (if (l0_2.length : Int) ≥ 2 then (if (l1.length : Int) = (l0_2.length : Int) then (if (l2.length : Int) ≤ 60 then ((laws_joinedTexts.f k l2).bind fun t116 => ((laws_brief.f k (([t116] : List (List Int)))).bind fun t122 => (some t122))) else (some false)) else (some false)) else (some false)) else (some false))
theorem laws_feedable.mono : ∀ a0 a1 a2 a3 a4 k, LeO (laws_feedable.f k a0 a1 a2 a3 a4) (laws_feedable.f (k + 1) a0 a1 a2 a3 a4) := by
  intro a0 a1 a2 a3 a4 k
  unfold laws_feedable.f
  repeat' first
      | (with_reducible exact laws_brief.mono _ _)
      | (with_reducible exact laws_joinedTexts.mono _ _)
      | (with_reducible exact spec_RightBlock.mono _ _ _ _)
      | (with_reducible exact LeO.refl _)
      | (with_reducible exact LeO.none _)
      | (with_reducible refine LeO.ite ?_ ?_)
      | (with_reducible refine LeO.bind ?_ (fun _ => ?_))
      | exact laws_brief.mono _ _
      | exact laws_joinedTexts.mono _ _
      | exact spec_RightBlock.mono _ _ _ _
      | exact LeO.none _
      | refine LeO.ite ?_ ?_
      | refine LeO.bind ?_ (fun _ => ?_)
set_option maxHeartbeats 8000000 in
set_option maxRecDepth 100000 in
theorem laws_feedable.calls (k : Nat) (A0_0 : Option Addr) (c0_0 : Nat) (l0_0 : List Int) (A0_1 : Option Addr) (c0_1 : Nat) (l0_1 : List Int) (A0_2 : Option Addr) (c0_2 : Nat) (l0_2 : List Int) (A1 : Option Addr) (c1 : Nat) (l1 : List Int) (A2 : Option Addr) (c2 : Nat) (l2 : List (List Int)) (r : Bool) (w : World) (hr0_0 : Kd.C (Kd.int .u8) w A0_0 l0_0.length l0_0) (hc0_0 : l0_0.length ≤ c0_0) (hr0_1 : Kd.C (Kd.int .u8) w A0_1 l0_1.length l0_1) (hc0_1 : l0_1.length ≤ c0_1) (hr0_2 : Kd.C (Kd.int .u8) w A0_2 l0_2.length l0_2) (hc0_2 : l0_2.length ≤ c0_2) (hr1 : Kd.C (Kd.int .u8) w A1 l1.length l1) (hc1 : l1.length ≤ c1) (hr2 : Kd.C (Kd.slice 5 (Kd.int .u8)) w A2 l2.length l2) (hc2 : l2.length ≤ c2) (h : laws_feedable.f k l0_0 l0_1 l0_2 l1 l2 = some r) :
    Calls Try.prog 22 #[.agg #[.slice A0_0 l0_0.length c0_0, .slice A0_1 l0_1.length c0_1, .slice A0_2 l0_2.length c0_2], .slice A1 l1.length c1, .slice A2 l2.length c2] w fun e w' => e = .returned (.bool r) ∧ Below w.heap.size w w' := by
  have hu39 := Try.underlying39
  have HR0_0 := Aside0.mk hr0_0
  have HC0_0 := Aside0.mk hc0_0
  clear hr0_0 hc0_0
  have HR0_1 := Aside0.mk hr0_1
  have HC0_1 := Aside0.mk hc0_1
  clear hr0_1 hc0_1
  have HR0_2 := Aside0.mk hr0_2
  have HC0_2 := Aside0.mk hc0_2
  clear hr0_2 hc0_2
  have HR1 := Aside0.mk hr1
  have HC1 := Aside0.mk hc1
  clear hr1 hc1
  have HR2 := Aside0.mk hr2
  have HC2 := Aside0.mk hc2
  clear hr2 hc2
  have HB := Aside0.mk (Below.refl w.heap.size w)
  have H : ((spec_RightBlock.f k l0_0 l0_1 l0_2).bind fun t115 => (if t115 = true then (if (l0_2.length : Int) ≥ 2 then (if (l1.length : Int) = (l0_2.length : Int) then (if (l2.length : Int) ≤ 60 then ((laws_joinedTexts.f k l2).bind fun t116 => ((laws_brief.f k (([t116] : List (List Int)))).bind fun t122 => (some t122))) else (some false)) else (some false)) else (some false)) else (some false))) = some r := h
  clear h
  replace H := Option.bind_eq_some_iff.mp H
  obtain ⟨t115, A40, H⟩ := H
  replace H : (if t115 = true then (if (l0_2.length : Int) ≥ 2 then (if (l1.length : Int) = (l0_2.length : Int) then (if (l2.length : Int) ≤ 60 then ((laws_joinedTexts.f k l2).bind fun t116 => ((laws_brief.f k (([t116] : List (List Int)))).bind fun t122 => (some t122))) else (some false)) else (some false)) else (some false)) else (some false)) = some r := H
  have A4 := Aside0.mk A40
  clear A40
  by_cases c5 : t115 = true
  · subst c5
    have H1 : (if (l0_2.length : Int) ≥ 2 then (if (l1.length : Int) = (l0_2.length : Int) then (if (l2.length : Int) ≤ 60 then ((laws_joinedTexts.f k l2).bind fun t116 => ((laws_brief.f k (([t116] : List (List Int)))).bind fun t122 => (some t122))) else (some false)) else (some false)) else (some false)) = some r := by rw [if_pos rfl] at H; exact H
    clear H
    have H := H1
    clear H1
    by_cases c6 : (l0_2.length : Int) ≥ 2
    · rw [if_pos c6] at H
      have c6b0 : decide (2 ≤ (l0_2.length : Int)) = true := decide_eq_true c6
      have c6b1 : decide (2 ≤ l0_2.length) = true := decide_eq_true (by omega)
      clear c6
      by_cases c7 : (l1.length : Int) = (l0_2.length : Int)
      · rw [if_pos c7] at H
        have c7b0 : ((l1.length : Int) == (l0_2.length : Int)) = true := beq_iff_eq.mpr c7
        have c7b1 : ((l1.length : Int) != (l0_2.length : Int)) = false := bne_eq_false_iff_eq.mpr c7
        have c7b2 : (l1.length == l0_2.length) = true := by first | simpa using c7 | (simp at c7 ⊢; omega)
        clear c7
        by_cases c8 : (l2.length : Int) ≤ 60
        · rw [if_pos c8] at H
          have c8b0 : decide ((l2.length : Int) ≤ 60) = true := decide_eq_true c8
          have c8b1 : decide (l2.length ≤ 60) = true := decide_eq_true (by omega)
          clear c8
          replace H := Option.bind_eq_some_iff.mp H
          obtain ⟨t116, A90, H⟩ := H
          replace H : ((laws_brief.f k (([t116] : List (List Int)))).bind fun t122 => (some t122)) = some r := H
          have A9 := Aside0.mk A90
          clear A90
          obtain ⟨y119, hy119⟩ : ∃ y_ : List (List Int), y_ = (([t116] : List (List Int))) := ⟨_, rfl⟩
          replace H : ((laws_brief.f k y119).bind fun t122 => (some t122)) = some r := by first | (rw [hy119]; with_reducible exact H) | (have H2_ := (Option.bind_some _ _).symm.trans H; rw [hy119]; with_reducible exact H2_) | (have H2_ := (Option.bind_some _ _).symm.trans H; with_reducible exact H2_) | with_reducible exact H | (rw [hy119]; exact H) | exact H
          have Ny119 := Aside0.mk hy119
          clear hy119
          replace H := Option.bind_eq_some_iff.mp H
          obtain ⟨t122, A100, H⟩ := H
          replace H : (some t122) = some r := H
          have A10 := Aside0.mk A100
          clear A100
          obtain rfl := Option.some.inj H
          go_enter Try.func22, Try.ntmps22
          go_wp2_with (first | ((with_reducible refine gate_dst (N := 3) rfl ?_); (try (refine gate_guard (by rfl) ?_; dsimp only)); refine box_event ?hg (N := 3) ?hd (cs := #[.slice A0_0 l0_0.length c0_0, .slice A0_1 l0_1.length c0_1, .slice A0_2 l0_2.length c0_2]) (t := 39) ?hr ?_; (case hd => rfl); (case hg => rfl); (case hr => first | (go_simp; done) | (go_simp; rfl)); intro gb114 hg w11 hbox hb; have n0_ := Aside0.mk (below_step (by repeat (first | (with_reducible first | exact HB.out | apply below_alloc | apply pw_below_drewN | apply below_drew1) | exact HB.out)) hb); have n1_ := Aside0.mk (hbox); have n2_ := Aside0.mk ((by rw [hg]; exact (below_size (by repeat (first | (with_reducible first | exact HB.out | apply below_alloc | apply pw_below_drewN | apply below_drew1) | exact HB.out))) : w.heap.size ≤ gb114)); have n3_ := Aside0.mk ((by rw [hg]; exact (below_size (by repeat (first | (with_reducible first | exact HB.out | apply below_alloc | apply pw_below_drewN | apply below_drew1) | exact HB.out))) : w.heap.size ≤ gb114)); clear HB; have HB := n0_; have BK114 := n1_; have GW114 := n2_; have GE114 := n3_; clear n0_ n1_ n2_ n3_; clear hb hbox hg; have hcz12_0 : w11.cell? ⟨gb114, 0, none⟩ = some (.slice A0_0 l0_0.length c0_0) := (blk_cell BK114.out 0).trans rfl; have hcz12_1 : w11.cell? ⟨gb114, 1, none⟩ = some (.slice A0_1 l0_1.length c0_1) := (blk_cell BK114.out 1).trans rfl; have hcz12_2 : w11.cell? ⟨gb114, 2, none⟩ = some (.slice A0_2 l0_2.length c0_2) := (blk_cell BK114.out 2).trans rfl; have hfz12_0 := blk_frozen BK114.out 0; have hfz12_1 := blk_frozen BK114.out 1; have hfz12_2 := blk_frozen BK114.out 2) | ((with_reducible refine gate_callee (f := 43) rfl ?_); refine goesL_ (some 8) rfl rfl Try.func43 (by kernel_rfl) rfl #[.agg #[.slice A0_0 l0_0.length c0_0, .slice A0_1 l0_1.length c0_1, .slice A0_2 l0_2.length c0_2]] rfl (by (try simp only [List.map_toArray, List.map_cons, List.map_nil]); first | done | rfl | (simp only [List.length_drop, List.length_take]; rfl)) ?_; (with_reducible refine (spec_RightBlock.calls k _ _ l0_0 _ _ l0_1 _ _ l0_2 true _ ?side1 ?side2 ?side3 ?side4 ?side5 ?side6 A4.out).mono ?_); (case side1 => repeat (first | exact (Kd.C_below HR0_0.out HB.out) | (with_reducible refine Kd.C_alloc ?_ _) | (with_reducible refine Kd.C_drewN ?_ _) | (with_reducible refine Kd.C_drew ?_))); (case side2 => exact HC0_0.out); (case side3 => repeat (first | exact (Kd.C_below HR0_1.out HB.out) | (with_reducible refine Kd.C_alloc ?_ _) | (with_reducible refine Kd.C_drewN ?_ _) | (with_reducible refine Kd.C_drew ?_))); (case side4 => exact HC0_1.out); (case side5 => repeat (first | exact (Kd.C_below HR0_2.out HB.out) | (with_reducible refine Kd.C_alloc ?_ _) | (with_reducible refine Kd.C_drewN ?_ _) | (with_reducible refine Kd.C_drew ?_))); (case side6 => exact HC0_2.out); rintro e w13 ⟨rfl, hb⟩; refine ⟨_, rfl, ?_⟩; have n0_ := Aside0.mk (blk_below (g := gb114) (o := .cells #[.slice A0_0 l0_0.length c0_0, .slice A0_1 l0_1.length c0_1, .slice A0_2 l0_2.length c0_2] 39 (0, 0)) (by (with_reducible repeat (first | refine blk_drewN ?_ _ | refine blk_drew ?_ | refine blk_alloc ?_ _)); exact BK114.out) hb); have n1_ := Aside0.mk (below_step (by repeat (first | (with_reducible first | exact HB.out | apply below_alloc | apply pw_below_drewN | apply below_drew1 | refine below_set ?_ GE114.out) | exact HB.out)) hb); clear BK114; clear HB; have BK114 := n0_; have HB := n1_; clear n0_ n1_; (try clear hb); (try clear hb2); (try clear hk); (try clear hi); have hcz14_0 : w13.cell? ⟨gb114, 0, none⟩ = some (.slice A0_0 l0_0.length c0_0) := (blk_cell BK114.out 0).trans rfl; have hcz14_1 : w13.cell? ⟨gb114, 1, none⟩ = some (.slice A0_1 l0_1.length c0_1) := (blk_cell BK114.out 1).trans rfl; have hcz14_2 : w13.cell? ⟨gb114, 2, none⟩ = some (.slice A0_2 l0_2.length c0_2) := (blk_cell BK114.out 2).trans rfl; have hfz14_0 := blk_frozen BK114.out 0; have hfz14_1 := blk_frozen BK114.out 1; have hfz14_2 := blk_frozen BK114.out 2) | (go_at_call 27; (with_reducible refine (laws_joinedTexts.calls k _ _ l2 t116 _ ?side1 ?side2 A9.out).mono ?_); (case side1 => repeat (first | exact (Kd.C_below HR2.out HB.out) | (with_reducible refine Kd.C_alloc ?_ _) | (with_reducible refine Kd.C_drewN ?_ _) | (with_reducible refine Kd.C_drew ?_))); (case side2 => exact HC2.out); rintro e w15 ⟨v117, rfl, ho0, hb⟩; have n0_ := Aside0.mk (Kd.R_lower ho0 (below_size (by repeat (first | (with_reducible first | exact HB.out | apply below_alloc | apply pw_below_drewN | apply below_drew1 | refine below_set ?_ GE114.out) | exact HB.out)))); have n1_ := Aside0.mk (blk_below (g := gb114) (o := .cells #[.slice A0_0 l0_0.length c0_0, .slice A0_1 l0_1.length c0_1, .slice A0_2 l0_2.length c0_2] 39 (0, 0)) (by (with_reducible repeat (first | refine blk_drewN ?_ _ | refine blk_drew ?_ | refine blk_alloc ?_ _)); exact BK114.out) hb); have n2_ := Aside0.mk (below_step (by repeat (first | (with_reducible first | exact HB.out | apply below_alloc | apply pw_below_drewN | apply below_drew1 | refine below_set ?_ GE114.out) | exact HB.out)) hb); clear BK114; clear HB; have HO118 := n0_; have BK114 := n1_; have HB := n2_; clear n0_ n1_ n2_; (try clear hb); (try clear hb2); (try clear hk); (try clear hi); (try clear ho0); obtain ⟨Ao16, co16, eo16⟩ := Kd.R_slice HO118.out; subst eo16) | ((with_reducible refine gate_dst (N := 31) rfl ?_); (try (refine gate_guard (by rfl) ?_; dsimp only)); refine Kd.N_lit (Kd.slice 5 (Kd.int .u8)) _ 22 ?hg (N' := 31) ?hd (xs := ([t116] : List (List Int))) (inner := [.slice Ao16 t116.length co16]) (ok := (fun k_ => k_ ≠ gb114)) (okp := (fun k_ => k_ ≠ gb114)) ?hr ?hp (fun _ hk => hk) ((show ∀ k_, w15.heap.size ≤ k_ → (fun k_ => k_ ≠ gb114) k_ from fun k_ hk => Kd.freshB (g := gb114) (o := .cells #[.slice A0_0 l0_0.length c0_0, .slice A0_1 l0_1.length c0_1, .slice A0_2 l0_2.length c0_2] 39 (0, 0)) (by (with_reducible repeat (first | refine blk_drewN ?_ _ | refine blk_drew ?_ | refine blk_alloc ?_ _)); exact BK114.out) k_ hk) _ (Nat.le_refl _)) (Below.refl _ _) (Nat.le_refl _) (by simp) ?_; (case hd => rfl); (case hg => rfl); (case hr => first | (go_simp; done) | (go_simp; rfl)); (case hp => exact (Reps.one (show Kd.FK (Kd.slice 5 (Kd.int .u8)) _ _ t116 [.slice Ao16 t116.length co16] from (Kd.FK_slice_mk (Kd.R_reads' (Kd.R_mono (ok' := (fun k_ => k_ ≠ gb114)) (Kd.R_types (HO118.out) BK114.out (by decide)) (fun k_ hk => hk.2))).2.1 (Kd.R_F (Kd.R_mono (ok' := (fun k_ => k_ ≠ gb114)) (Kd.R_types (HO118.out) BK114.out (by decide)) (fun k_ hk => hk.2))))) (Reps.none _ _))); intro v120 w17 ho18 hb hg_ hnew_; clear hg_ hnew_; (first | rw [← Ny119.out] at ho18 | (simp only [Int.reduceToNat] at ho18; rw [← Ny119.out] at ho18)); have n0_ := Aside0.mk (Kd.N_lower ho18 (below_size (by repeat (first | (with_reducible first | exact HB.out | apply below_alloc | apply pw_below_drewN | apply below_drew1 | refine below_set ?_ GE114.out) | exact HB.out)))); have n1_ := Aside0.mk (blk_below (g := gb114) (o := .cells #[.slice A0_0 l0_0.length c0_0, .slice A0_1 l0_1.length c0_1, .slice A0_2 l0_2.length c0_2] 39 (0, 0)) (by (with_reducible repeat (first | refine blk_drewN ?_ _ | refine blk_drew ?_ | refine blk_alloc ?_ _)); exact BK114.out) hb); have n2_ := Aside0.mk (below_step (by repeat (first | (with_reducible first | exact HB.out | apply below_alloc | apply pw_below_drewN | apply below_drew1 | refine below_set ?_ GE114.out) | exact HB.out)) hb); clear BK114; clear HB; clear HO118; have HO121 := n0_; have BK114 := n1_; have HB := n2_; clear n0_ n1_ n2_; clear hb ho18; obtain ⟨Ao19, co19, eo19⟩ := Kd.N_slice HO121.out; subst eo19) | (go_at_call 13; (with_reducible refine (laws_brief.calls k _ _ y119 t122 _ ?side1 ?side2 A10.out).mono ?_); (case side1 => repeat (first | exact (Kd.N_reads' HO121.out).2.2 | (with_reducible refine Kd.C_alloc ?_ _) | (with_reducible refine Kd.C_drewN ?_ _) | (with_reducible refine Kd.C_drew ?_))); (case side2 => exact (Kd.N_reads' HO121.out).2.1); rintro e w' ⟨rfl, ⟨nd, rfl⟩⟩))
          go_ret
          exact ⟨by first | rfl | (simp [errW_none, errW_some] <;> rfl) | (simp [*, errW_none, errW_some] <;> rfl), by repeat (first | (with_reducible first | exact HB.out | apply below_alloc | apply pw_below_drewN | apply below_drew1 | refine below_set ?_ GE114.out) | exact HB.out)⟩
        · rw [if_neg c8] at H
          have c8b0 : decide ((l2.length : Int) ≤ 60) = false := decide_eq_false c8
          have c8b1 : decide (l2.length ≤ 60) = false := decide_eq_false (by omega)
          clear c8
          obtain rfl := Option.some.inj H
          go_enter Try.func22, Try.ntmps22
          go_wp2_with (first | ((with_reducible refine gate_dst (N := 3) rfl ?_); (try (refine gate_guard (by rfl) ?_; dsimp only)); refine box_event ?hg (N := 3) ?hd (cs := #[.slice A0_0 l0_0.length c0_0, .slice A0_1 l0_1.length c0_1, .slice A0_2 l0_2.length c0_2]) (t := 39) ?hr ?_; (case hd => rfl); (case hg => rfl); (case hr => first | (go_simp; done) | (go_simp; rfl)); intro gb114 hg w20 hbox hb; have n0_ := Aside0.mk (below_step (by repeat (first | (with_reducible first | exact HB.out | apply below_alloc | apply pw_below_drewN | apply below_drew1) | exact HB.out)) hb); have n1_ := Aside0.mk (hbox); have n2_ := Aside0.mk ((by rw [hg]; exact (below_size (by repeat (first | (with_reducible first | exact HB.out | apply below_alloc | apply pw_below_drewN | apply below_drew1) | exact HB.out))) : w.heap.size ≤ gb114)); have n3_ := Aside0.mk ((by rw [hg]; exact (below_size (by repeat (first | (with_reducible first | exact HB.out | apply below_alloc | apply pw_below_drewN | apply below_drew1) | exact HB.out))) : w.heap.size ≤ gb114)); clear HB; have HB := n0_; have BK114 := n1_; have GW114 := n2_; have GE114 := n3_; clear n0_ n1_ n2_ n3_; clear hb hbox hg; have hcz21_0 : w20.cell? ⟨gb114, 0, none⟩ = some (.slice A0_0 l0_0.length c0_0) := (blk_cell BK114.out 0).trans rfl; have hcz21_1 : w20.cell? ⟨gb114, 1, none⟩ = some (.slice A0_1 l0_1.length c0_1) := (blk_cell BK114.out 1).trans rfl; have hcz21_2 : w20.cell? ⟨gb114, 2, none⟩ = some (.slice A0_2 l0_2.length c0_2) := (blk_cell BK114.out 2).trans rfl; have hfz21_0 := blk_frozen BK114.out 0; have hfz21_1 := blk_frozen BK114.out 1; have hfz21_2 := blk_frozen BK114.out 2) | ((with_reducible refine gate_callee (f := 43) rfl ?_); refine goesL_ (some 8) rfl rfl Try.func43 (by kernel_rfl) rfl #[.agg #[.slice A0_0 l0_0.length c0_0, .slice A0_1 l0_1.length c0_1, .slice A0_2 l0_2.length c0_2]] rfl (by (try simp only [List.map_toArray, List.map_cons, List.map_nil]); first | done | rfl | (simp only [List.length_drop, List.length_take]; rfl)) ?_; (with_reducible refine (spec_RightBlock.calls k _ _ l0_0 _ _ l0_1 _ _ l0_2 true _ ?side1 ?side2 ?side3 ?side4 ?side5 ?side6 A4.out).mono ?_); (case side1 => repeat (first | exact (Kd.C_below HR0_0.out HB.out) | (with_reducible refine Kd.C_alloc ?_ _) | (with_reducible refine Kd.C_drewN ?_ _) | (with_reducible refine Kd.C_drew ?_))); (case side2 => exact HC0_0.out); (case side3 => repeat (first | exact (Kd.C_below HR0_1.out HB.out) | (with_reducible refine Kd.C_alloc ?_ _) | (with_reducible refine Kd.C_drewN ?_ _) | (with_reducible refine Kd.C_drew ?_))); (case side4 => exact HC0_1.out); (case side5 => repeat (first | exact (Kd.C_below HR0_2.out HB.out) | (with_reducible refine Kd.C_alloc ?_ _) | (with_reducible refine Kd.C_drewN ?_ _) | (with_reducible refine Kd.C_drew ?_))); (case side6 => exact HC0_2.out); rintro e w22 ⟨rfl, hb⟩; refine ⟨_, rfl, ?_⟩; have n0_ := Aside0.mk (blk_below (g := gb114) (o := .cells #[.slice A0_0 l0_0.length c0_0, .slice A0_1 l0_1.length c0_1, .slice A0_2 l0_2.length c0_2] 39 (0, 0)) (by (with_reducible repeat (first | refine blk_drewN ?_ _ | refine blk_drew ?_ | refine blk_alloc ?_ _)); exact BK114.out) hb); have n1_ := Aside0.mk (below_step (by repeat (first | (with_reducible first | exact HB.out | apply below_alloc | apply pw_below_drewN | apply below_drew1 | refine below_set ?_ GE114.out) | exact HB.out)) hb); clear BK114; clear HB; have BK114 := n0_; have HB := n1_; clear n0_ n1_; (try clear hb); (try clear hb2); (try clear hk); (try clear hi); have hcz23_0 : w22.cell? ⟨gb114, 0, none⟩ = some (.slice A0_0 l0_0.length c0_0) := (blk_cell BK114.out 0).trans rfl; have hcz23_1 : w22.cell? ⟨gb114, 1, none⟩ = some (.slice A0_1 l0_1.length c0_1) := (blk_cell BK114.out 1).trans rfl; have hcz23_2 : w22.cell? ⟨gb114, 2, none⟩ = some (.slice A0_2 l0_2.length c0_2) := (blk_cell BK114.out 2).trans rfl; have hfz23_0 := blk_frozen BK114.out 0; have hfz23_1 := blk_frozen BK114.out 1; have hfz23_2 := blk_frozen BK114.out 2))
          go_ret
          exact ⟨by first | rfl | (simp [errW_none, errW_some] <;> rfl) | (simp [*, errW_none, errW_some] <;> rfl), by repeat (first | (with_reducible first | exact HB.out | apply below_alloc | apply pw_below_drewN | apply below_drew1 | refine below_set ?_ GE114.out) | exact HB.out)⟩
      · rw [if_neg c7] at H
        have c7b0 : ((l1.length : Int) == (l0_2.length : Int)) = false := beq_eq_false_iff_ne.mpr c7
        have c7b1 : ((l1.length : Int) != (l0_2.length : Int)) = true := bne_iff_ne.mpr c7
        have c7b2 : (l1.length == l0_2.length) = false := by first | simpa using c7 | (simp at c7 ⊢; omega)
        obtain rfl := Option.some.inj H
        go_enter Try.func22, Try.ntmps22
        go_wp2_with (first | ((with_reducible refine gate_dst (N := 3) rfl ?_); (try (refine gate_guard (by rfl) ?_; dsimp only)); refine box_event ?hg (N := 3) ?hd (cs := #[.slice A0_0 l0_0.length c0_0, .slice A0_1 l0_1.length c0_1, .slice A0_2 l0_2.length c0_2]) (t := 39) ?hr ?_; (case hd => rfl); (case hg => rfl); (case hr => first | (go_simp; done) | (go_simp; rfl)); intro gb114 hg w24 hbox hb; have n0_ := Aside0.mk (below_step (by repeat (first | (with_reducible first | exact HB.out | apply below_alloc | apply pw_below_drewN | apply below_drew1) | exact HB.out)) hb); have n1_ := Aside0.mk (hbox); have n2_ := Aside0.mk ((by rw [hg]; exact (below_size (by repeat (first | (with_reducible first | exact HB.out | apply below_alloc | apply pw_below_drewN | apply below_drew1) | exact HB.out))) : w.heap.size ≤ gb114)); have n3_ := Aside0.mk ((by rw [hg]; exact (below_size (by repeat (first | (with_reducible first | exact HB.out | apply below_alloc | apply pw_below_drewN | apply below_drew1) | exact HB.out))) : w.heap.size ≤ gb114)); clear HB; have HB := n0_; have BK114 := n1_; have GW114 := n2_; have GE114 := n3_; clear n0_ n1_ n2_ n3_; clear hb hbox hg; have hcz25_0 : w24.cell? ⟨gb114, 0, none⟩ = some (.slice A0_0 l0_0.length c0_0) := (blk_cell BK114.out 0).trans rfl; have hcz25_1 : w24.cell? ⟨gb114, 1, none⟩ = some (.slice A0_1 l0_1.length c0_1) := (blk_cell BK114.out 1).trans rfl; have hcz25_2 : w24.cell? ⟨gb114, 2, none⟩ = some (.slice A0_2 l0_2.length c0_2) := (blk_cell BK114.out 2).trans rfl; have hfz25_0 := blk_frozen BK114.out 0; have hfz25_1 := blk_frozen BK114.out 1; have hfz25_2 := blk_frozen BK114.out 2) | ((with_reducible refine gate_callee (f := 43) rfl ?_); refine goesL_ (some 8) rfl rfl Try.func43 (by kernel_rfl) rfl #[.agg #[.slice A0_0 l0_0.length c0_0, .slice A0_1 l0_1.length c0_1, .slice A0_2 l0_2.length c0_2]] rfl (by (try simp only [List.map_toArray, List.map_cons, List.map_nil]); first | done | rfl | (simp only [List.length_drop, List.length_take]; rfl)) ?_; (with_reducible refine (spec_RightBlock.calls k _ _ l0_0 _ _ l0_1 _ _ l0_2 true _ ?side1 ?side2 ?side3 ?side4 ?side5 ?side6 A4.out).mono ?_); (case side1 => repeat (first | exact (Kd.C_below HR0_0.out HB.out) | (with_reducible refine Kd.C_alloc ?_ _) | (with_reducible refine Kd.C_drewN ?_ _) | (with_reducible refine Kd.C_drew ?_))); (case side2 => exact HC0_0.out); (case side3 => repeat (first | exact (Kd.C_below HR0_1.out HB.out) | (with_reducible refine Kd.C_alloc ?_ _) | (with_reducible refine Kd.C_drewN ?_ _) | (with_reducible refine Kd.C_drew ?_))); (case side4 => exact HC0_1.out); (case side5 => repeat (first | exact (Kd.C_below HR0_2.out HB.out) | (with_reducible refine Kd.C_alloc ?_ _) | (with_reducible refine Kd.C_drewN ?_ _) | (with_reducible refine Kd.C_drew ?_))); (case side6 => exact HC0_2.out); rintro e w26 ⟨rfl, hb⟩; refine ⟨_, rfl, ?_⟩; have n0_ := Aside0.mk (blk_below (g := gb114) (o := .cells #[.slice A0_0 l0_0.length c0_0, .slice A0_1 l0_1.length c0_1, .slice A0_2 l0_2.length c0_2] 39 (0, 0)) (by (with_reducible repeat (first | refine blk_drewN ?_ _ | refine blk_drew ?_ | refine blk_alloc ?_ _)); exact BK114.out) hb); have n1_ := Aside0.mk (below_step (by repeat (first | (with_reducible first | exact HB.out | apply below_alloc | apply pw_below_drewN | apply below_drew1 | refine below_set ?_ GE114.out) | exact HB.out)) hb); clear BK114; clear HB; have BK114 := n0_; have HB := n1_; clear n0_ n1_; (try clear hb); (try clear hb2); (try clear hk); (try clear hi); have hcz27_0 : w26.cell? ⟨gb114, 0, none⟩ = some (.slice A0_0 l0_0.length c0_0) := (blk_cell BK114.out 0).trans rfl; have hcz27_1 : w26.cell? ⟨gb114, 1, none⟩ = some (.slice A0_1 l0_1.length c0_1) := (blk_cell BK114.out 1).trans rfl; have hcz27_2 : w26.cell? ⟨gb114, 2, none⟩ = some (.slice A0_2 l0_2.length c0_2) := (blk_cell BK114.out 2).trans rfl; have hfz27_0 := blk_frozen BK114.out 0; have hfz27_1 := blk_frozen BK114.out 1; have hfz27_2 := blk_frozen BK114.out 2))
        go_ret
        exact ⟨by first | rfl | (simp [errW_none, errW_some] <;> rfl) | (simp [*, errW_none, errW_some] <;> rfl), by repeat (first | (with_reducible first | exact HB.out | apply below_alloc | apply pw_below_drewN | apply below_drew1 | refine below_set ?_ GE114.out) | exact HB.out)⟩
    · rw [if_neg c6] at H
      have c6b0 : decide (2 ≤ (l0_2.length : Int)) = false := decide_eq_false c6
      have c6b1 : decide (2 ≤ l0_2.length) = false := decide_eq_false (by omega)
      clear c6
      obtain rfl := Option.some.inj H
      go_enter Try.func22, Try.ntmps22
      go_wp2_with (first | ((with_reducible refine gate_dst (N := 3) rfl ?_); (try (refine gate_guard (by rfl) ?_; dsimp only)); refine box_event ?hg (N := 3) ?hd (cs := #[.slice A0_0 l0_0.length c0_0, .slice A0_1 l0_1.length c0_1, .slice A0_2 l0_2.length c0_2]) (t := 39) ?hr ?_; (case hd => rfl); (case hg => rfl); (case hr => first | (go_simp; done) | (go_simp; rfl)); intro gb114 hg w28 hbox hb; have n0_ := Aside0.mk (below_step (by repeat (first | (with_reducible first | exact HB.out | apply below_alloc | apply pw_below_drewN | apply below_drew1) | exact HB.out)) hb); have n1_ := Aside0.mk (hbox); have n2_ := Aside0.mk ((by rw [hg]; exact (below_size (by repeat (first | (with_reducible first | exact HB.out | apply below_alloc | apply pw_below_drewN | apply below_drew1) | exact HB.out))) : w.heap.size ≤ gb114)); have n3_ := Aside0.mk ((by rw [hg]; exact (below_size (by repeat (first | (with_reducible first | exact HB.out | apply below_alloc | apply pw_below_drewN | apply below_drew1) | exact HB.out))) : w.heap.size ≤ gb114)); clear HB; have HB := n0_; have BK114 := n1_; have GW114 := n2_; have GE114 := n3_; clear n0_ n1_ n2_ n3_; clear hb hbox hg; have hcz29_0 : w28.cell? ⟨gb114, 0, none⟩ = some (.slice A0_0 l0_0.length c0_0) := (blk_cell BK114.out 0).trans rfl; have hcz29_1 : w28.cell? ⟨gb114, 1, none⟩ = some (.slice A0_1 l0_1.length c0_1) := (blk_cell BK114.out 1).trans rfl; have hcz29_2 : w28.cell? ⟨gb114, 2, none⟩ = some (.slice A0_2 l0_2.length c0_2) := (blk_cell BK114.out 2).trans rfl; have hfz29_0 := blk_frozen BK114.out 0; have hfz29_1 := blk_frozen BK114.out 1; have hfz29_2 := blk_frozen BK114.out 2) | ((with_reducible refine gate_callee (f := 43) rfl ?_); refine goesL_ (some 8) rfl rfl Try.func43 (by kernel_rfl) rfl #[.agg #[.slice A0_0 l0_0.length c0_0, .slice A0_1 l0_1.length c0_1, .slice A0_2 l0_2.length c0_2]] rfl (by (try simp only [List.map_toArray, List.map_cons, List.map_nil]); first | done | rfl | (simp only [List.length_drop, List.length_take]; rfl)) ?_; (with_reducible refine (spec_RightBlock.calls k _ _ l0_0 _ _ l0_1 _ _ l0_2 true _ ?side1 ?side2 ?side3 ?side4 ?side5 ?side6 A4.out).mono ?_); (case side1 => repeat (first | exact (Kd.C_below HR0_0.out HB.out) | (with_reducible refine Kd.C_alloc ?_ _) | (with_reducible refine Kd.C_drewN ?_ _) | (with_reducible refine Kd.C_drew ?_))); (case side2 => exact HC0_0.out); (case side3 => repeat (first | exact (Kd.C_below HR0_1.out HB.out) | (with_reducible refine Kd.C_alloc ?_ _) | (with_reducible refine Kd.C_drewN ?_ _) | (with_reducible refine Kd.C_drew ?_))); (case side4 => exact HC0_1.out); (case side5 => repeat (first | exact (Kd.C_below HR0_2.out HB.out) | (with_reducible refine Kd.C_alloc ?_ _) | (with_reducible refine Kd.C_drewN ?_ _) | (with_reducible refine Kd.C_drew ?_))); (case side6 => exact HC0_2.out); rintro e w30 ⟨rfl, hb⟩; refine ⟨_, rfl, ?_⟩; have n0_ := Aside0.mk (blk_below (g := gb114) (o := .cells #[.slice A0_0 l0_0.length c0_0, .slice A0_1 l0_1.length c0_1, .slice A0_2 l0_2.length c0_2] 39 (0, 0)) (by (with_reducible repeat (first | refine blk_drewN ?_ _ | refine blk_drew ?_ | refine blk_alloc ?_ _)); exact BK114.out) hb); have n1_ := Aside0.mk (below_step (by repeat (first | (with_reducible first | exact HB.out | apply below_alloc | apply pw_below_drewN | apply below_drew1 | refine below_set ?_ GE114.out) | exact HB.out)) hb); clear BK114; clear HB; have BK114 := n0_; have HB := n1_; clear n0_ n1_; (try clear hb); (try clear hb2); (try clear hk); (try clear hi); have hcz31_0 : w30.cell? ⟨gb114, 0, none⟩ = some (.slice A0_0 l0_0.length c0_0) := (blk_cell BK114.out 0).trans rfl; have hcz31_1 : w30.cell? ⟨gb114, 1, none⟩ = some (.slice A0_1 l0_1.length c0_1) := (blk_cell BK114.out 1).trans rfl; have hcz31_2 : w30.cell? ⟨gb114, 2, none⟩ = some (.slice A0_2 l0_2.length c0_2) := (blk_cell BK114.out 2).trans rfl; have hfz31_0 := blk_frozen BK114.out 0; have hfz31_1 := blk_frozen BK114.out 1; have hfz31_2 := blk_frozen BK114.out 2))
      go_ret
      exact ⟨by first | rfl | (simp [errW_none, errW_some] <;> rfl) | (simp [*, errW_none, errW_some] <;> rfl), by repeat (first | (with_reducible first | exact HB.out | apply below_alloc | apply pw_below_drewN | apply below_drew1 | refine below_set ?_ GE114.out) | exact HB.out)⟩
  · replace c5 := Bool.eq_false_iff.mpr c5
    subst c5
    have H1 : (some false) = some r := by rw [if_neg (show ¬ (false = true) by decide)] at H; exact H
    clear H
    have H := H1
    clear H1
    obtain rfl := Option.some.inj H
    go_enter Try.func22, Try.ntmps22
    go_wp2_with (first | ((with_reducible refine gate_dst (N := 3) rfl ?_); (try (refine gate_guard (by rfl) ?_; dsimp only)); refine box_event ?hg (N := 3) ?hd (cs := #[.slice A0_0 l0_0.length c0_0, .slice A0_1 l0_1.length c0_1, .slice A0_2 l0_2.length c0_2]) (t := 39) ?hr ?_; (case hd => rfl); (case hg => rfl); (case hr => first | (go_simp; done) | (go_simp; rfl)); intro gb114 hg w32 hbox hb; have n0_ := Aside0.mk (below_step (by repeat (first | (with_reducible first | exact HB.out | apply below_alloc | apply pw_below_drewN | apply below_drew1) | exact HB.out)) hb); have n1_ := Aside0.mk (hbox); have n2_ := Aside0.mk ((by rw [hg]; exact (below_size (by repeat (first | (with_reducible first | exact HB.out | apply below_alloc | apply pw_below_drewN | apply below_drew1) | exact HB.out))) : w.heap.size ≤ gb114)); have n3_ := Aside0.mk ((by rw [hg]; exact (below_size (by repeat (first | (with_reducible first | exact HB.out | apply below_alloc | apply pw_below_drewN | apply below_drew1) | exact HB.out))) : w.heap.size ≤ gb114)); clear HB; have HB := n0_; have BK114 := n1_; have GW114 := n2_; have GE114 := n3_; clear n0_ n1_ n2_ n3_; clear hb hbox hg; have hcz33_0 : w32.cell? ⟨gb114, 0, none⟩ = some (.slice A0_0 l0_0.length c0_0) := (blk_cell BK114.out 0).trans rfl; have hcz33_1 : w32.cell? ⟨gb114, 1, none⟩ = some (.slice A0_1 l0_1.length c0_1) := (blk_cell BK114.out 1).trans rfl; have hcz33_2 : w32.cell? ⟨gb114, 2, none⟩ = some (.slice A0_2 l0_2.length c0_2) := (blk_cell BK114.out 2).trans rfl; have hfz33_0 := blk_frozen BK114.out 0; have hfz33_1 := blk_frozen BK114.out 1; have hfz33_2 := blk_frozen BK114.out 2) | ((with_reducible refine gate_callee (f := 43) rfl ?_); refine goesL_ (some 8) rfl rfl Try.func43 (by kernel_rfl) rfl #[.agg #[.slice A0_0 l0_0.length c0_0, .slice A0_1 l0_1.length c0_1, .slice A0_2 l0_2.length c0_2]] rfl (by (try simp only [List.map_toArray, List.map_cons, List.map_nil]); first | done | rfl | (simp only [List.length_drop, List.length_take]; rfl)) ?_; (with_reducible refine (spec_RightBlock.calls k _ _ l0_0 _ _ l0_1 _ _ l0_2 false _ ?side1 ?side2 ?side3 ?side4 ?side5 ?side6 A4.out).mono ?_); (case side1 => repeat (first | exact (Kd.C_below HR0_0.out HB.out) | (with_reducible refine Kd.C_alloc ?_ _) | (with_reducible refine Kd.C_drewN ?_ _) | (with_reducible refine Kd.C_drew ?_))); (case side2 => exact HC0_0.out); (case side3 => repeat (first | exact (Kd.C_below HR0_1.out HB.out) | (with_reducible refine Kd.C_alloc ?_ _) | (with_reducible refine Kd.C_drewN ?_ _) | (with_reducible refine Kd.C_drew ?_))); (case side4 => exact HC0_1.out); (case side5 => repeat (first | exact (Kd.C_below HR0_2.out HB.out) | (with_reducible refine Kd.C_alloc ?_ _) | (with_reducible refine Kd.C_drewN ?_ _) | (with_reducible refine Kd.C_drew ?_))); (case side6 => exact HC0_2.out); rintro e w34 ⟨rfl, hb⟩; refine ⟨_, rfl, ?_⟩; have n0_ := Aside0.mk (blk_below (g := gb114) (o := .cells #[.slice A0_0 l0_0.length c0_0, .slice A0_1 l0_1.length c0_1, .slice A0_2 l0_2.length c0_2] 39 (0, 0)) (by (with_reducible repeat (first | refine blk_drewN ?_ _ | refine blk_drew ?_ | refine blk_alloc ?_ _)); exact BK114.out) hb); have n1_ := Aside0.mk (below_step (by repeat (first | (with_reducible first | exact HB.out | apply below_alloc | apply pw_below_drewN | apply below_drew1 | refine below_set ?_ GE114.out) | exact HB.out)) hb); clear BK114; clear HB; have BK114 := n0_; have HB := n1_; clear n0_ n1_; (try clear hb); (try clear hb2); (try clear hk); (try clear hi)))
    go_ret
    exact ⟨by first | rfl | (simp [errW_none, errW_some] <;> rfl) | (simp [*, errW_none, errW_some] <;> rfl), by repeat (first | (with_reducible first | exact HB.out | apply below_alloc | apply pw_below_drewN | apply below_drew1 | refine below_set ?_ GE114.out) | exact HB.out)⟩

/-! ### spec_Xored: function 63 -/
def spec_Xored.l0 : Nat → List Int → List Int → List Int → Int → Option (List Int)
  | 0, _, _, _, _ => none
  | k + 1, x0, x1, x5, x6 => if x6 < (x1.length : Int) then (if x6 < (x0.length : Int) then (if 0 ≤ x6 then (if x6 < (x5.length : Int) then (spec_Xored.l0 k x0 x1 (x5.set (x6 : Int).toNat (Go.bits .xor .u8 (rd x5 x6) (rd x1 x6))) (wrap64 (x6 + 1))) else (none)) else (none)) else (some x5)) else (some x5)
def spec_Xored.f (k : Nat) (l0 : List Int) (l1 : List Int) : Option (List Int) := (some (([] : List Int) : List Int)).bind fun y123 => (if y123.length + l0.length < 140737488355328 then (spec_Xored.l0 k l0 l1 (y123 ++ l0) 0) else (none))
theorem spec_Xored.mono_l : ∀ k, (∀ y0 y1 y2 y3, LeO (spec_Xored.l0 k y0 y1 y2 y3) (spec_Xored.l0 (k + 1) y0 y1 y2 y3))
  | 0 => fun _ _ _ _ r h => by simp [spec_Xored.l0] at h
  | k + 1 => by
    have ih0 := spec_Xored.mono_l k
    · intro y0 y1 y2 y3
      unfold spec_Xored.l0
      repeat' first
      | (with_reducible exact ih0 _ _ _ _)
      | (with_reducible exact LeO.refl _)
      | (with_reducible exact LeO.none _)
      | (with_reducible refine LeO.ite ?_ ?_)
      | (with_reducible refine LeO.bind ?_ (fun _ => ?_))
      | exact ih0 _ _ _ _
      | exact LeO.none _
      | refine LeO.ite ?_ ?_
      | refine LeO.bind ?_ (fun _ => ?_)
theorem spec_Xored.mono : ∀ a0 a1 k, LeO (spec_Xored.f k a0 a1) (spec_Xored.f (k + 1) a0 a1) := by
  intro a0 a1 k
  have ih0 := spec_Xored.mono_l k
  unfold spec_Xored.f
  repeat' first
      | (with_reducible exact ih0 _ _ _ _)
      | (with_reducible exact LeO.refl _)
      | (with_reducible exact LeO.none _)
      | (with_reducible refine LeO.ite ?_ ?_)
      | (with_reducible refine LeO.bind ?_ (fun _ => ?_))
      | exact ih0 _ _ _ _
      | exact LeO.none _
      | refine LeO.ite ?_ ?_
      | refine LeO.bind ?_ (fun _ => ?_)
def spec_Xored.T5 : Bool × List (List Nat × List Nat) := (true, [([], []), ([], []), ([0, 1], [0, 1]), ([2], [2]), ([], []), ([], []), ([4, 5], [4, 5]), ([6], [6]), ([3, 7], [3, 7]), ([0, 1, 0, 1, 2, 3, 4, 5, 6, 7, 8], [0, 1]), ([9, 8, 0, 1, 2, 3, 4, 5, 6, 7, 8], [8, 9])])
def spec_Xored.B5 : List Nat := [0, 0, 3, 7, 0, 0, 48, 112, 255, 511, 1023]
theorem spec_Xored.tab5 : rtab .any (opsOf Try.f63 5) = spec_Xored.T5 := by kernel_rfl
theorem spec_Xored.bits5 : waitsOk spec_Xored.T5.2 spec_Xored.B5 = true := by kernel_rfl
set_option maxHeartbeats 8000000 in
set_option maxRecDepth 100000 in
theorem spec_Xored.calls (k : Nat) (A0 : Option Addr) (c0 : Nat) (l0 : List Int) (A1 : Option Addr) (c1 : Nat) (l1 : List Int) (r : List Int) (w : World) (hr0 : Kd.C (Kd.int .u8) w A0 l0.length l0) (hc0 : l0.length ≤ c0) (hr1 : Kd.C (Kd.int .u8) w A1 l1.length l1) (hc1 : l1.length ≤ c1) (h : spec_Xored.f k l0 l1 = some r) :
    Calls Try.prog 63 #[.slice A0 l0.length c0, .slice A1 l1.length c1] w fun e w' => ∃ v0_ : Value, e = .returned (v0_) ∧ Kd.R (Kd.int .u8) 5 w' w.heap.size (fun _ => True) v0_ r ∧ Below w.heap.size w w' := by
  have HR0 := Aside0.mk hr0
  have HC0 := Aside0.mk hc0
  clear hr0 hc0
  have HR1 := Aside0.mk hr1
  have HC1 := Aside0.mk hc1
  clear hr1 hc1
  have HB := Aside0.mk (Below.refl w.heap.size w)
  have H : ((some (([] : List Int) : List Int)).bind fun y123 => (if y123.length + l0.length < 140737488355328 then (spec_Xored.l0 k l0 l1 (y123 ++ l0) 0) else (none))) = some r := h
  clear h
  obtain ⟨y123, hy123⟩ : ∃ y_ : List Int, y_ = (([] : List Int)) := ⟨_, rfl⟩
  replace H : (if y123.length + l0.length < 140737488355328 then (spec_Xored.l0 k l0 l1 (y123 ++ l0) 0) else (none)) = some r := by first | (rw [hy123]; with_reducible exact H) | (have H2_ := (Option.bind_some _ _).symm.trans H; rw [hy123]; with_reducible exact H2_) | (have H2_ := (Option.bind_some _ _).symm.trans H; with_reducible exact H2_) | with_reducible exact H | (rw [hy123]; exact H) | exact H
  have Ny123 := Aside0.mk hy123
  clear hy123
  by_cases c3 : y123.length + l0.length < 140737488355328
  · rw [if_pos c3] at H
    have LMc3 := Aside0.mk c3
    clear c3
    obtain ⟨y126, hy126⟩ : ∃ y_ : List Int, y_ = (y123 ++ l0) := ⟨_, rfl⟩
    replace H : (spec_Xored.l0 k l0 l1 y126 0) = some r := by first | (rw [hy126]; with_reducible exact H) | (have H2_ := (Option.bind_some _ _).symm.trans H; rw [hy126]; with_reducible exact H2_) | (have H2_ := (Option.bind_some _ _).symm.trans H; with_reducible exact H2_) | with_reducible exact H | (rw [hy126]; exact H) | exact H
    have Ny126 := Aside0.mk hy126
    clear hy126
    have H' := Aside0.mk H
    clear H
    go_enter Try.func63, Try.ntmps63
    go_wp2_with (first | ((with_reducible refine gate_dst (N := 7) rfl ?_); (try (refine gate_guard (by rfl) ?_; dsimp only)); refine Kd.R_lit (Kd.int .u8) _ 5 ?hg (N := 7) ?hd (xs := ([] : List Int)) (inner := []) (ok := fun _ => True) (okp := fun _ => True) ?hr ?hp (fun _ hk => hk) trivial (Below.refl _ _) (Nat.le_refl _) (by simp) ?_; (case hd => rfl); (case hg => rfl); (case hr => first | (go_simp; done) | (go_simp; rfl)); (case hp => exact (Reps.none _ _)); intro v124 w4 ho5 hb hg_ hnew_; clear hg_ hnew_; (first | rw [← Ny123.out] at ho5 | (simp only [Int.reduceToNat] at ho5; rw [← Ny123.out] at ho5)); have n0_ := Aside0.mk (Kd.R_lower ho5 (below_size (by repeat (first | (with_reducible first | exact HB.out | apply below_alloc | apply pw_below_drewN | apply below_drew1) | exact HB.out)))); have n1_ := Aside0.mk (below_step (by repeat (first | (with_reducible first | exact HB.out | apply below_alloc | apply pw_below_drewN | apply below_drew1) | exact HB.out)) hb); clear HB; have HO125 := n0_; have HB := n1_; clear n0_ n1_; clear hb ho5) | ((with_reducible refine gate_builtin (b := .append) (xs := #[.tmp 7, .tmp 8]) rfl ?_); (try (refine gate_guard (by rfl) ?_; dsimp only)); at_builtin; refine Kd.R_append_rows (Kd.int .u8) (w0 := w) w.heap.size rfl (.tmp 7) (.tmp 8) 22 5 (.int .u8 0) 1 rfl Try.underlying22 info5 rfl (by decide) (by omega) v124 y123 l0 _ _ _ (fun _ => True) (fun _ => False) rfl rfl ?aO ?aR (fun _ _ h => h) (fun _ h => h.elim) ?aF ?aB ?aS ?aL ?_; (case aR => repeat (first | exact (Kd.C_below HR0.out HB.out) | (with_reducible refine Kd.C_alloc ?_ _) | (with_reducible refine Kd.C_drewN ?_ _) | (with_reducible refine Kd.C_drew ?_))); (case aB => exact (by repeat (first | (with_reducible first | exact HB.out | apply below_alloc | apply pw_below_drewN | apply below_drew1) | exact HB.out))); (case aF => exact (fun _ _ => trivial)); (case aO => exact (by (with_reducible repeat (first | apply Kd.R_alloc | apply Kd.R_drewN | apply Kd.R_drew)); exact HO125.out)); (case aS => exact (below_size (by repeat (first | (with_reducible first | exact HB.out | apply below_alloc | apply pw_below_drewN | apply below_drew1) | exact HB.out)))); (case aL => have := LMc3.out; omega); intro v127 w6 ho hb hg hat; rw [← Ny126.out] at ho; have n0_ := Aside0.mk (hb); have n1_ := Aside0.mk (ho); clear HB; clear HO125; have HB := n0_; have HO128 := n1_; clear n0_ n1_; clear ho hb hg hat))
    go_loopg [6] k (fun kq v6 w' => ∃ (x5_1 : List Int) (x6_1 : Int), v6 = .int .i64 x6_1 ∧ Aside0 (spec_Xored.l0 kq l0 l1 x5_1 x6_1 = some r) ∧ Aside0 (kq ≤ k) ∧ Aside0 (Kd.R (Kd.int .u8) 5 w' w.heap.size (fun _ => True) v127 x5_1) ∧ Aside0 (Below w.heap.size w w'))
    case atStart => exact ⟨(y126), (0), (by first | rfl | (simp; done) | (simp [*]; done)), H', ⟨Nat.le_refl _⟩, ⟨by (with_reducible repeat (first | apply Kd.R_alloc | apply Kd.R_drewN | apply Kd.R_drew)); exact HO128.out⟩, ⟨by repeat (first | (with_reducible first | exact HB.out | apply below_alloc | apply pw_below_drewN | apply below_drew1) | exact HB.out)⟩⟩
    case round =>
      clear H'
      try clear c1
      try clear p2
      try clear c3
      try clear c6
      obtain ⟨x5_1, x6_1, rfl, HA, HK1, HO_5, HB⟩ := hrel
      cases gk with
      | zero => exact absurd HA.out (by simp [spec_Xored.l0])
      | succ k1 =>
        have H := HA.out
        clear HA
        simp only [spec_Xored.l0] at H
        by_cases c7 : x6_1 < (l1.length : Int)
        · rw [if_pos c7] at H
          have c7b0 : decide (x6_1 < (l1.length : Int)) = true := decide_eq_true c7
          clear c7
          by_cases c8 : x6_1 < (l0.length : Int)
          · rw [if_pos c8] at H
            have c8b0 : decide (x6_1 < (l0.length : Int)) = true := decide_eq_true c8
            clear c8
            by_cases c9 : 0 ≤ x6_1
            · rw [if_pos c9] at H
              have c9b0 : decide (0 ≤ x6_1) = true := decide_eq_true c9
              clear c9
              by_cases c10 : x6_1 < (x5_1.length : Int)
              · rw [if_pos c10] at H
                have c10b0 : decide (x6_1 < (x5_1.length : Int)) = true := decide_eq_true c10
                clear c10
                obtain ⟨y131, hy131⟩ : ∃ y_ : List Int, y_ = (x5_1.set (x6_1 : Int).toNat (Go.bits .xor .u8 (rd x5_1 x6_1) (rd l1 x6_1))) := ⟨_, rfl⟩
                replace H : (spec_Xored.l0 k1 l0 l1 y131 (wrap64 (x6_1 + 1))) = some r := by first | (rw [hy131]; with_reducible exact H) | (have H2_ := (Option.bind_some _ _).symm.trans H; rw [hy131]; with_reducible exact H2_) | (have H2_ := (Option.bind_some _ _).symm.trans H; with_reducible exact H2_) | with_reducible exact H | (rw [hy131]; exact H) | exact H
                have Ny131 := Aside0.mk hy131
                clear hy131
                have H' := Aside0.mk H
                clear H
                try go_wp2
                have n0_ := Aside0.mk (Kd.R_drew HO_5.out)
                have n1_ := Aside0.mk (below_drew1 HB.out)
                clear HO_5
                clear HB
                have HO_5 := n0_
                have HB := n1_
                clear n0_ n1_
                obtain ⟨Ao13, co13, eo13⟩ := Kd.R_slice HO_5.out
                (first | subst eo13 | (injection eo13 with f1_ f2_ f3_; have f4_ := f1_.symm; have f5_ := f3_.symm; clear f1_ f2_ f3_; subst f4_; subst f5_))
                have p129 : 0 ≤ (x6_1 : Int) := of_decide_eq_true (by first | (with_reducible assumption) | assumption)
                have q129 : x6_1 < (x5_1.length : Int) := of_decide_eq_true (by first | (with_reducible assumption) | assumption)
                obtain ⟨ad129, e129, hx129_0⟩ := Kd.at_int (Kd.R_reads' HO_5.out).2.2 x6_1 p129 q129
                cases e129
                replace p129 := eq_true p129
                replace q129 := eq_true q129
                have p130 : 0 ≤ (x6_1 : Int) := of_decide_eq_true (by first | (with_reducible assumption) | assumption)
                have q130 : x6_1 < (l1.length : Int) := of_decide_eq_true (by first | (with_reducible assumption) | assumption)
                obtain ⟨ad130, e130, hx130_0⟩ := Kd.at_int HR1.out x6_1 p130 q130
                have hw130_0 := hx130_0
                cases e130
                replace hx130_0 := (HB.out.cell (World.block_lt_of_cell? w _ hx130_0)).trans hx130_0
                replace p130 := eq_true p130
                replace q130 := eq_true q130
                have p11 : 0 ≤ (x6_1 : Int) := of_decide_eq_true (by first | (with_reducible assumption) | assumption)
                have q11 : (x6_1 : Int) < ((x5_1.length : Int) : Int) := of_decide_eq_true (by first | (with_reducible assumption) | assumption)
                obtain ⟨go11, co11, eo11, gb11, gl11, cl11, HG11⟩ := Kd.R_form HO_5.out (by omega)
                (first | cases eo11 | (injection eo11 with ea_ en_ ec_; (first | subst ea_ | (injection ea_ with ea_; subst ea_)); subst ec_; clear en_))
                have GB11 := Aside0.mk gb11
                have GG11 := Aside0.mk HG11
                clear gb11 gl11 HG11
                (first | simp only [add_plain] at hx129_0 | skip)
                obtain ⟨hx11_0, hf11_0⟩ := Kd.R_celln 0 HO_5.out (x6_1 : Int) p11 q11
                replace p11 := eq_true p11
                replace q11 := eq_true q11
                have HP14 := Kd.R_putn HO_5.out (x6_1 : Int) (Go.bits .xor .u8 (rd x5_1 x6_1) (rd l1 x6_1))
                rw [← Ny131.out] at HP14
                have HQ14 := Aside0.mk HP14
                clear HP14
                refine start_ (n := 11) (S := fun w' => w'.cell? ⟨go11, (x6_1).toNat, none⟩ = some (.int .u8 (rd x5_1 x6_1)) ∧ w'.cell? (ad130.add (x6_1).toNat) = some (.int .u8 (rd l1 x6_1))) (ds := [10]) #[false, false, false, false, false, false, false, false, false, false, false] (by kernel_rfl) rfl rfl ⟨hx129_0, ((HB.out.cell (World.block_lt_of_cell? w _ hw130_0)).trans hw130_0)⟩ (fun hHeld => ?_); refine with_tabW spec_Xored.tab5 spec_Xored.bits5 (fun HT_ HW_ => ?_)
                generalize wr.drew = w12 at HO_5 HB GG11 HQ14 hf11_0 hx11_0 hx129_0 hx130_0 hHeld ⊢
                refine pure_ (i := 0) (N := some 22) (v := ?_) (a' := ?_) #[true, false, false, false, false, false, false, false, false, false, false] rfl rfl (any_of HT_.out (by kernel_rfl)) (fun _ _ _ h => h) (Or.inl ⟨by rfl, ?_⟩) ?_ ?_
                rotate_left
                · intro w'
                  go_simp
                  with_reducible rfl
                rotate_left
                · simp only [Act.put, List.setIfInBounds_toArray, List.set_cons_zero, List.set_cons_succ, i64_w, i32_w]
                  rfl
                refine pure_ (i := 1) (N := some 23) (v := ?_) (a' := ?_) #[true, true, false, false, false, false, false, false, false, false, false] rfl rfl (any_of HT_.out (by kernel_rfl)) (fun _ _ _ h => h) (Or.inl ⟨by rfl, ?_⟩) ?_ ?_
                rotate_left
                · intro w'
                  go_simp
                  with_reducible rfl
                rotate_left
                · simp only [Act.put, List.setIfInBounds_toArray, List.set_cons_zero, List.set_cons_succ, i64_w, i32_w]
                  rfl
                refine pure_ (i := 2) (N := some 24) (v := ?_) (a' := ?_) #[true, true, true, false, false, false, false, false, false, false, false] rfl rfl (any_of HT_.out (by kernel_rfl)) (fun _ _ _ h => h) (Or.inl ⟨by rfl, ?_⟩) ?_ ?_
                rotate_left
                · intro w'
                  go_simp
                  with_reducible rfl
                rotate_left
                · simp only [Act.put, List.setIfInBounds_toArray, List.set_cons_zero, List.set_cons_succ, i64_w, i32_w]
                  rfl
                refine pure_ (i := 4) (N := some 26) (v := ?_) (a' := ?_) #[true, true, true, false, true, false, false, false, false, false, false] rfl rfl (any_of HT_.out (by kernel_rfl)) (fun _ _ _ h => h) (Or.inl ⟨by rfl, ?_⟩) ?_ ?_
                rotate_left
                · intro w'
                  go_simp
                  with_reducible rfl
                rotate_left
                · simp only [Act.put, List.setIfInBounds_toArray, List.set_cons_zero, List.set_cons_succ, i64_w, i32_w]
                  rfl
                refine pure_ (i := 5) (N := some 27) (v := ?_) (a' := ?_) #[true, true, true, false, true, true, false, false, false, false, false] rfl rfl (any_of HT_.out (by kernel_rfl)) (fun _ _ _ h => h) (Or.inl ⟨by rfl, ?_⟩) ?_ ?_
                rotate_left
                · intro w'
                  go_simp
                  with_reducible rfl
                rotate_left
                · simp only [Act.put, List.setIfInBounds_toArray, List.set_cons_zero, List.set_cons_succ, i64_w, i32_w]
                  rfl
                refine pure_ (i := 6) (N := some 28) (v := ?_) (a' := ?_) #[true, true, true, false, true, true, true, false, false, false, false] rfl rfl (any_of HT_.out (by kernel_rfl)) (fun _ _ _ h => h) (Or.inl ⟨by rfl, ?_⟩) ?_ ?_
                rotate_left
                · intro w'
                  go_simp
                  with_reducible rfl
                rotate_left
                · simp only [Act.put, List.setIfInBounds_toArray, List.set_cons_zero, List.set_cons_succ, i64_w, i32_w]
                  rfl
                refine take_ (i := 3) (N := some 25) (v := ?_) (a' := ?_) #[true, true, true, true, true, true, true, false, false, false, false] rfl rfl (take_ofW HT_.out HW_.out (by kernel_rfl)) (fun _ _ _ h => h) (Or.inl ⟨by rfl, ?_⟩) hHeld ?_ ?_
                rotate_left
                · rintro w' ⟨s0, s1⟩
                  go_simp
                  with_reducible rfl
                rotate_left
                · simp only [Act.put, List.setIfInBounds_toArray, List.set_cons_zero, List.set_cons_succ, i64_w, i32_w]
                  rfl
                refine take_ (i := 7) (N := some 29) (v := ?_) (a' := ?_) #[true, true, true, true, true, true, true, true, false, false, false] rfl rfl (take_ofW HT_.out HW_.out (by kernel_rfl)) (fun _ _ _ h => h) (Or.inl ⟨by rfl, ?_⟩) hHeld ?_ ?_
                rotate_left
                · rintro w' ⟨s0, s1⟩
                  go_simp
                  with_reducible rfl
                rotate_left
                · simp only [Act.put, List.setIfInBounds_toArray, List.set_cons_zero, List.set_cons_succ, i64_w, i32_w]
                  rfl
                refine pure_ (i := 8) (N := some 30) (v := ?_) (a' := ?_) #[true, true, true, true, true, true, true, true, true, false, false] rfl rfl (any_of HT_.out (by kernel_rfl)) (fun _ _ _ h => h) (Or.inl ⟨by rfl, ?_⟩) ?_ ?_
                rotate_left
                · intro w'
                  go_simp
                  with_reducible rfl
                rotate_left
                · simp only [Act.put, List.setIfInBounds_toArray, List.set_cons_zero, List.set_cons_succ, i64_w, i32_w]
                  rfl
                refine pure_ (i := 9) (N := some 31) (v := ?_) (a' := ?_) #[true, true, true, true, true, true, true, true, true, true, false] rfl rfl (any_of HT_.out (by kernel_rfl)) (fun _ _ _ h => h) (Or.inl ⟨by rfl, ?_⟩) ?_ ?_
                rotate_left
                · intro w'
                  go_simp
                  with_reducible rfl
                rotate_left
                · simp only [Act.put, List.setIfInBounds_toArray, List.set_cons_zero, List.set_cons_succ, i64_w, i32_w]
                  rfl
                refine last_ (i := 10) (N := none) #[true, true, true, true, true, true, true, true, true, true, true] rfl rfl (one_of HT_.out (by kernel_rfl)) (by decide) (fun K hK => ?_)
                refine skip_ (w1 := ?_) (by rfl) rfl ?_ ?_
                rotate_left
                · go_simp
                  rfl
                refine hK.out _ _ ?_
                clear hK K
                refine done_ (done_of HT_.out (by kernel_rfl)) ?_
                try go_wp2
                go_roundg k1
                case measure => have := HK1.out; omega
                case rel => exact ⟨(y131), (wrap64 (x6_1 + 1)), (by first | rfl | (simp; done) | (simp [*]; done)), H', ⟨by have := HK1.out; omega⟩, ⟨by (with_reducible repeat (first | apply Kd.R_alloc | apply Kd.R_drewN | apply Kd.R_drew)); exact HQ14.out⟩, ⟨by repeat (first | (with_reducible first | exact HB.out | apply below_alloc | apply pw_below_drewN | apply below_drew1 | refine below_set ?_ GB11.out) | exact HB.out)⟩⟩
              · rw [if_neg c10] at H
                exact absurd H (by simp)
            · rw [if_neg c9] at H
              exact absurd H (by simp)
          · rw [if_neg c8] at H
            have c8b0 : decide (x6_1 < (l0.length : Int)) = false := decide_eq_false c8
            clear c8
            obtain rfl := Option.some.inj H
            go_wp2
            go_ret
            exact ⟨_, by first | rfl | (simp [errW_none, errW_some] <;> rfl) | (simp [*, errW_none, errW_some] <;> rfl), by (with_reducible repeat (first | apply Kd.R_alloc | apply Kd.R_drewN | apply Kd.R_drew)); exact HO_5.out, by repeat (first | (with_reducible first | exact HB.out | apply below_alloc | apply pw_below_drewN | apply below_drew1) | exact HB.out)⟩
        · rw [if_neg c7] at H
          have c7b0 : decide (x6_1 < (l1.length : Int)) = false := decide_eq_false c7
          clear c7
          obtain rfl := Option.some.inj H
          go_wp2
          go_ret
          exact ⟨_, by first | rfl | (simp [errW_none, errW_some] <;> rfl) | (simp [*, errW_none, errW_some] <;> rfl), by (with_reducible repeat (first | apply Kd.R_alloc | apply Kd.R_drewN | apply Kd.R_drew)); exact HO_5.out, by repeat (first | (with_reducible first | exact HB.out | apply below_alloc | apply pw_below_drewN | apply below_drew1) | exact HB.out)⟩
  · rw [if_neg c3] at H
    exact absurd H (by simp)

-- NOT PRINTED: function 44 (spec_Cfb)

/-! ### spec_twiceTold: function 45 -/
def spec_twiceTold.f (l0 : List Int) : Option (List Int) := (some (([] : List Int) : List Int)).bind fun y132 => (if y132.length + l0.length < 140737488355328 then ((some (y132 ++ l0 : List Int)).bind fun y135 => (if 0 ≤ (wrap64 ((l0.length : Int) - 2)) then (if (wrap64 ((l0.length : Int) - 2)) ≤ (l0.length : Int) then (if y135.length + (l0.drop ((wrap64 ((l0.length : Int) - 2)) : Int).toNat).length < 140737488355328 then (some (y135 ++ (l0.drop ((wrap64 ((l0.length : Int) - 2)) : Int).toNat))) else (none)) else (none)) else (none))) else (none))
def spec_twiceTold.T2 : Bool × List (List Nat × List Nat) := (true, [([], []), ([], []), ([0, 1], [0, 1]), ([], []), ([], []), ([4], [4]), ([3, 5], [3, 5]), ([2, 6, 2], [2, 6]), ([7, 7, 0, 1, 2, 3, 4, 5, 6, 7], [7])])
def spec_twiceTold.B2 : List Nat := [0, 0, 3, 0, 0, 16, 56, 127, 255]
theorem spec_twiceTold.tab2 : rtab .any (opsOf Try.f45 2) = spec_twiceTold.T2 := by kernel_rfl
theorem spec_twiceTold.bits2 : waitsOk spec_twiceTold.T2.2 spec_twiceTold.B2 = true := by kernel_rfl
set_option maxHeartbeats 8000000 in
set_option maxRecDepth 100000 in
theorem spec_twiceTold.calls (A0 : Option Addr) (c0 : Nat) (l0 : List Int) (r : List Int) (w : World) (hr0 : Kd.C (Kd.int .u8) w A0 l0.length l0) (hc0 : l0.length ≤ c0) (h : spec_twiceTold.f l0 = some r) :
    Calls Try.prog 45 #[.slice A0 l0.length c0] w fun e w' => ∃ v0_ : Value, e = .returned (v0_) ∧ Kd.R (Kd.int .u8) 5 w' w.heap.size (fun _ => True) v0_ r ∧ Below w.heap.size w w' := by
  have HR0 := Aside0.mk hr0
  have HC0 := Aside0.mk hc0
  clear hr0 hc0
  have HB := Aside0.mk (Below.refl w.heap.size w)
  have H : ((some (([] : List Int) : List Int)).bind fun y132 => (if y132.length + l0.length < 140737488355328 then ((some (y132 ++ l0 : List Int)).bind fun y135 => (if 0 ≤ (wrap64 ((l0.length : Int) - 2)) then (if (wrap64 ((l0.length : Int) - 2)) ≤ (l0.length : Int) then (if y135.length + (l0.drop ((wrap64 ((l0.length : Int) - 2)) : Int).toNat).length < 140737488355328 then (some (y135 ++ (l0.drop ((wrap64 ((l0.length : Int) - 2)) : Int).toNat))) else (none)) else (none)) else (none))) else (none))) = some r := h
  clear h
  obtain ⟨y132, hy132⟩ : ∃ y_ : List Int, y_ = (([] : List Int)) := ⟨_, rfl⟩
  replace H : (if y132.length + l0.length < 140737488355328 then ((some (y132 ++ l0 : List Int)).bind fun y135 => (if 0 ≤ (wrap64 ((l0.length : Int) - 2)) then (if (wrap64 ((l0.length : Int) - 2)) ≤ (l0.length : Int) then (if y135.length + (l0.drop ((wrap64 ((l0.length : Int) - 2)) : Int).toNat).length < 140737488355328 then (some (y135 ++ (l0.drop ((wrap64 ((l0.length : Int) - 2)) : Int).toNat))) else (none)) else (none)) else (none))) else (none)) = some r := by first | (rw [hy132]; with_reducible exact H) | (have H2_ := (Option.bind_some _ _).symm.trans H; rw [hy132]; with_reducible exact H2_) | (have H2_ := (Option.bind_some _ _).symm.trans H; with_reducible exact H2_) | with_reducible exact H | (rw [hy132]; exact H) | exact H
  have Ny132 := Aside0.mk hy132
  clear hy132
  by_cases c2 : y132.length + l0.length < 140737488355328
  · rw [if_pos c2] at H
    have LMc2 := Aside0.mk c2
    clear c2
    obtain ⟨y135, hy135⟩ : ∃ y_ : List Int, y_ = (y132 ++ l0) := ⟨_, rfl⟩
    replace H : (if 0 ≤ (wrap64 ((l0.length : Int) - 2)) then (if (wrap64 ((l0.length : Int) - 2)) ≤ (l0.length : Int) then (if y135.length + (l0.drop ((wrap64 ((l0.length : Int) - 2)) : Int).toNat).length < 140737488355328 then (some (y135 ++ (l0.drop ((wrap64 ((l0.length : Int) - 2)) : Int).toNat))) else (none)) else (none)) else (none)) = some r := by first | (rw [hy135]; with_reducible exact H) | (have H2_ := (Option.bind_some _ _).symm.trans H; rw [hy135]; with_reducible exact H2_) | (have H2_ := (Option.bind_some _ _).symm.trans H; with_reducible exact H2_) | with_reducible exact H | (rw [hy135]; exact H) | exact H
    have Ny135 := Aside0.mk hy135
    clear hy135
    obtain ⟨ji3, hji3⟩ : ∃ j_ : Int, (wrap64 ((l0.length : Int) - 2)) = j_ := ⟨_, rfl⟩
    replace H : (if 0 ≤ (ji3) then (if (ji3) ≤ (l0.length : Int) then (if y135.length + (l0.drop ((ji3) : Int).toNat).length < 140737488355328 then (some (y135 ++ (l0.drop ((ji3) : Int).toNat))) else (none)) else (none)) else (none)) = some r := by first | (rw [hji3] at H; exact H) | (simp only [hji3] at H ⊢; exact H)
    have hji3w : (IntKind.i64.wrap ((l0.length : Int) - 2)) = ji3 := (i64_w _).trans hji3
    by_cases c4 : 0 ≤ (ji3)
    · rw [if_pos c4] at H
      have c4b0 := eq_true c4
      have c4b1 : decide (0 ≤ (ji3)) = true := decide_eq_true c4
      clear c4
      by_cases c5 : (ji3) ≤ (l0.length : Int)
      · rw [if_pos c5] at H
        have c5b0 := eq_true c5
        have c5b1 : decide ((ji3) ≤ (l0.length : Int)) = true := decide_eq_true c5
        clear c5
        by_cases c6 : y135.length + (l0.drop ((ji3) : Int).toNat).length < 140737488355328
        · rw [if_pos c6] at H
          have LMc6 := Aside0.mk c6
          clear c6
          obtain ⟨y139, hy139⟩ : ∃ y_ : List Int, y_ = (y135 ++ (l0.drop ((ji3) : Int).toNat)) := ⟨_, rfl⟩
          replace H : (some y139) = some r := by first | (rw [hy139]; with_reducible exact H) | (have H2_ := (Option.bind_some _ _).symm.trans H; rw [hy139]; with_reducible exact H2_) | (have H2_ := (Option.bind_some _ _).symm.trans H; with_reducible exact H2_) | with_reducible exact H | (rw [hy139]; exact H) | exact H
          have Ny139 := Aside0.mk hy139
          clear hy139
          obtain rfl := Option.some.inj H
          go_enter Try.func45, Try.ntmps45
          try go_wp2
          have n0_ := Aside0.mk (below_drew1 HB.out)
          clear HB
          have HB := n0_
          clear n0_
          obtain ⟨i08, hi08, _, hsz8, _⟩ := info_parts info5
          obtain ⟨A8, hcut8, hA8, hC8⟩ := print_drop_of (P := Try.prog) (Value.int .u8) 0 22 5 .i64 Try.underlying22 hi08 hsz8 A0 c0 l0 (ji3) (of_decide_eq_true (by first | (with_reducible assumption) | assumption)) (of_decide_eq_true (by first | (with_reducible assumption) | assumption)) HC0.out
          have HR138 := Aside0.mk (Kd.C_of_reads (h1 := fun _ => rfl) (hA8 _ (Kd.reads_of_C HR0.out)))
          have HC138 := Aside0.mk hC8
          clear hA8 hC8 hi08 hsz8
          refine start_ (n := 9) (S := fun w' => True) (ds := []) #[false, false, false, false, false, false, false, false, false] (by kernel_rfl) rfl rfl trivial (fun hHeld => ?_); refine with_tabW spec_twiceTold.tab2 spec_twiceTold.bits2 (fun HT_ HW_ => ?_)
          generalize w.drew = w7 at HB HR138 hHeld ⊢
          refine pure_ (i := 1) (N := some 7) (v := ?_) (a' := ?_) #[false, true, false, false, false, false, false, false, false] rfl rfl (any_of HT_.out (by kernel_rfl)) (fun _ _ _ h => h) (Or.inl ⟨by rfl, ?_⟩) ?_ ?_
          rotate_left
          · intro w'
            go_simp
            with_reducible rfl
          rotate_left
          · simp only [Act.put, List.setIfInBounds_toArray, List.set_cons_zero, List.set_cons_succ, i64_w, i32_w]
            rfl
          refine pure_ (i := 3) (N := some 9) (v := ?_) (a' := ?_) #[false, true, false, true, false, false, false, false, false] rfl rfl (any_of HT_.out (by kernel_rfl)) (fun _ _ _ h => h) (Or.inl ⟨by rfl, ?_⟩) ?_ ?_
          rotate_left
          · intro w'
            go_simp
            with_reducible rfl
          rotate_left
          · simp only [Act.put, List.setIfInBounds_toArray, List.set_cons_zero, List.set_cons_succ, i64_w, i32_w]
            rfl
          refine pure_ (i := 4) (N := some 10) (v := ?_) (a' := ?_) #[false, true, false, true, true, false, false, false, false] rfl rfl (any_of HT_.out (by kernel_rfl)) (fun _ _ _ h => h) (Or.inl ⟨by rfl, ?_⟩) ?_ ?_
          rotate_left
          · intro w'
            go_simp
            with_reducible rfl
          rotate_left
          · simp only [Act.put, List.setIfInBounds_toArray, List.set_cons_zero, List.set_cons_succ, i64_w, i32_w]
            rfl
          refine pure_ (i := 5) (N := some 11) (v := ?_) (a' := ?_) #[false, true, false, true, true, true, false, false, false] rfl rfl (any_of HT_.out (by kernel_rfl)) (fun _ _ _ h => h) (Or.inl ⟨by rfl, ?_⟩) ?_ ?_
          rotate_left
          · intro w'
            go_simp
            with_reducible rfl
          rotate_left
          · simp only [Act.put, List.setIfInBounds_toArray, List.set_cons_zero, List.set_cons_succ, i64_w, i32_w]
            rfl
          refine pure_ (i := 6) (N := some 12) (v := ?_) (a' := ?_) #[false, true, false, true, true, true, true, false, false] rfl rfl (any_of HT_.out (by kernel_rfl)) (fun _ _ _ h => h) (Or.inl ⟨by rfl, ?_⟩) ?_ ?_
          rotate_left
          · intro w'
            go_simp
            with_reducible rfl
          rotate_left
          · simp only [Act.put, List.setIfInBounds_toArray, List.set_cons_zero, List.set_cons_succ, i64_w, i32_w]
            rfl
          refine one_ (i := 0) (N := some 6) #[true, true, false, true, true, true, true, false, false] rfl rfl (one_of HT_.out (by kernel_rfl)) (by decide) (fun K hK => ?_)
          refine Kd.R_lit_step (Kd.int .u8) _ 5 ?hg (N := 6) ?hd (xs := ([] : List Int)) (inner := []) (ok := fun _ => True) (okp := fun _ => True) ?hr ?hp (fun _ hk => hk) trivial (Below.refl _ _) (Nat.le_refl _) (by simp) ?_; (case hd => rfl); (case hg => rfl); (case hr => first | (go_simp; done) | (go_simp; rfl)); (case hp => exact (Reps.none _ _))
          intro v133 w9 ho10 hb hg_ hnew_
          clear hg_ hnew_
          (first | rw [← Ny132.out] at ho10 | (simp only [Int.reduceToNat] at ho10; rw [← Ny132.out] at ho10))
          have n0_ := Aside0.mk (Kd.R_lower ho10 (below_size (by repeat (first | (with_reducible first | exact HB.out | apply below_alloc | apply pw_below_drewN | apply below_drew1) | exact HB.out))))
          have n1_ := Aside0.mk (below_step (by repeat (first | (with_reducible first | exact HB.out | apply below_alloc | apply pw_below_drewN | apply below_drew1) | exact HB.out)) hb)
          clear HB
          have HO134 := n0_
          have HB := n1_
          clear n0_ n1_
          clear hb ho10
          refine hK.out _ _ trivial (fun hHeld => ?_)
          clear hK K
          refine norm_ (a' := ?_) ?_ ?_
          rotate_left
          · show Act.put _ (some 6) _ = _
            simp only [Act.put, List.setIfInBounds_toArray, List.set_cons_zero, List.set_cons_succ, i64_w, i32_w]
            rfl
          refine one_ (i := 2) (N := some 8) #[true, true, true, true, true, true, true, false, false] rfl rfl (one_of HT_.out (by kernel_rfl)) (by decide) (fun K hK => ?_)
          refine Kd.R_append_rows_step (Kd.int .u8) (w0 := w) w.heap.size (by rfl) (.tmp 6) (.tmp 7) 22 5 (.int .u8 0) 1 rfl Try.underlying22 info5 rfl (by decide) (by omega) v133 y132 l0 _ _ _ (fun _ => True) (fun _ => False) rfl rfl ?aO ?aR (fun _ _ h => h) (fun _ h => h.elim) ?aF ?aB ?aS ?aL ?_
          (case aR => repeat (first | exact (Kd.C_below HR0.out HB.out) | (with_reducible refine Kd.C_alloc ?_ _) | (with_reducible refine Kd.C_drewN ?_ _) | (with_reducible refine Kd.C_drew ?_)))
          (case aB => exact (by repeat (first | (with_reducible first | exact HB.out | apply below_alloc | apply pw_below_drewN | apply below_drew1) | exact HB.out)))
          (case aF => exact (fun _ _ => trivial))
          (case aO => exact (by (with_reducible repeat (first | apply Kd.R_alloc | apply Kd.R_drewN | apply Kd.R_drew)); exact HO134.out))
          (case aS => exact (below_size (by repeat (first | (with_reducible first | exact HB.out | apply below_alloc | apply pw_below_drewN | apply below_drew1) | exact HB.out))))
          (case aL => have := LMc2.out; omega)
          intro v136 w11 ho hb hg hat
          rw [← Ny135.out] at ho
          have n0_ := Aside0.mk (hb)
          have n1_ := Aside0.mk (ho)
          clear HB
          clear HO134
          have HB := n0_
          have HO137 := n1_
          clear n0_ n1_
          clear ho hb hg hat
          refine hK.out _ _ trivial (fun hHeld => ?_)
          clear hK K
          refine norm_ (a' := ?_) ?_ ?_
          rotate_left
          · show Act.put _ (some 8) _ = _
            simp only [Act.put, List.setIfInBounds_toArray, List.set_cons_zero, List.set_cons_succ, i64_w, i32_w]
            rfl
          refine one_ (i := 7) (N := some 13) #[true, true, true, true, true, true, true, true, false] rfl rfl (one_of HT_.out (by kernel_rfl)) (by decide) (fun K hK => ?_)
          refine Kd.R_append_rows_step (Kd.int .u8) (w0 := w) w.heap.size (by rfl) (.tmp 8) (.tmp 12) 22 5 (.int .u8 0) 1 rfl Try.underlying22 info5 rfl (by decide) (by omega) v136 y135 (l0.drop ((ji3) : Int).toNat) _ _ _ (fun _ => True) (fun _ => False) rfl rfl ?aO ?aR (fun _ _ h => h) (fun _ h => h.elim) ?aF ?aB ?aS ?aL ?_
          (case aR => first | (rw [← show (l0.drop ((ji3) : Int).toNat).length = (l0.length - (ji3).toNat) from List.length_drop]; repeat (first | exact (Kd.C_below HR138.out HB.out) | (with_reducible refine Kd.C_alloc ?_ _) | (with_reducible refine Kd.C_drewN ?_ _) | (with_reducible refine Kd.C_drew ?_))) | (repeat (first | exact (Kd.C_below HR138.out HB.out) | (with_reducible refine Kd.C_alloc ?_ _) | (with_reducible refine Kd.C_drewN ?_ _) | (with_reducible refine Kd.C_drew ?_))))
          (case aB => exact (by repeat (first | (with_reducible first | exact HB.out | apply below_alloc | apply pw_below_drewN | apply below_drew1) | exact HB.out)))
          (case aF => exact (fun _ _ => trivial))
          (case aO => exact (by (with_reducible repeat (first | apply Kd.R_alloc | apply Kd.R_drewN | apply Kd.R_drew)); exact HO137.out))
          (case aS => exact (below_size (by repeat (first | (with_reducible first | exact HB.out | apply below_alloc | apply pw_below_drewN | apply below_drew1) | exact HB.out))))
          (case aL => have := LMc6.out; have hlx_ := (show (l0.drop ((ji3) : Int).toNat).length = (l0.length - (ji3).toNat) from List.length_drop); omega)
          intro v140 w12 ho hb hg hat
          rw [← Ny139.out] at ho
          have n0_ := Aside0.mk (hb)
          have n1_ := Aside0.mk (ho)
          clear HB
          clear HO137
          have HB := n0_
          have HO141 := n1_
          clear n0_ n1_
          clear ho hb hg hat
          refine hK.out _ _ trivial (fun hHeld => ?_)
          clear hK K
          refine norm_ (a' := ?_) ?_ ?_
          rotate_left
          · show Act.put _ (some 13) _ = _
            simp only [Act.put, List.setIfInBounds_toArray, List.set_cons_zero, List.set_cons_succ, i64_w, i32_w]
            rfl
          refine pure_ (i := 8) (N := some 2) (v := ?_) (a' := ?_) #[true, true, true, true, true, true, true, true, true] rfl rfl (any_of HT_.out (by kernel_rfl)) (fun _ _ _ h => h) (Or.inl ⟨by rfl, ?_⟩) ?_ ?_
          rotate_left
          · intro w'
            go_simp
            with_reducible rfl
          rotate_left
          · simp only [Act.put, List.setIfInBounds_toArray, List.set_cons_zero, List.set_cons_succ, i64_w, i32_w]
            rfl
          refine done_ (done_of HT_.out (by kernel_rfl)) ?_
          try go_wp2
          go_ret
          exact ⟨_, by first | rfl | (simp [errW_none, errW_some] <;> rfl) | (simp only [← hji3]; first | rfl | (simp [errW_none, errW_some] <;> rfl)) | (simp [*, errW_none, errW_some] <;> rfl), by (with_reducible repeat (first | apply Kd.R_alloc | apply Kd.R_drewN | apply Kd.R_drew)); exact HO141.out, by repeat (first | (with_reducible first | exact HB.out | apply below_alloc | apply pw_below_drewN | apply below_drew1) | exact HB.out)⟩
        · rw [if_neg c6] at H
          exact absurd H (by simp)
      · rw [if_neg c5] at H
        exact absurd H (by simp)
    · rw [if_neg c4] at H
      exact absurd H (by simp)
  · rw [if_neg c2] at H
    exact absurd H (by simp)

-- NOT PRINTED: function 23 (spec_Ocfb)

-- NOT PRINTED: function 24 (spec_Data)

/-! ### laws_alike: function 28 -/
def laws_alike.l0 : Nat → List (List Int) → List (List Int) → Int → Option (Bool)
  | 0, _, _, _ => none
  | k + 1, x0, x1, x5 => if x5 < (x0.length : Int) then (if 0 ≤ x5 then (if x5 < (x1.length : Int) then (if ((rd_L1 x0 x5).length : Int) = ((rd_L1 x1 x5).length : Int) then (laws_alike.l0 k x0 x1 (wrap64 (x5 + 1))) else (some false)) else (none)) else (none)) else (some true)
def laws_alike.f (k : Nat) (l0 : List (List Int)) (l1 : List (List Int)) : Option (Bool) := if (l0.length : Int) = (l1.length : Int) then (laws_alike.l0 k l0 l1 0) else (some false)
theorem laws_alike.mono_l : ∀ k, (∀ y0 y1 y2, LeO (laws_alike.l0 k y0 y1 y2) (laws_alike.l0 (k + 1) y0 y1 y2))
  | 0 => fun _ _ _ r h => by simp [laws_alike.l0] at h
  | k + 1 => by
    have ih0 := laws_alike.mono_l k
    · intro y0 y1 y2
      unfold laws_alike.l0
      repeat' first
      | (with_reducible exact ih0 _ _ _)
      | (with_reducible exact LeO.refl _)
      | (with_reducible exact LeO.none _)
      | (with_reducible refine LeO.ite ?_ ?_)
      | (with_reducible refine LeO.bind ?_ (fun _ => ?_))
      | exact ih0 _ _ _
      | exact LeO.none _
      | refine LeO.ite ?_ ?_
      | refine LeO.bind ?_ (fun _ => ?_)
theorem laws_alike.mono : ∀ a0 a1 k, LeO (laws_alike.f k a0 a1) (laws_alike.f (k + 1) a0 a1) := by
  intro a0 a1 k
  have ih0 := laws_alike.mono_l k
  unfold laws_alike.f
  repeat' first
      | (with_reducible exact ih0 _ _ _)
      | (with_reducible exact LeO.refl _)
      | (with_reducible exact LeO.none _)
      | (with_reducible refine LeO.ite ?_ ?_)
      | (with_reducible refine LeO.bind ?_ (fun _ => ?_))
      | exact ih0 _ _ _
      | exact LeO.none _
      | refine LeO.ite ?_ ?_
      | refine LeO.bind ?_ (fun _ => ?_)
set_option maxHeartbeats 8000000 in
set_option maxRecDepth 100000 in
theorem laws_alike.calls (k : Nat) (A0 : Option Addr) (c0 : Nat) (l0 : List (List Int)) (A1 : Option Addr) (c1 : Nat) (l1 : List (List Int)) (r : Bool) (w : World) (hr0 : Kd.C (Kd.slice 5 (Kd.int .u8)) w A0 l0.length l0) (hc0 : l0.length ≤ c0) (hr1 : Kd.C (Kd.slice 5 (Kd.int .u8)) w A1 l1.length l1) (hc1 : l1.length ≤ c1) (h : laws_alike.f k l0 l1 = some r) :
    Calls Try.prog 28 #[.slice A0 l0.length c0, .slice A1 l1.length c1] w fun e w' => e = .returned (.bool r) ∧ Drawn0 w w' := by
  have HR0 := Aside0.mk hr0
  have HC0 := Aside0.mk hc0
  clear hr0 hc0
  have HR1 := Aside0.mk hr1
  have HC1 := Aside0.mk hc1
  clear hr1 hc1
  have H : (if (l0.length : Int) = (l1.length : Int) then (laws_alike.l0 k l0 l1 0) else (some false)) = some r := h
  clear h
  by_cases c3 : (l0.length : Int) = (l1.length : Int)
  · rw [if_pos c3] at H
    have c3b0 : ((l0.length : Int) == (l1.length : Int)) = true := beq_iff_eq.mpr c3
    have c3b1 : ((l0.length : Int) != (l1.length : Int)) = false := bne_eq_false_iff_eq.mpr c3
    have c3b2 : (l0.length == l1.length) = true := by first | simpa using c3 | (simp at c3 ⊢; omega)
    clear c3
    have H' := Aside0.mk H
    clear H
    go_enter Try.func28, Try.ntmps28
    go_wp2
    repeat (go_quiet (fail); try go_wp2)
    go_loopg [5] k (fun kq v5 w' => ∃ (x5_1 : Int), v5 = .int .i64 x5_1 ∧ Aside0 (laws_alike.l0 kq l0 l1 x5_1 = some r) ∧ Aside0 (kq ≤ k) ∧ Drawn0 w w')
    case atStart => exact ⟨(0), (by first | rfl | (simp; done) | (simp [*]; done)), H', ⟨Nat.le_refl _⟩, by repeat (first | exact Drawn0.refl _ | apply Drawn0.step)⟩
    case round =>
      clear H'
      try clear c1
      try clear c2
      try clear p2
      try clear c3
      try clear c3b0
      try clear c3b1
      try clear c3b2
      obtain ⟨x5_1, rfl, HA, HK1, ⟨m1, rfl⟩⟩ := hrel
      cases gk with
      | zero => exact absurd HA.out (by simp [laws_alike.l0])
      | succ k1 =>
        have H := HA.out
        clear HA
        simp only [laws_alike.l0] at H
        by_cases c4 : x5_1 < (l0.length : Int)
        · rw [if_pos c4] at H
          have c4b0 : decide (x5_1 < (l0.length : Int)) = true := decide_eq_true c4
          clear c4
          by_cases c5 : 0 ≤ x5_1
          · rw [if_pos c5] at H
            have c5b0 : decide (0 ≤ x5_1) = true := decide_eq_true c5
            clear c5
            by_cases c6 : x5_1 < (l1.length : Int)
            · rw [if_pos c6] at H
              have c6b0 : decide (x5_1 < (l1.length : Int)) = true := decide_eq_true c6
              clear c6
              by_cases c7 : ((rd_L1 l0 x5_1).length : Int) = ((rd_L1 l1 x5_1).length : Int)
              · rw [if_pos c7] at H
                have c7b0 : (((rd_L1 l0 x5_1).length : Int) == ((rd_L1 l1 x5_1).length : Int)) = true := beq_iff_eq.mpr c7
                have c7b1 : (((rd_L1 l0 x5_1).length : Int) != ((rd_L1 l1 x5_1).length : Int)) = false := bne_eq_false_iff_eq.mpr c7
                have c7b2 : ((rd_L1 l0 x5_1).length == (rd_L1 l1 x5_1).length) = true := by first | simpa using c7 | (simp at c7 ⊢; omega)
                clear c7
                have H' := Aside0.mk H
                clear H
                have p142 : 0 ≤ (x5_1 : Int) := of_decide_eq_true (by first | (with_reducible assumption) | assumption)
                have q142 : x5_1 < (l0.length : Int) := of_decide_eq_true (by first | (with_reducible assumption) | assumption)
                obtain ⟨ad142, A142_0, c142_0, e142, hx142_0, hl142_0, hi142_0⟩ := at_L1 HR0.out x5_1 p142 q142
                cases e142
                have HR142_0 := Aside0.mk hi142_0
                have HC142_0 := Aside0.mk hl142_0
                clear hi142_0 hl142_0
                replace p142 := eq_true p142
                replace q142 := eq_true q142
                have p143 : 0 ≤ (x5_1 : Int) := of_decide_eq_true (by first | (with_reducible assumption) | assumption)
                have q143 : x5_1 < (l1.length : Int) := of_decide_eq_true (by first | (with_reducible assumption) | assumption)
                obtain ⟨ad143, A143_0, c143_0, e143, hx143_0, hl143_0, hi143_0⟩ := at_L1 HR1.out x5_1 p143 q143
                cases e143
                have HR143_0 := Aside0.mk hi143_0
                have HC143_0 := Aside0.mk hl143_0
                clear hi143_0 hl143_0
                replace p143 := eq_true p143
                replace q143 := eq_true q143
                go_wp2
                repeat (go_quiet (fail); try go_wp2)
                go_roundg k1
                case measure => have := HK1.out; omega
                case rel => exact ⟨(wrap64 (x5_1 + 1)), (by first | rfl | (simp; done) | (simp [*]; done)), H', ⟨by have := HK1.out; omega⟩, by repeat (first | exact Drawn0.refl _ | apply Drawn0.step)⟩
              · rw [if_neg c7] at H
                have c7b0 : (((rd_L1 l0 x5_1).length : Int) == ((rd_L1 l1 x5_1).length : Int)) = false := beq_eq_false_iff_ne.mpr c7
                have c7b1 : (((rd_L1 l0 x5_1).length : Int) != ((rd_L1 l1 x5_1).length : Int)) = true := bne_iff_ne.mpr c7
                have c7b2 : ((rd_L1 l0 x5_1).length == (rd_L1 l1 x5_1).length) = false := by first | simpa using c7 | (simp at c7 ⊢; omega)
                obtain rfl := Option.some.inj H
                have p142 : 0 ≤ (x5_1 : Int) := of_decide_eq_true (by first | (with_reducible assumption) | assumption)
                have q142 : x5_1 < (l0.length : Int) := of_decide_eq_true (by first | (with_reducible assumption) | assumption)
                obtain ⟨ad142, A142_0, c142_0, e142, hx142_0, hl142_0, hi142_0⟩ := at_L1 HR0.out x5_1 p142 q142
                cases e142
                have HR142_0 := Aside0.mk hi142_0
                have HC142_0 := Aside0.mk hl142_0
                clear hi142_0 hl142_0
                replace p142 := eq_true p142
                replace q142 := eq_true q142
                have p143 : 0 ≤ (x5_1 : Int) := of_decide_eq_true (by first | (with_reducible assumption) | assumption)
                have q143 : x5_1 < (l1.length : Int) := of_decide_eq_true (by first | (with_reducible assumption) | assumption)
                obtain ⟨ad143, A143_0, c143_0, e143, hx143_0, hl143_0, hi143_0⟩ := at_L1 HR1.out x5_1 p143 q143
                cases e143
                have HR143_0 := Aside0.mk hi143_0
                have HC143_0 := Aside0.mk hl143_0
                clear hi143_0 hl143_0
                replace p143 := eq_true p143
                replace q143 := eq_true q143
                go_wp2
                repeat (go_quiet (fail); try go_wp2)
                go_ret
                exact ⟨by first | rfl | (simp; done) | (simp [*]; done), by repeat (first | exact Drawn0.refl _ | apply Drawn0.step)⟩
            · rw [if_neg c6] at H
              exact absurd H (by simp)
          · rw [if_neg c5] at H
            exact absurd H (by simp)
        · rw [if_neg c4] at H
          have c4b0 : decide (x5_1 < (l0.length : Int)) = false := decide_eq_false c4
          clear c4
          obtain rfl := Option.some.inj H
          go_wp2
          repeat (go_quiet (fail); try go_wp2)
          go_ret
          exact ⟨by first | rfl | (simp; done) | (simp [*]; done), by repeat (first | exact Drawn0.refl _ | apply Drawn0.step)⟩
  · rw [if_neg c3] at H
    have c3b0 : ((l0.length : Int) == (l1.length : Int)) = false := beq_eq_false_iff_ne.mpr c3
    have c3b1 : ((l0.length : Int) != (l1.length : Int)) = true := bne_iff_ne.mpr c3
    have c3b2 : (l0.length == l1.length) = false := by first | simpa using c3 | (simp at c3 ⊢; omega)
    obtain rfl := Option.some.inj H
    go_enter Try.func28, Try.ntmps28
    go_wp2
    repeat (go_quiet (fail); try go_wp2)
    go_ret
    exact ⟨by first | rfl | (simp; done) | (simp [*]; done), by repeat (first | exact Drawn0.refl _ | apply Drawn0.step)⟩

-- NOT PRINTED: function 64 (impl_permutation)

-- NOT PRINTED: function 46 (impl_Block_Right)

-- NOT PRINTED: function 47 (impl_own)

-- NOT PRINTED: function 49 (impl_cipherOf)

-- NOT PRINTED: function 50 (impl_streamed)

-- NOT PRINTED: function 51 (packet_NewOCFBEncrypter)

-- NOT PRINTED: function 29 (impl_OcfbEncrypt)

-- NOT PRINTED: function 6 (laws_FnOcfb)

end Go.Proofs.Ytkehjcppgpoobaa.PFnOcfb
