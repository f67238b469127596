-- The printed text PFnWriteOnePassx3 without spec_SameBytes, algorithm_hashById, algorithm_cryptoHash_Id, strconv_small, strconv_log10Pow2, bits_Len64, strconv_bool2_int, strconv_isPowerOfTwo (mendcut.py).
import Derived.Test.YtjdnnpfhlkgooaaDoorPFnWriteOnePassx0
namespace Go.Proofs.YtjdnnpfhlkgooaaDoor.PFnWriteOnePass
open Go.RowKit Go.Proofs.YtjdnnpfhlkgooaaDoorW.PrintWords Go.Proofs.YtjdnnpfhlkgooaaDoorW.PrintLast Go.Proofs.YtjdnnpfhlkgooaaDoorW.PrintMore
attribute [local go_sem] max2_int min2_int max_two min_two max_three min_three max_four min_four   -- for this text's walks alone
set_option linter.unusedVariables false
set_option linter.unusedSimpArgs false

/-! ### laws_zzFits7: function 12 -/
def laws_zzFits7.f (a0_0 : Int) (a0_1 : Int) (a0_2 : Int) (a0_3 : Int) (a0_4 : Int) (a0_5 : Bool) (l0_6 : List Int) (l0_7 : List Int) : Option (Bool) := if (l0_6.length : Int) > 2147483647 then (some false) else (if (l0_7.length : Int) > 2147483647 then (some false) else (some true))
set_option maxHeartbeats 8000000 in
set_option maxRecDepth 100000 in
theorem laws_zzFits7.calls (a0_0 : Int) (a0_1 : Int) (a0_2 : Int) (a0_3 : Int) (a0_4 : Int) (a0_5 : Bool) (A0_6 : Option Addr) (c0_6 : Nat) (l0_6 : List Int) (A0_7 : Option Addr) (c0_7 : Nat) (l0_7 : List Int) (r : Bool) (w : World) (hr0_6 : Kd.C (Kd.int .u8) w A0_6 l0_6.length l0_6) (hc0_6 : l0_6.length ≤ c0_6) (hr0_7 : Kd.C (Kd.int .u8) w A0_7 l0_7.length l0_7) (hc0_7 : l0_7.length ≤ c0_7) (h : laws_zzFits7.f a0_0 a0_1 a0_2 a0_3 a0_4 a0_5 l0_6 l0_7 = some r) :
    Calls Tryd.prog 12 #[.agg #[.int .i64 a0_0, .int .u8 a0_1, .int .i64 a0_2, .int .u8 a0_3, .int .u64 a0_4, .bool a0_5, .slice A0_6 l0_6.length c0_6, .slice A0_7 l0_7.length c0_7]] w fun e w' => e = .returned (.bool r) ∧ Below w.heap.size w w' := by
  have hu37 := Tryd.underlying37
  have HR0_6 := Aside0.mk hr0_6
  have HC0_6 := Aside0.mk hc0_6
  clear hr0_6 hc0_6
  have HR0_7 := Aside0.mk hr0_7
  have HC0_7 := Aside0.mk hc0_7
  clear hr0_7 hc0_7
  have HB := Aside0.mk (Below.refl w.heap.size w)
  have H : (if (l0_6.length : Int) > 2147483647 then (some false) else (if (l0_7.length : Int) > 2147483647 then (some false) else (some true))) = some r := h
  clear h
  by_cases c2 : (l0_6.length : Int) > 2147483647
  · rw [if_pos c2] at H
    have c2b0 : decide (2147483647 < (l0_6.length : Int)) = true := decide_eq_true c2
    have c2b1 : decide (2147483647 < l0_6.length) = true := decide_eq_true (by omega)
    clear c2
    obtain rfl := Option.some.inj H
    go_enter Tryd.func12, Tryd.ntmps12
    go_wp2_with (first | ((with_reducible refine gate_dst (N := 1) rfl ?_); refine box_event ?hg (N := 1) ?hd (cs := #[.int .i64 a0_0, .int .u8 a0_1, .int .i64 a0_2, .int .u8 a0_3, .int .u64 a0_4, .bool a0_5, .slice A0_6 l0_6.length c0_6, .slice A0_7 l0_7.length c0_7]) (t := 37) ?hr ?_; (case hd => rfl); (case hg => rfl); (case hr => first | (go_simp; done) | (go_simp; rfl)); intro gb139 hg w3 hbox hb; have n0_ := Aside0.mk (below_step (by repeat (first | (with_reducible first | exact HB.out | apply below_alloc | apply pw_below_drewN | apply below_drew1) | exact HB.out)) hb); have n1_ := Aside0.mk (hbox); have n2_ := Aside0.mk ((by rw [hg]; exact (below_size (by repeat (first | (with_reducible first | exact HB.out | apply below_alloc | apply pw_below_drewN | apply below_drew1) | exact HB.out))) : w.heap.size ≤ gb139)); have n3_ := Aside0.mk ((by rw [hg]; exact (below_size (by repeat (first | (with_reducible first | exact HB.out | apply below_alloc | apply pw_below_drewN | apply below_drew1) | exact HB.out))) : w.heap.size ≤ gb139)); clear HB; have HB := n0_; have BK139 := n1_; have GW139 := n2_; have GE139 := n3_; clear n0_ n1_ n2_ n3_; clear hb hbox hg; have hcz4_0 : w3.cell? ⟨gb139, 0, none⟩ = some (.int .i64 a0_0) := (blk_cell BK139.out 0).trans rfl; have hcz4_1 : w3.cell? ⟨gb139, 1, none⟩ = some (.int .u8 a0_1) := (blk_cell BK139.out 1).trans rfl; have hcz4_2 : w3.cell? ⟨gb139, 2, none⟩ = some (.int .i64 a0_2) := (blk_cell BK139.out 2).trans rfl; have hcz4_3 : w3.cell? ⟨gb139, 3, none⟩ = some (.int .u8 a0_3) := (blk_cell BK139.out 3).trans rfl; have hcz4_4 : w3.cell? ⟨gb139, 4, none⟩ = some (.int .u64 a0_4) := (blk_cell BK139.out 4).trans rfl; have hcz4_5 : w3.cell? ⟨gb139, 5, none⟩ = some (.bool a0_5) := (blk_cell BK139.out 5).trans rfl; have hcz4_6 : w3.cell? ⟨gb139, 6, none⟩ = some (.slice A0_6 l0_6.length c0_6) := (blk_cell BK139.out 6).trans rfl; have hcz4_7 : w3.cell? ⟨gb139, 7, none⟩ = some (.slice A0_7 l0_7.length c0_7) := (blk_cell BK139.out 7).trans rfl; have hfz4_0 := blk_frozen BK139.out 0; have hfz4_1 := blk_frozen BK139.out 1; have hfz4_2 := blk_frozen BK139.out 2; have hfz4_3 := blk_frozen BK139.out 3; have hfz4_4 := blk_frozen BK139.out 4; have hfz4_5 := blk_frozen BK139.out 5; have hfz4_6 := blk_frozen BK139.out 6; have hfz4_7 := blk_frozen BK139.out 7))
    go_ret
    exact ⟨by first | rfl | (simp [errW_none, errW_some] <;> rfl) | (simp [*, errW_none, errW_some] <;> rfl), by repeat (first | (with_reducible first | exact HB.out | apply below_alloc | apply pw_below_drewN | apply below_drew1 | refine below_set ?_ GE139.out) | exact HB.out)⟩
  · rw [if_neg c2] at H
    have c2b0 : decide (2147483647 < (l0_6.length : Int)) = false := decide_eq_false c2
    have c2b1 : decide (2147483647 < l0_6.length) = false := decide_eq_false (by omega)
    clear c2
    by_cases c5 : (l0_7.length : Int) > 2147483647
    · rw [if_pos c5] at H
      have c5b0 : decide (2147483647 < (l0_7.length : Int)) = true := decide_eq_true c5
      have c5b1 : decide (2147483647 < l0_7.length) = true := decide_eq_true (by omega)
      clear c5
      obtain rfl := Option.some.inj H
      go_enter Tryd.func12, Tryd.ntmps12
      go_wp2_with (first | ((with_reducible refine gate_dst (N := 1) rfl ?_); refine box_event ?hg (N := 1) ?hd (cs := #[.int .i64 a0_0, .int .u8 a0_1, .int .i64 a0_2, .int .u8 a0_3, .int .u64 a0_4, .bool a0_5, .slice A0_6 l0_6.length c0_6, .slice A0_7 l0_7.length c0_7]) (t := 37) ?hr ?_; (case hd => rfl); (case hg => rfl); (case hr => first | (go_simp; done) | (go_simp; rfl)); intro gb139 hg w6 hbox hb; have n0_ := Aside0.mk (below_step (by repeat (first | (with_reducible first | exact HB.out | apply below_alloc | apply pw_below_drewN | apply below_drew1) | exact HB.out)) hb); have n1_ := Aside0.mk (hbox); have n2_ := Aside0.mk ((by rw [hg]; exact (below_size (by repeat (first | (with_reducible first | exact HB.out | apply below_alloc | apply pw_below_drewN | apply below_drew1) | exact HB.out))) : w.heap.size ≤ gb139)); have n3_ := Aside0.mk ((by rw [hg]; exact (below_size (by repeat (first | (with_reducible first | exact HB.out | apply below_alloc | apply pw_below_drewN | apply below_drew1) | exact HB.out))) : w.heap.size ≤ gb139)); clear HB; have HB := n0_; have BK139 := n1_; have GW139 := n2_; have GE139 := n3_; clear n0_ n1_ n2_ n3_; clear hb hbox hg; have hcz7_0 : w6.cell? ⟨gb139, 0, none⟩ = some (.int .i64 a0_0) := (blk_cell BK139.out 0).trans rfl; have hcz7_1 : w6.cell? ⟨gb139, 1, none⟩ = some (.int .u8 a0_1) := (blk_cell BK139.out 1).trans rfl; have hcz7_2 : w6.cell? ⟨gb139, 2, none⟩ = some (.int .i64 a0_2) := (blk_cell BK139.out 2).trans rfl; have hcz7_3 : w6.cell? ⟨gb139, 3, none⟩ = some (.int .u8 a0_3) := (blk_cell BK139.out 3).trans rfl; have hcz7_4 : w6.cell? ⟨gb139, 4, none⟩ = some (.int .u64 a0_4) := (blk_cell BK139.out 4).trans rfl; have hcz7_5 : w6.cell? ⟨gb139, 5, none⟩ = some (.bool a0_5) := (blk_cell BK139.out 5).trans rfl; have hcz7_6 : w6.cell? ⟨gb139, 6, none⟩ = some (.slice A0_6 l0_6.length c0_6) := (blk_cell BK139.out 6).trans rfl; have hcz7_7 : w6.cell? ⟨gb139, 7, none⟩ = some (.slice A0_7 l0_7.length c0_7) := (blk_cell BK139.out 7).trans rfl; have hfz7_0 := blk_frozen BK139.out 0; have hfz7_1 := blk_frozen BK139.out 1; have hfz7_2 := blk_frozen BK139.out 2; have hfz7_3 := blk_frozen BK139.out 3; have hfz7_4 := blk_frozen BK139.out 4; have hfz7_5 := blk_frozen BK139.out 5; have hfz7_6 := blk_frozen BK139.out 6; have hfz7_7 := blk_frozen BK139.out 7))
      go_ret
      exact ⟨by first | rfl | (simp [errW_none, errW_some] <;> rfl) | (simp [*, errW_none, errW_some] <;> rfl), by repeat (first | (with_reducible first | exact HB.out | apply below_alloc | apply pw_below_drewN | apply below_drew1 | refine below_set ?_ GE139.out) | exact HB.out)⟩
    · rw [if_neg c5] at H
      have c5b0 : decide (2147483647 < (l0_7.length : Int)) = false := decide_eq_false c5
      have c5b1 : decide (2147483647 < l0_7.length) = false := decide_eq_false (by omega)
      clear c5
      obtain rfl := Option.some.inj H
      go_enter Tryd.func12, Tryd.ntmps12
      go_wp2_with (first | ((with_reducible refine gate_dst (N := 1) rfl ?_); refine box_event ?hg (N := 1) ?hd (cs := #[.int .i64 a0_0, .int .u8 a0_1, .int .i64 a0_2, .int .u8 a0_3, .int .u64 a0_4, .bool a0_5, .slice A0_6 l0_6.length c0_6, .slice A0_7 l0_7.length c0_7]) (t := 37) ?hr ?_; (case hd => rfl); (case hg => rfl); (case hr => first | (go_simp; done) | (go_simp; rfl)); intro gb139 hg w8 hbox hb; have n0_ := Aside0.mk (below_step (by repeat (first | (with_reducible first | exact HB.out | apply below_alloc | apply pw_below_drewN | apply below_drew1) | exact HB.out)) hb); have n1_ := Aside0.mk (hbox); have n2_ := Aside0.mk ((by rw [hg]; exact (below_size (by repeat (first | (with_reducible first | exact HB.out | apply below_alloc | apply pw_below_drewN | apply below_drew1) | exact HB.out))) : w.heap.size ≤ gb139)); have n3_ := Aside0.mk ((by rw [hg]; exact (below_size (by repeat (first | (with_reducible first | exact HB.out | apply below_alloc | apply pw_below_drewN | apply below_drew1) | exact HB.out))) : w.heap.size ≤ gb139)); clear HB; have HB := n0_; have BK139 := n1_; have GW139 := n2_; have GE139 := n3_; clear n0_ n1_ n2_ n3_; clear hb hbox hg; have hcz9_0 : w8.cell? ⟨gb139, 0, none⟩ = some (.int .i64 a0_0) := (blk_cell BK139.out 0).trans rfl; have hcz9_1 : w8.cell? ⟨gb139, 1, none⟩ = some (.int .u8 a0_1) := (blk_cell BK139.out 1).trans rfl; have hcz9_2 : w8.cell? ⟨gb139, 2, none⟩ = some (.int .i64 a0_2) := (blk_cell BK139.out 2).trans rfl; have hcz9_3 : w8.cell? ⟨gb139, 3, none⟩ = some (.int .u8 a0_3) := (blk_cell BK139.out 3).trans rfl; have hcz9_4 : w8.cell? ⟨gb139, 4, none⟩ = some (.int .u64 a0_4) := (blk_cell BK139.out 4).trans rfl; have hcz9_5 : w8.cell? ⟨gb139, 5, none⟩ = some (.bool a0_5) := (blk_cell BK139.out 5).trans rfl; have hcz9_6 : w8.cell? ⟨gb139, 6, none⟩ = some (.slice A0_6 l0_6.length c0_6) := (blk_cell BK139.out 6).trans rfl; have hcz9_7 : w8.cell? ⟨gb139, 7, none⟩ = some (.slice A0_7 l0_7.length c0_7) := (blk_cell BK139.out 7).trans rfl; have hfz9_0 := blk_frozen BK139.out 0; have hfz9_1 := blk_frozen BK139.out 1; have hfz9_2 := blk_frozen BK139.out 2; have hfz9_3 := blk_frozen BK139.out 3; have hfz9_4 := blk_frozen BK139.out 4; have hfz9_5 := blk_frozen BK139.out 5; have hfz9_6 := blk_frozen BK139.out 6; have hfz9_7 := blk_frozen BK139.out 7))
      go_ret
      exact ⟨by first | rfl | (simp [errW_none, errW_some] <;> rfl) | (simp [*, errW_none, errW_some] <;> rfl), by repeat (first | (with_reducible first | exact HB.out | apply below_alloc | apply pw_below_drewN | apply below_drew1 | refine below_set ?_ GE139.out) | exact HB.out)⟩

-- NOT PRINTED: function 39 (spec_hashes)

-- NOT PRINTED: function 13 (spec_IdOf)

/-! ### spec_SaltSize: function 14 -/
def spec_SaltSize.j0 : Nat → Int → Bool → Option (Int)
  | 0, _, _ => none
  | k + 1, x3, x4 => if x4 = true then (some 16) else (if x3 = 9 then (some 24) else (if x3 = 10 then (some 32) else (if x3 = 14 then (some 32) else (some 0))))
def spec_SaltSize.f (k : Nat) (a0 : Int) : Option (Int) := if a0 = 8 then (spec_SaltSize.j0 k a0 (a0 == 8)) else (if a0 = 11 then (spec_SaltSize.j0 k a0 (a0 == 11)) else (spec_SaltSize.j0 k a0 (a0 == 12)))
theorem spec_SaltSize.mono_l : ∀ k, (∀ y0 y1, LeO (spec_SaltSize.j0 k y0 y1) (spec_SaltSize.j0 (k + 1) y0 y1))
  | 0 => fun _ _ r h => by simp [spec_SaltSize.j0] at h
  | k + 1 => by
    have ih0 := spec_SaltSize.mono_l k
    · intro y0 y1
      unfold spec_SaltSize.j0
      repeat' first
      | (with_reducible exact ih0 _ _)
      | (with_reducible exact LeO.refl _)
      | (with_reducible exact LeO.none _)
      | (with_reducible refine LeO.ite ?_ ?_)
      | (with_reducible refine LeO.bind ?_ (fun _ => ?_))
      | exact ih0 _ _
      | exact LeO.none _
      | refine LeO.ite ?_ ?_
      | refine LeO.bind ?_ (fun _ => ?_)
theorem spec_SaltSize.mono : ∀ a0 k, LeO (spec_SaltSize.f k a0) (spec_SaltSize.f (k + 1) a0) := by
  intro a0 k
  have ih0 := spec_SaltSize.mono_l k
  unfold spec_SaltSize.f
  repeat' first
      | (with_reducible exact ih0 _ _)
      | (with_reducible exact LeO.refl _)
      | (with_reducible exact LeO.none _)
      | (with_reducible refine LeO.ite ?_ ?_)
      | (with_reducible refine LeO.bind ?_ (fun _ => ?_))
      | exact ih0 _ _
      | exact LeO.none _
      | refine LeO.ite ?_ ?_
      | refine LeO.bind ?_ (fun _ => ?_)
set_option maxHeartbeats 8000000 in
set_option maxRecDepth 100000 in
theorem spec_SaltSize.calls (k : Nat) (a0 : Int) (r : Int) (w : World) (h : spec_SaltSize.f k a0 = some r) :
    Calls Tryd.prog 14 #[.int .i64 a0] w fun e w' => e = .returned (.int .i64 r) ∧ Drawn0 w w' := by
  have H : (if a0 = 8 then (spec_SaltSize.j0 k a0 (a0 == 8)) else (if a0 = 11 then (spec_SaltSize.j0 k a0 (a0 == 11)) else (spec_SaltSize.j0 k a0 (a0 == 12)))) = some r := h
  clear h
  have HC2 := Aside0.mk H
  clear H
  go_enter Tryd.func14, Tryd.ntmps14
  go_upto_if 4 with (fail)
  go_cut [4] (fun v4 wc => ∃ (kq : Nat) (x4_1 : Bool), v4 = .bool x4_1 ∧ Aside0 (spec_SaltSize.j0 kq a0 x4_1 = some r) ∧ Aside0 (kq ≤ k) ∧ Drawn0 w wc)
  case first =>
    have H := HC2.out
    clear HC2
    by_cases c3 : a0 = 8
    · rw [if_pos c3] at H
      have c3b0 : (a0 == 8) = true := beq_iff_eq.mpr c3
      have c3b1 : (a0 != 8) = false := bne_eq_false_iff_eq.mpr c3
      clear c3
      (first | rw [c3b0] | (simp only [i64_w, i32_w]; rw [c3b0]) | skip)
      have H' := Aside0.mk H
      clear H
      go_wp2
      go_meet
      case rel => exact ⟨_, ((a0 == 8)), (by first | rfl | (simp; done) | (simp [*]; done)), H', ⟨by first | omega | exact Nat.le_refl _⟩, by repeat (first | exact Drawn0.refl _ | apply Drawn0.step)⟩
    · rw [if_neg c3] at H
      have c3b0 : (a0 == 8) = false := beq_eq_false_iff_ne.mpr c3
      have c3b1 : (a0 != 8) = true := bne_iff_ne.mpr c3
      (first | rw [c3b0] | (simp only [i64_w, i32_w]; rw [c3b0]) | skip)
      by_cases c4 : a0 = 11
      · rw [if_pos c4] at H
        have c4b0 : (a0 == 11) = true := beq_iff_eq.mpr c4
        have c4b1 : (a0 != 11) = false := bne_eq_false_iff_eq.mpr c4
        clear c4
        have H' := Aside0.mk H
        clear H
        go_wp2
        go_meet
        case rel => exact ⟨_, ((a0 == 11)), (by first | rfl | (simp; done) | (simp [*]; done)), H', ⟨by first | omega | exact Nat.le_refl _⟩, by repeat (first | exact Drawn0.refl _ | apply Drawn0.step)⟩
      · rw [if_neg c4] at H
        have c4b0 : (a0 == 11) = false := beq_eq_false_iff_ne.mpr c4
        have c4b1 : (a0 != 11) = true := bne_iff_ne.mpr c4
        have H' := Aside0.mk H
        clear H
        go_wp2
        go_meet
        case rel => exact ⟨_, ((a0 == 12)), (by first | rfl | (simp; done) | (simp [*]; done)), H', ⟨by first | omega | exact Nat.le_refl _⟩, by repeat (first | exact Drawn0.refl _ | apply Drawn0.step)⟩
  case rest =>
    clear HC2
    try clear c1
    try clear p2
    try clear c3
    try clear c3b0
    try clear c3b1
    try clear c4
    try clear c4b0
    try clear c4b1
    obtain ⟨kq, x4_1, rfl, HA, HJ1, ⟨mc1, rfl⟩⟩ := hcut
    cases kq with
    | zero => exact absurd HA.out (by simp [spec_SaltSize.j0])
    | succ kj1 =>
      have H := HA.out
      clear HA
      simp only [spec_SaltSize.j0] at H
      by_cases c5 : x4_1 = true
      · subst c5
        have H1 : (some 16) = some r := by rw [if_pos rfl] at H; exact H
        clear H
        have H := H1
        clear H1
        obtain rfl := Option.some.inj H
        go_wp2
        go_ret
        exact ⟨by first | rfl | (simp; done) | (simp [*]; done), by repeat (first | exact Drawn0.refl _ | apply Drawn0.step)⟩
      · replace c5 := Bool.eq_false_iff.mpr c5
        subst c5
        have H1 : (if a0 = 9 then (some 24) else (if a0 = 10 then (some 32) else (if a0 = 14 then (some 32) else (some 0)))) = some r := by rw [if_neg (show ¬ (false = true) by decide)] at H; exact H
        clear H
        have H := H1
        clear H1
        by_cases c6 : a0 = 9
        · rw [if_pos c6] at H
          have c6b0 : (a0 == 9) = true := beq_iff_eq.mpr c6
          have c6b1 : (a0 != 9) = false := bne_eq_false_iff_eq.mpr c6
          clear c6
          obtain rfl := Option.some.inj H
          go_wp2
          go_ret
          exact ⟨by first | rfl | (simp; done) | (simp [*]; done), by repeat (first | exact Drawn0.refl _ | apply Drawn0.step)⟩
        · rw [if_neg c6] at H
          have c6b0 : (a0 == 9) = false := beq_eq_false_iff_ne.mpr c6
          have c6b1 : (a0 != 9) = true := bne_iff_ne.mpr c6
          by_cases c7 : a0 = 10
          · rw [if_pos c7] at H
            have c7b0 : (a0 == 10) = true := beq_iff_eq.mpr c7
            have c7b1 : (a0 != 10) = false := bne_eq_false_iff_eq.mpr c7
            clear c7
            obtain rfl := Option.some.inj H
            go_wp2
            go_ret
            exact ⟨by first | rfl | (simp; done) | (simp [*]; done), by repeat (first | exact Drawn0.refl _ | apply Drawn0.step)⟩
          · rw [if_neg c7] at H
            have c7b0 : (a0 == 10) = false := beq_eq_false_iff_ne.mpr c7
            have c7b1 : (a0 != 10) = true := bne_iff_ne.mpr c7
            by_cases c8 : a0 = 14
            · rw [if_pos c8] at H
              have c8b0 : (a0 == 14) = true := beq_iff_eq.mpr c8
              have c8b1 : (a0 != 14) = false := bne_eq_false_iff_eq.mpr c8
              clear c8
              obtain rfl := Option.some.inj H
              go_wp2
              go_ret
              exact ⟨by first | rfl | (simp; done) | (simp [*]; done), by repeat (first | exact Drawn0.refl _ | apply Drawn0.step)⟩
            · rw [if_neg c8] at H
              have c8b0 : (a0 == 14) = false := beq_eq_false_iff_ne.mpr c8
              have c8b1 : (a0 != 14) = true := bne_iff_ne.mpr c8
              obtain rfl := Option.some.inj H
              go_wp2
              go_ret
              exact ⟨by first | rfl | (simp; done) | (simp [*]; done), by repeat (first | exact Drawn0.refl _ | apply Drawn0.step)⟩

-- NOT PRINTED: function 37 (impl_end)

-- NOT PRINTED: function 69 (packet_serializeType)

-- NOT PRINTED: function 70 (packet_serializeLength)

-- NOT PRINTED: function 55 (packet_serializeHeader)

end Go.Proofs.YtjdnnpfhlkgooaaDoor.PFnWriteOnePass
