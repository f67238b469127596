/- The law FnImages. -/
import Derived.Test.YtjdnnpfhlkgooaaImlP
import Derived.Deep.RegionLaw
set_option linter.unusedVariables false
set_option linter.unusedSimpArgs false
namespace Go.Proofs.Ytjdnnpfhlkgooaa.Rd
open Go.RowKit Go.Proofs.YtjdnnpfhlkgooaaW.PrintWords Go.Proofs.YtjdnnpfhlkgooaaW.PrintMore Go.Proofs.Ytjdnnpfhlkgooaa.Kit Go.Proofs.Ytjdnnpfhlkgooaa Go.Proofs.Ytjdnnpfhlkgooaa.PFnImages

theorem c8F {W : World} {ok : Nat → Prop} {A : Option Addr} {n : Nat} {C : List Int} (h : Kd.F (Kd.int .u8) W ok A n C) (e : n = C.length) : C8 W A C := by
  subst e
  exact Kd.F_now h
set_option maxHeartbeats 1600000 in
set_option maxRecDepth 100000 in
theorem law_im (A : Option Addr) (c : Nat) (ps : List (Int × List Int × Bool)) (w : World) (hr : kI.C w A ps.length ps) (hc : ps.length ≤ c) (hm : ps.length ≤ maxLen) (hw : ∀ p, p ∈ ps → goodP p) :
    Calls Try.prog 3 #[.slice A ps.length c] w fun e w' => e = .returned (.bool true) ∧ Below w.heap.size w w' := by
  obtain ⟨r, hf, hfit⟩ := fits_f ps
  obtain ⟨n, en⟩ : ∃ n, ps.length = n := ⟨_, rfl⟩
  have CF := laws_zzFits5.calls (ps.length + 1) A c (ps.map toQ) r w (by rw [List.length_map]; exact C_toQ hr) (by rw [List.length_map]; exact hc) hf
  rw [List.length_map, en] at CF
  have CF' := Aside0.mk CF
  have HC := Aside0.mk (Kd.C_F heap_kI hr)
  have HG := Aside0.mk (fun p hp => wf_u8 (hw p hp).1)
  have EN := Aside0.mk en
  have FIT := Aside0.mk hfit
  have n9 : n ≤ 9223372036854775807 := by have := Kd.C_max hr; omega
  rw [en] at HC ⊢
  clear CF hf hr hc hm hw hfit en
  go_enter Try.func3, Try.ntmps3
  go_wp2_with fail
  refine CF'.out.mono ?_
  rintro en w1 ⟨rfl, hB⟩
  have B1 := Aside0.mk hB
  clear hB
  cases r
  · go_wp2_with fail
    go_ret
    exact ⟨rfl, B1.out⟩
  · have FT := Aside0.mk (FIT.out rfl)
    have n8 : n ≤ 2147483647 := by have := FT.out.1; have := EN.out; omega
    go_wp2_with fail
    go_loopw [3, 4, 17] (fun av wv iv wr => ∃ (k : Nat) (rv vv : Value) (qs : List (Option Addr × Nat × Nat)), av = rv ∧ wv = vv ∧ iv = .int .i64 (k : Int) ∧ k ≤ n ∧ Aside0 (Kd.N kI 27 wr w.heap.size (fun j => True ∧ some j ≠ vv.ownBlock) rv (allOf (ps.take k))) ∧ Aside0 (kV.R 25 wr w.heap.size (fun j => True ∧ some j ≠ rv.ownBlock) vv qs ∧ Reads w qs (wants (ps.take k))) ∧ Aside0 (Below w.heap.size w wr)) (fun _ _ iv _ => n - (intOf iv).toNat)
    case atStart => exact ⟨0, _, _, [], rfl, rfl, rfl, Nat.zero_le _, ⟨Kd.N_nil _ _ _ _ _⟩, ⟨Kd.R_nil _ _ _ _ _, Reads.nil _⟩, B1⟩
    case round =>
      obtain ⟨k, rv, vv, qs, e1, e2, rfl, hk, HA, HW, HB⟩ := hrel
      obtain rfl := e1.symm
      obtain rfl := e2.symm
      by_cases hlt : k < n
      · obtain ⟨⟨x, C, lg⟩, es⟩ : ∃ p, ps[k]? = some p := ⟨ps[k]'(by have := EN.out; omega), List.getElem?_eq_getElem _⟩
        obtain ⟨ad, cs, rfl, hcl, hK, hcc, _⟩ := Kd.F_get HC.out (0, [], false) (k : Int) (by omega) (by omega)
        rw [Int.toNat_natCast, List.getD_eq_getElem?_getD, es, Option.getD_some] at hK
        obtain ⟨A1, c1, rfl, l1', r1'⟩ := kI_open hK
        obtain ⟨nC, eC⟩ : ∃ n, C.length = n := ⟨_, rfl⟩
        rw [eC] at hcc l1' r1'
        rw [Int.toNat_natCast] at hcc
        have z0 : w.cell? (ad.add (k * 3)) = some (.int .u8 x) := hcc 0 _ rfl
        have y0 : wr.cell? (ad.add (k * 3)) = some (.int .u8 x) := (HB.out.cell (World.block_lt_of_cell? w _ z0)).trans z0
        have z1 : w.cell? ⟨(ad.add (k * 3)).block, (ad.add (k * 3)).off + 1, none⟩ = some (.slice A1 nC c1) := by rw [← add_field _ _ 1 (by omega)]; exact hcc 1 _ rfl
        have y1 : wr.cell? ⟨(ad.add (k * 3)).block, (ad.add (k * 3)).off + 1, none⟩ = some (.slice A1 nC c1) := (HB.out.cell (World.block_lt_of_cell? w _ z1)).trans z1
        have z2 : w.cell? ⟨(ad.add (k * 3)).block, (ad.add (k * 3)).off + 2, none⟩ = some (.bool lg) := by rw [← add_field _ _ 2 (by omega)]; exact hcc 2 _ rfl
        have y2 : wr.cell? ⟨(ad.add (k * 3)).block, (ad.add (k * 3)).off + 2, none⟩ = some (.bool lg) := (HB.out.cell (World.block_lt_of_cell? w _ z2)).trans z2
        have RC := Aside0.mk (Kd.F_below r1' HB.out)
        have RCW := Aside0.mk r1'
        have LC := Aside0.mk (show nC = C.length ∧ nC ≤ c1 from ⟨eC.symm, l1'⟩)
        have ES := Aside0.mk es
        have nl : nC ≤ 2147483647 := by have q := FT.out.2 _ (List.mem_of_getElem? es); simp only at q; omega
        obtain ⟨W, eW, hrow, BW⟩ : ∃ W, wr.alloc (.cells #[.int .u8 x, .slice A1 nC c1, .bool lg] 27) = W ∧ W.heap[wr.heap.size]? = some (.cells #[.int .u8 x, .slice A1 nC c1, .bool lg] 27 (0, 0)) ∧ Below wr.heap.size wr W := ⟨_, rfl, heap_alloc_new _ _, below_alloc (Below.refl _ _) _⟩
        have iklt : (k : Int) < (n : Int) := by omega
        have ik0 : (0 : Int) ≤ (k : Int) := by omega
        have HAg := Aside0.mk (Kd.N_below (Kd.N_bound HA.out) BW)
        have HA1 := Aside0.mk (Kd.N_below HA.out BW)
        have HW1 := Aside0.mk (Kd.R_below HW.out.1 BW)
        have B2 := Aside0.mk (below_then HB.out HB.out.size BW)
        have KL := Aside0.mk (show (allOf (ps.take k)).length ≤ 2147483647 ∧ qs.length ≤ 2147483647 from by
          have a1 := flat_len partOf (fun p => (partOf_len p).1) (ps.take k)
          have a2 := flat_len wantOf (fun p => (partOf_len p).2) (ps.take k)
          have a3 := HW.out.2.1
          rw [List.length_take] at a1 a2
          exact ⟨by unfold allOf; omega, by rw [a3]; unfold wants; omega⟩)
        have OW := Aside0.mk (show (∀ j, rv.ownBlock = some j → w.heap.size ≤ j ∧ j < wr.heap.size) ∧ (∀ j, vv.ownBlock = some j → w.heap.size ≤ j ∧ j < wr.heap.size) from ⟨fun j e => ⟨Kd.N_base HA.out j e, Kd.N_lt HA.out j e⟩, fun j e => ⟨Kd.R_base HW.out.1 j e, Kd.R_lt HW.out.1 j e⟩⟩)
        have SZ := Aside0.mk (show wr.heap.size < W.heap.size from blk_lt hrow)
        have HROW := Aside0.mk hrow
        clear hcc hcl l1' r1' eC es hK z0 z1 z2
        go_upto_region 8 with (fail)
        clear eW y0 y1 y2
        obtain ⟨g, eg⟩ : ∃ g, wr.heap.size = g := ⟨_, rfl⟩
        have BW0 := Aside0.mk BW
        rw [eg] at HROW SZ OW ⊢
        clear BW
        have x0 := (cell_of_row _ _ 0 _ _ _ HROW.out).trans rfl
        have x1 := (cell_of_row _ _ 1 _ _ _ HROW.out).trans rfl
        have x2 := (cell_of_row _ _ 2 _ _ _ HROW.out).trans rfl
        by_cases hx : x = 1
        · subst hx
          by_cases hz : nC = 0
          · subst hz
            have e0 : C = [] := List.eq_nil_of_length_eq_zero LC.out.1.symm
            subst e0
            have a1 : allOf (ps.take (k + 1)) = allOf (ps.take k) := by rw [allOf_take ES.out]; simp [partOf]
            have a2 : wants (ps.take (k + 1)) = wants (ps.take k) := by rw [wants_take ES.out]; simp [wantOf]
            have FIN := Aside0.mk (And.intro a1 a2)
            clear a1 a2
            go_wp2_with fail
            exact ⟨⟨k + 1, rv, vv, qs, rfl, rfl, by first | rfl | go_num, hlt, ⟨by rw [FIN.out.1]; exact HA1.out⟩, ⟨HW1.out, by rw [FIN.out.2]; exact HW.out.2⟩, B2⟩, by simp [intOf]; omega⟩
          · have HZ := Aside0.mk hz
            have CP := Aside0.mk (show C ≠ [] from fun e => by have := LC.out.1; rw [e] at this; exact hz this)
            have RW := Aside0.mk (show Reads w (qs ++ [(A1, nC, c1)]) (wants (ps.take k) ++ [C]) from HW.out.2.snoc LC.out.1 LC.out.2 (by have q := Kd.F_now RCW.out; rw [LC.out.1] at q; exact q))
            have VL := Aside0.mk (show ∀ j, rv.ownBlock = some j → j < W.heap.size from fun j e => by have := OW.out.1 j e; have := SZ.out; omega)
            go_upto_region 10 with (fail)
            go_upto_region 11 with ((with_reducible refine gate_dst (N := 32) rfl ?_); refine Kd.R_append kV (w0 := w) (W := W) w.heap.size rfl (.tmp 28) (.tmp 31) 24 25 (.slice none 0 0) 24 rfl Try.underlying24 infoV rfl (by decide) (by decide) _ qs (A1, nC, c1) [.slice A1 nC c1] (fun j => True ∧ some j ≠ rv.ownBlock) (fun _ => False) rfl rfl rfl (fun _ h => h.elim) (fun j hj => ⟨trivial, fun e => by have := VL.out j e.symm; omega⟩) HW1.out B2.out B2.out.size (by have := KL.out.2; omega) ?_; intro v2 w2 hR hB hG hAt; have R2 := Aside0.mk hR; have B3 := Aside0.mk hB; have G2 := Aside0.mk (And.intro hG hAt); clear hR hB hG hAt)
            have HA2 := Aside0.mk (Kd.N_after HA1.out G2.out.1 G2.out.2)
            have hrow2 := (G2.out.1.block g (blk_lt HROW.out) (fun e => by have := OW.out.2 g e.symm; omega)).trans HROW.out
            have FC := Aside0.mk (Kd.F_mono (Kd.F_below RCW.out B3.out) (ok' := (fun j => j < w.heap.size ∨ w2.heap.size ≤ j)) (fun j q => .inl q))
            have O2 := Aside0.mk (show (∀ j, v2.ownBlock = some j → w.heap.size ≤ j ∧ j < w2.heap.size ∧ j ≠ g) ∧ W.heap.size ≤ w2.heap.size from ⟨fun j e => ⟨Kd.R_base R2.out j e, Kd.R_lt R2.out j e, fun eg => by
              rcases G2.out.2 with q | ⟨b, q, hle⟩
              · have := OW.out.2 j (q ▸ e); omega
              · rw [q] at e; injection e with e; have := SZ.out; omega⟩, G2.out.1.size⟩)
            have HROW2 := Aside0.mk hrow2
            clear x0 x1 x2 hrow2
            have x0 := (cell_of_row _ _ 0 _ _ _ HROW2.out).trans rfl
            have x1 := (cell_of_row _ _ 1 _ _ _ HROW2.out).trans rfl
            have x2 := (cell_of_row _ _ 2 _ _ _ HROW2.out).trans rfl
            have z1 := frozen_of_row _ _ 1 _ _ HROW2.out
            have GL := Aside0.mk (World.block_lt_of_cell? w2 _ x0)
            go_region_law (first | (go_simp; go_at_call 9; (with_reducible refine (ih_calls _).mono ?_); rintro en w5 ⟨v5, rfl, hR5, hB5⟩; obtain ⟨A5, c5, e5, l5, r5⟩ := Kd.R_reads hR5; have e5' : v5 = .slice A5 16 c5 := e5; subst e5'; have hB5 : Below w2.heap.size w2 w5 := below_then (below_drew (Below.refl _ w2)) (Nat.le_refl _) hB5; have x15 := (hB5.cell (p := ⟨g, 1, none⟩) GL.out).trans x1; have z15 := (hB5.frozen (p := ⟨g, 1, none⟩) GL.out).trans z1; have RD5 := Aside0.mk (And.intro r5 (Kd.F_below FC.out hB5)); have TGC := Aside0.mk (tg2_calls (c := c5) (d := c1) (n := 16) (m := nC) (x := head16) (y := C) r5 (c8F (Kd.F_below FC.out hB5) LC.out.1) head16_len.symm LC.out.1 (by have := l5; rw [head16_len] at this; exact this) LC.out.2 (by have := LC.out.1; rw [head16_len]; omega) (W := w5.alloc (.cells #[.slice A5 16 c5, .slice A1 nC c1] 25)) rfl); have B5 := Aside0.mk hB5; clear e5 r5 l5 hR5 hB5) | (go_simp; go_at_call 8; (with_reducible refine TGC.out.mono ?_); rintro en w6 ⟨v6, rfl, hR6, hB6⟩; obtain ⟨A6, c6, e6, l6, r6⟩ := Kd.R_reads hR6; obtain ⟨n6, en6⟩ : ∃ n6, (head16 ++ C).length = n6 := ⟨_, rfl⟩; rw [en6] at e6 l6; subst e6; have hB6 : Below w5.heap.size w5 w6 := below_then (below_alloc (Below.refl w5.heap.size w5) _) (below_alloc (Below.refl w5.heap.size w5) _).size hB6; have x16 := (hB6.cell (p := ⟨g, 1, none⟩) (World.block_lt_of_cell? w5 _ x15)).trans x15; have z16 := (hB6.frozen (p := ⟨g, 1, none⟩) (World.block_lt_of_cell? w5 _ x15)).trans z15; have R6 := Aside0.mk (Kd.R_lower hR6 (show w5.heap.size ≤ _ from (below_alloc (Below.refl w5.heap.size w5) _).size)); have B6 := Aside0.mk hB6; have N6 := Aside0.mk (And.intro en6 l6); clear hR6 hB6 l6 r6))
            all_goals (
              obtain ⟨W7, e7⟩ : ∃ W7, w6.setCell ⟨g, 1, none⟩ (.slice A6 n6 c6) = W7 := ⟨_, rfl⟩
              have hrow6 := (B6.out.block g (Nat.lt_of_lt_of_le GL.out B5.out.size)).trans ((B5.out.block g GL.out).trans HROW2.out)
              have hrow7 : W7.heap[g]? = some (.cells #[.int .u8 1, .slice A6 n6 c6, .bool lg] 27 (0, 0)) := e7 ▸ blk_put hrow6 1 (.slice A6 n6 c6) rfl
              have hT : Tch (fun j => j = g) w6 W7 := e7 ▸ (Tch.refl (fun j => j = g) w6).setCell (p := ⟨g, 1, none⟩) (fun _ => rfl) _
              have B26 : Below w2.heap.size w2 w6 := below_then B5.out B5.out.size B6.out
              have HAg2 := Kd.N_after (u := vv) (ok := fun j => j ≠ g) (Kd.N_mono HAg.out (fun j q => ⟨by rw [eg] at q; omega, q.1.2⟩)) G2.out.1 G2.out.2
              have HA7 := Aside0.mk (Kd.N_mono (Kd.N_step (Kd.N_below HAg2 B26) (fun j q hlt => hT.block j hlt q.1)) (ok' := fun j => True ∧ some j ≠ v2.ownBlock) (fun j q => ⟨trivial, q.2⟩))
              have HW7 := Aside0.mk (Kd.R_mono (Kd.R_step (Kd.R_tight rfl (Kd.R_below R2.out B26)) (w1 := W7) (fun j q hlt => hT.block j hlt (O2.out.1 j q.symm).2.2)) (ok' := fun j => True ∧ some j ≠ rv.ownBlock) (fun j q => R2.out.1 j q.symm))
              have F7 := Aside0.mk (Kd.F_mono (Kd.F_step (Kd.R_F (Kd.R_bound R6.out)) (W1 := W7) (fun j q hlt => hT.block j hlt (by have := GL.out; have := B5.out.size; have := q.2.1; simp only at *; omega))) (ok' := fun j => j < w.heap.size ∨ w5.heap.size ≤ j) (fun j q => .inr q.2.1))
              have B7 := Aside0.mk (hT.below (below_then B3.out B3.out.size B26) (Nat.le_trans B3.out.size B26.size) (fun j q => by have := B2.out.size; have := HB.out.size; omega))
              have S7 := Aside0.mk (show w2.heap.size ≤ w5.heap.size ∧ w2.heap.size ≤ W7.heap.size from ⟨B5.out.size, Nat.le_trans B26.size hT.size⟩)
              have a1 : allOf (ps.take (k + 1)) = allOf (ps.take k) ++ [(1, head16 ++ C, lg)] := by rw [allOf_take ES.out]; simp [partOf, CP.out]
              have a2 : wants (ps.take (k + 1)) = wants (ps.take k) ++ [C] := by rw [wants_take ES.out]; simp [wantOf, CP.out]
              have FIN := Aside0.mk (And.intro a1 a2)
              clear x0 x1 x2 z1 x15 z15 x16 z16
              have x0 := (cell_of_row _ _ 0 _ _ _ hrow7).trans rfl
              have x1 := (cell_of_row _ _ 1 _ _ _ hrow7).trans rfl
              have x2 := (cell_of_row _ _ 2 _ _ _ hrow7).trans rfl
              rw [e7]
              clear a1 a2 hrow6 hrow7 hT HAg2 e7 B26
              go_upto_region 13 with (((with_reducible refine gate_dst (N := 42) rfl ?_); refine Kd.N_append kI (w0 := w) (W := W7) w.heap.size rfl (.tmp 39) (.tmp 41) 22 27 (.agg #[.int .u8 0, .slice none 0 0, .bool false]) 40 rfl Try.underlying22 infoI3 rfl (by decide) (by decide) rv (allOf (ps.take k)) (1, head16 ++ C, lg) [.int .u8 1, .slice A6 n6 c6, .bool lg] (fun j => True ∧ some j ≠ v2.ownBlock) (fun j => j < w.heap.size ∨ w5.heap.size ≤ j) rfl rfl (fkI N6.out.1.symm N6.out.2 F7.out) ?hk ?hf HA7.out B7.out B7.out.size ?hl ?_; (case hk => intro j hj; exact ⟨⟨trivial, fun e => by have := O2.out.1 j e.symm; have := S7.out; omega⟩, fun e => by have := OW.out.1 j e.symm; have := SZ.out; have := O2.out.2; have := S7.out; omega⟩); (case hf => intro j hj; exact ⟨trivial, fun e => by have := O2.out.1 j e.symm; have := S7.out; omega⟩); (case hl => have := KL.out.1; omega); intro v3 w3 hN hB hG hAt; have N3 := Aside0.mk hN; have B3 := Aside0.mk hB; have G3 := Aside0.mk (And.intro hG hAt); clear hN hB hG hAt))
              have M3 := Aside0.mk (Kd.R_after HW7.out G3.out.1 G3.out.2)
              go_wp2_with fail
              go_roundw
              case rel => exact ⟨k + 1, v3, v2, _, rfl, rfl, by first | rfl | go_num, hlt, ⟨by rw [FIN.out.1]; exact N3.out⟩, ⟨M3.out, by rw [FIN.out.2]; exact RW.out⟩, B3⟩
              case measure => simp [intOf]; omega)
        · have FC := Aside0.mk (Kd.F_mono (Kd.F_below RC.out BW0.out) (ok' := (fun j => j < w.heap.size ∨ W.heap.size ≤ j)) (fun j q => .inl q))
          have OV := Aside0.mk OW.out.2
          have VL := Aside0.mk (show ∀ j, vv.ownBlock = some j → j < W.heap.size from fun j e => by have := OW.out.2 j e; have := SZ.out; omega)
          have a1 : allOf (ps.take (k + 1)) = allOf (ps.take k) ++ [(x, C, lg)] := by rw [allOf_take ES.out]; simp [partOf, hx]
          have a2 : wants (ps.take (k + 1)) = wants (ps.take k) := by rw [wants_take ES.out]; simp [wantOf, hx]
          have FIN := Aside0.mk (And.intro a1 a2)
          clear a1 a2
          go_upto_region 12 with (fail)
          go_upto_region 13 with (((with_reducible refine gate_dst (N := 42) rfl ?_); refine Kd.N_append kI (w0 := w) (W := W) w.heap.size rfl (.tmp 39) (.tmp 41) 22 27 (.agg #[.int .u8 0, .slice none 0 0, .bool false]) 40 rfl Try.underlying22 infoI3 rfl (by decide) (by decide) rv (allOf (ps.take k)) (x, C, lg) [.int .u8 x, .slice A1 nC c1, .bool lg] (fun j => True ∧ some j ≠ vv.ownBlock) (fun j => j < w.heap.size ∨ W.heap.size ≤ j) rfl rfl (fkI LC.out.1 LC.out.2 FC.out) ?hk ?hf HA1.out B2.out B2.out.size ?hl ?_; (case hk => intro j hj; exact ⟨⟨trivial, fun e => by have := OV.out j e.symm; have := OW.out; have := SZ.out; omega⟩, fun e => by have := OW.out.1 j e.symm; have := SZ.out; omega⟩); (case hf => intro j hj; exact ⟨trivial, fun e => by have := VL.out j e.symm; omega⟩); (case hl => have := KL.out.1; omega); intro v3 w3 hN hB hG hAt; have N3 := Aside0.mk hN; have B3 := Aside0.mk hB; have G3 := Aside0.mk (And.intro hG hAt); clear hN hB hG hAt))
          have M3 := Aside0.mk (Kd.R_after HW1.out G3.out.1 G3.out.2)
          go_wp2_with fail
          go_roundw
          case rel => exact ⟨k + 1, v3, vv, qs, rfl, rfl, by first | rfl | go_num, hlt, ⟨by rw [FIN.out.1]; exact N3.out⟩, ⟨M3.out, by rw [FIN.out.2]; exact HW.out.2⟩, B3⟩
          case measure => simp [intOf]; omega
      · obtain rfl : k = n := by omega
        have hA := HA.out
        have hW := HW.out
        have tk : ps.take k = ps := List.take_of_length_le (by have := EN.out; omega)
        rw [tk] at hA hW
        obtain ⟨AA, cA, e1, lA, CA⟩ := Kd.N_reads hA
        obtain ⟨na, ena⟩ : ∃ na, (allOf ps).length = na := ⟨_, rfl⟩
        obtain ⟨AV, cV, e2, lV, CV⟩ := Kd.R_reads hW.1
        obtain ⟨m, em⟩ : ∃ m, qs.length = m := ⟨_, rfl⟩
        rw [ena] at e1 lA CA
        rw [em] at e2 lV CV
        subst e1 e2
        have al : (allOf ps).length ≤ ps.length := flat_len partOf (fun p => (partOf_len p).1) ps
        have SO := Aside0.mk (subsOf_calls (w := wr) (A := AA) (c := cA) (m := na) (ps := allOf ps) CA (by have := EN.out; omega) (fun q hq => by obtain ⟨p, hp, h1, h2⟩ := all_mem hq; have := FT.out.2 p hp; omega) (fun q hq => by obtain ⟨p, hp, h1, h2⟩ := all_mem hq; rw [h2]; exact HG.out p hp))
        have CV1 := Aside0.mk CV
        have RW := Aside0.mk hW.2
        have EM := Aside0.mk em
        clear hA hW CA lA CV lV al
        go_wp2_with fail
        refine SO.out.mono ?_
        rintro en w2 (⟨_, rfl, hB⟩ | ⟨ht, v1, v2, rfl, hN1, hN2, hB⟩)
        · have B2 := Aside0.mk (below_then HB.out HB.out.size hB)
          clear hB
          go_wp2_with fail
          go_ret
          exact ⟨rfl, B2.out⟩
        · obtain ⟨AI, cI, rfl, hcI, CI⟩ := Kd.N_reads hN1
          obtain ⟨AX, cX, rfl, _, _⟩ := Kd.N_reads hN2
          have lm : ((allOf ps).map subP).length = na := by rw [List.length_map]; exact ena
          rw [lm] at CI ⊢
          have tl : na ≤ 1048576 ∧ ∀ s, s ∈ (allOf ps).map subP → s.2.1.length ≤ 100 ∧ s.2.2.length ≤ 100000000 := ⟨by have := (tot_mem (allOf ps)).1; omega, fun s hs => by
            obtain ⟨q, hq, rfl⟩ := List.mem_map.1 hs
            have t1 := (tot_mem (allOf ps)).2 q hq
            have t2 := (encL_len q.2.2 (1 + q.2.1.length)).2
            exact ⟨by show (encL q.2.2 (1 + q.2.1.length)).length ≤ 100; omega, by show q.2.1.length ≤ 100000000; omega⟩⟩
          have IM := Aside0.mk (im_calls (c := cI) CI (by omega) tl.2)
          have CV2 := Aside0.mk (Kd.C_below CV1.out hB)
          have B2 := Aside0.mk (below_then HB.out HB.out.size hB)
          clear ht hN1 hN2 hB CI hcI lm tl
          go_wp2_with fail
          refine IM.out.mono ?_
          rintro en w3 ⟨v, rfl, hR, hB⟩
          rw [imgs_all] at hR
          obtain ⟨AG, cG, rfl, lG, CG⟩ := Kd.R_reads hR
          have lw : (wants ps).length = m := by rw [← RW.out.1]; exact EM.out
          rw [lw] at CG ⊢
          have G3 := Aside0.mk (And.intro CG (Kd.C_below CV2.out hB))
          have B3 := Aside0.mk (below_then B2.out B2.out.size hB)
          have LW := Aside0.mk lw
          have m9 : m ≤ 9223372036854775807 := Kd.C_max CG
          clear hR hB CG lG lw
          go_wp2_with fail
          go_loopw [61] (fun iv wr => ∃ j : Nat, j ≤ m ∧ iv = .int .i64 (j : Int) ∧ Aside0 (Below w3.heap.size w3 wr)) (fun iv _ => m - (intOf iv).toNat)
          case atStart => exact ⟨0, Nat.zero_le _, rfl, ⟨Below.refl _ _⟩⟩
          case round =>
            obtain ⟨j, hj, rfl, HX⟩ := hrel
            by_cases hjl : j < m
            · obtain ⟨⟨AL, nL, cL⟩, ep⟩ : ∃ p, qs[j]? = some p := ⟨qs[j]'(by have := EM.out; omega), List.getElem?_eq_getElem _⟩
              obtain ⟨l, el⟩ : ∃ l, (wants ps)[j]? = some l := ⟨(wants ps)[j]'(by have := LW.out; omega), List.getElem?_eq_getElem _⟩
              obtain ⟨ad, cs, rfl, _, hK, hcc⟩ := Kd.C_get (Kd.C_below G3.out.1 HX.out) [] (j : Int) (by omega) (by omega)
              rw [Int.toNat_natCast, List.getD_eq_getElem?_getD, el, Option.getD_some] at hK
              obtain ⟨AK, cK, rfl, lK, rK⟩ := hK
              obtain ⟨ae, cs2, rfl, _, hK2, hcc2⟩ := Kd.C_get (Kd.C_below G3.out.2 HX.out) (none, 0, 0) (j : Int) (by omega) (by omega)
              rw [Int.toNat_natCast, List.getD_eq_getElem?_getD, ep, Option.getD_some] at hK2
              have e2 : cs2 = [.slice AL nL cL] := hK2
              subst e2
              obtain ⟨nl, enl⟩ : ∃ nl, l.length = nl := ⟨_, rfl⟩
              rw [enl] at hcc
              have hx : wr.cell? (ad.add j) = some (.slice AK nl cK) := by
                have q := hcc 0 _ rfl
                rw [Int.toNat_natCast, show j * (Kd.slice 5 (Kd.int .u8)).sz + 0 = j by show j * 1 + 0 = j; omega] at q
                exact q
              have hy : wr.cell? (ae.add j) = some (.slice AL nL cL) := by
                have q := hcc2 0 _ rfl
                rw [Int.toNat_natCast, show j * kV.sz + 0 = j by show j * 1 + 0 = j; omega] at q
                exact q
              obtain ⟨q1, q2, q3⟩ := RW.out.2 j _ _ ep el
              simp only at q1 q2 q3
              have BW3 := Aside0.mk (below_then B3.out B3.out.size HX.out)
              have SC := Aside0.mk (fun (W' : World) (h : Below wr.heap.size wr W') => same_calls (w := W') (A := AK) (B := AL) (c := cK) (d := cL) (n := nl) (m := nL) (l := l) (Kd.C_below rK h) (Kd.C_below (Kd.C_below q3 BW3.out) h) rfl enl.symm q1)
              have iklt : (j : Int) < (m : Int) := by omega
              have ik0 : (0 : Int) ≤ (j : Int) := by omega
              have hS0 : wr.cell? (ad.add j) = some (.slice AK nl cK) ∧ wr.cell? (ae.add j) = some (.slice AL nL cL) := ⟨hx, hy⟩
              have RB := Aside0.mk (show ∀ w5, Below wr.heap.size wr w5 → (w5.cell? (ad.add j) = some (.slice AK nl cK) ∧ w5.cell? (ae.add j) = some (.slice AL nL cL)) from fun w5 hB => ⟨(hB.cell (World.block_lt_of_cell? wr _ hx)).trans hx, (hB.cell (World.block_lt_of_cell? wr _ hy)).trans hy⟩)
              clear hcc hcc2 ep el rK lK q1 q2 q3 enl
              go_upto_region 23 with (fail)
              go_region_held3 (fun w' => w'.cell? (ad.add j) = some (.slice AK nl cK) ∧ w'.cell? (ae.add j) = some (.slice AL nL cL)) (first | exact hS0 | assumption | go_keep) ((go_at_call 12; (with_reducible refine (SC.out _ (below_drew (Below.refl _ _))).mono ?_); rintro en w5 ⟨rfl, hB⟩; have hB5 : Below wr.heap.size wr w5 := below_then (below_drew (Below.refl _ wr)) (Nat.le_refl _) hB; clear hB; have hB0 := RB.out w5 hB5; have B5 := Aside0.mk hB5; clear hB5))
              go_wp2_with fail
              exact ⟨⟨j + 1, hjl, by first | rfl | go_num, ⟨below_then HX.out HX.out.size B5.out⟩⟩, by simp [intOf]; omega⟩
            · obtain rfl : j = m := by omega
              go_wp2_with fail
              go_ret
              exact ⟨rfl, below_then B3.out B3.out.size HX.out⟩
end Go.Proofs.Ytjdnnpfhlkgooaa.Rd
