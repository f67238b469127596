/- Rals, Ralp, Nxt, Rop, Wop, Pob, FOb in one text (join.py). -/
import Derived.Test.YtfhefoaieefnkaaDoorRall
import Derived.Test.YtfhefoaieefnkaaDoorRdh
import Derived.Test.YtfhefoaieefnkaaDoorMkr
import Derived.Test.YtfhefoaieefnkaaDoorOwn
import Derived.Great.BuildSlice
import Derived.Test.YtfhefoaieefnkaaDoorHdr
import Derived.Test.YtfhefoaieefnkaaDoorCut
import Derived.Test.YtfhefoaieefnkaaDoorObx1
import Derived.Test.YtfhefoaieefnkaaDoorSame
/- io.ReadAll over a span of a source. -/
set_option linter.unusedVariables false
set_option linter.unusedSimpArgs false
namespace Go.Proofs.YtfhefoaieefnkaaDoor.Rd
open Go.RowKit Go.Proofs.YtfhefoaieefnkaaDoorW.PrintWords Go.Proofs.YtfhefoaieefnkaaDoorW.PrintMore Go.Proofs.YtfhefoaieefnkaaDoor.Kit

set_option maxHeartbeats 1600000 in
set_option maxRecDepth 100000 in
theorem rall_spn {w : World} {d s b : Nat} {split : Int} {bd rest : List Int} {ok : Bool} {aE aU : Addr} (h : Bdy w d s b split (.iface 197 (.pointer (some ⟨b, 0, none⟩))) bd ok rest) (hE : Env w d aE aU) (hbl : bd.length ≤ 100000000) :
    Calls Tryd.prog 86 #[(.iface 197 (.pointer (some ⟨b, 0, none⟩)))] w (RallOut w d s b split ok rest aU bd) := by
  have H0 := Aside0.mk h
  have HE := Aside0.mk hE
  have H0l := Aside0.mk (And.intro h.lts (And.intro h.ltb (Nat.le_of_lt (Nat.lt_of_le_of_lt h.ds h.lts))))
  have ds := h.ds
  have db := h.db
  clear h hE
  go_enter Tryd.func86, Tryd.ntmps86
  go_wp2_with (first | ((with_reducible refine gate_dst (N := 13) rfl ?_); refine makeC (w0 := w) w.heap.size rfl rfl 22 5 (.const (.int .i64 0)) (.const (.int .i64 512)) rfl 512 rfl rfl rfl Tryd.underlying22 infoB (by decide) (Below.refl _ _) (Nat.le_refl _) ?_; intro g w1 g1 g2 g3 hR hB hB'; have R1 := Aside0.mk hR; have B1 := Aside0.mk hB; have G1 := Aside0.mk (And.intro g1 g3); clear hR hB hB' g1 g2 g3) | ((with_reducible refine gate_dst (N := 14) rfl ?_); refine makeN0 (Kd.slice 5 (Kd.int .u8)) (ok := fun k => w.heap.size ≤ k ∧ k ≠ g) (w0 := w) w.heap.size rfl rfl 117 22 (.const (.int .i64 0)) (.const (.int .i64 4)) rfl 4 rfl rfl rfl Tryd.underlying117 infoSS rfl (by decide) (by decide) ?hok B1.out ?hb ?_; (case hok => exact ⟨B1.out.size, fun e => by have := G1.out.2; omega⟩); (case hb => exact B1.out.size); intro gN w2 q1 q2 q3 hN hB hB'; have N2 := Aside0.mk hN; have R2 := Aside0.mk (Kd.R_below R1.out hB'); have B2 := Aside0.mk hB; have G2 := Aside0.mk (And.intro q1 q3); clear hN hB hB' q1 q2 q3))
  go_loopw [4, 5, 6, 7] (fun bv nv cv fv wr => ∃ (g C L nx fsz : Nat) (AN : Option Addr) (cN : Nat) (xs : List Int) (dats : List (List Int)), bv = .slice (some ⟨g, 0, none⟩) L C ∧ nv = .int .i64 (nx : Int) ∧ cv = .slice AN dats.length cN ∧ fv = .int .i64 (fsz : Int) ∧ Aside0 (RInv w d s b split (.iface 197 (.pointer (some ⟨b, 0, none⟩))) bd ok rest wr g C L nx fsz cv xs dats)) (fun bv _ _ fv _ => bd.length - (lenV bv + (intOf fv).toNat))
  case atStart =>
    refine ⟨g, 512, 0, 256, 0, some ⟨gN, 0, none⟩, 4, List.replicate 512 0, [], rfl, rfl, rfl, rfl, ⟨?_⟩⟩
    exact { bdy := H0.out.below B2.out, le := by omega, room := by decide, c256 := by decide, nx1 := by decide, nx2 := by decide, cmax := by decide, gw := G1.out.1, buf := R2.out, now := by simp, old := by simp, few := by simp, chk := N2.out, tch := Tch.of_below B2.out }
  case round =>
    clear H0 R1 R2 B1 B2 G1 G2 N2
    obtain ⟨g', C, L, nx, fsz, AN, cN, xs, dats, rfl, rfl, rfl, rfl, HI⟩ := hrel
    have HI' := HI.out
    have LC := HI'.room
    have C256 := HI'.c256
    have CM := HI'.cmax
    have lg := Kd.R_lt HI'.buf g' rfl
    have gs : g' ≠ s := fun e => by have := H0l.out.1; have := HI'.gw; omega
    have gb : g' ≠ b := fun e => by have := H0l.out.2.1; have := HI'.gw; omega
    have gd : d ≤ g' := by have := H0l.out.2.2; have := HI'.gw; omega
    have d1 : ∀ W : World, (Instr.slice 22 (.slice (some ⟨g', 0, none⟩) L C) (some (.int .i64 (L : Int))) (some (.int .i64 (C : Int))) none).run Tryd.prog W = .ok (.slice (some ⟨g', L, none⟩) (C - L) (C - L)) W := by
      obtain ⟨i, hi, _, hsz, _⟩ := info_partsC infoB
      intro W
      have hel : Tryd.prog.elem 22 = 5 := by simp [Program.elem, Tryd.underlying22]
      have hu : Tryd.prog.underlying 22 = some (.slice (Tryd.prog.elem 22)) := by rw [hel]; exact Tryd.underlying22
      have cl : ¬ C = L := by omega
      rw [run_slice_lh W 22 (some ⟨g', 0, none⟩) L C hu .i64 .i64 (L : Int) (C : Int) (Int.natCast_nonneg _) (by omega) (by omega), hel]
      simp [sizeOf, typeInfo, hi, hsz, sliced, Result.andThen, cl, Addr.add]
      omega
    have HE1 := Aside0.mk (HE.out.kept HI'.tch (fun j q => by rcases q with q | q <;> subst q <;> assumption))
    have H1d := Aside0.mk (HI'.bdy.below (below_drew (Below.refl _ _)))
    have R1d := Aside0.mk (Kd.R_drew HI'.buf)
    have E1d := Aside0.mk (HE1.out.below (below_drew (Below.refl _ _)))
    have I1 : (L : Int) ≤ (C : Int) := by omega
    have I2 : (0 : Int) ≤ (L : Int) := by omega
    have ni := nil_read_spn b
    have LE := Aside0.mk HI'.le
    clear HI'
    by_cases hne : fsz + L < bd.length
    · have DL := Aside0.mk (show 0 < (bd.drop (fsz + L)).length by rw [List.length_drop]; omega)
      go_wp2_with fail
      go_region_held3 (fun _ => True) (trivial) ((go_at_call 122; go_loud ((with_reducible refine (bdy_spn H1d.out E1d.out R1d.out (show L + (C - L) ≤ C by omega) (show 1 ≤ C - L by omega) (Nat.le_refl _) gs gd gb).mono ?_); rintro en w1 ⟨q, ok2, rest2, q1, q2, q3, q4, q5, q6, q7, q8⟩; rw [if_pos DL.out] at q5; subst q5; obtain ⟨q30, rfl, rfl⟩ := q3 DL.out; have X1 := Aside0.mk (And.intro q6 (And.intro q7 q8)); have Q1 := Aside0.mk (And.intro q30 (And.intro q1 q2)); clear q6 q7 q8 q1 q2 q3 q4 q30)))
      obtain ⟨hq6, hR1, hT1⟩ := X1.out
      obtain ⟨q30, q1, q2⟩ := Q1.out
      rw [List.length_drop] at q2
      rw [List.drop_drop] at hq6
      have hTT : Tch (fun j => j = g' ∨ j = s ∨ j = b) wr w1 := Tch.trans (Tch.of_below (below_drew (Below.refl _ _))) hT1
      have d2 : ∀ W : World, (Instr.slice 22 (.slice (some ⟨g', 0, none⟩) L C) none (some (.int .i64 ((L : Int) + (q : Int)))) none).run Tryd.prog W = .ok (.slice (some ⟨g', 0, none⟩) (L + q) C) W := by
        obtain ⟨i, hi, _, hsz, _⟩ := info_partsC infoB
        intro W
        have hel : Tryd.prog.elem 22 = 5 := by simp [Program.elem, Tryd.underlying22]
        have hu : Tryd.prog.underlying 22 = some (.slice (Tryd.prog.elem 22)) := by rw [hel]; exact Tryd.underlying22
        rw [run_slice_h W 22 (some ⟨g', 0, none⟩) L C hu .i64 ((L : Int) + (q : Int)) (by omega) (by omega), hel]
        have e1 : ((L : Int) + (q : Int)).toNat = L + q := by omega
        simp [sizeOf, typeInfo, hi, hsz, sliced, Result.andThen, e1, Addr.add]
      have wl : IntKind.i64.wrap ((L : Int) + (q : Int)) = (L : Int) + (q : Int) := IntWalk.i64_in _ (by omega)
      have I3 : (0 : Int) ≤ (L : Int) + (q : Int) := by omega
      have I4 : (L : Int) + (q : Int) ≤ (C : Int) := by omega
      have X2 := Aside0.mk (And.intro hq6 (And.intro hR1 hTT))
      clear hq6 hR1 hTT hT1 X1
      by_cases hf : (C : Int) / 16 ≤ (C : Int) - ((L : Int) + (q : Int))
      · go_wp2_with fail
        go_roundw
        case rel =>
          obtain ⟨hq6, hR1, hTT⟩ := X2.out
          have HI' := HI.out
          refine ⟨g', C, L + q, nx, fsz, AN, cN, xs.take L ++ ((bd.drop (fsz + L)).take q ++ xs.drop (L + q)), dats, rfl, rfl, rfl, rfl, ⟨?_⟩⟩
          refine { bdy := by rw [← Nat.add_assoc]; exact hq6, le := by omega, room := by omega, c256 := C256, nx1 := HI'.nx1, nx2 := HI'.nx2, cmax := CM, gw := HI'.gw, buf := hR1, now := now_step HI'.now (by omega), old := HI'.old, few := HI'.few, chk := Kd.N_step HI'.chk (fun k hk hlt => hTT.block k hlt (fun e => by have := HI'.gw; have := H0l.out.1; have := H0l.out.2.1; rcases e with e | e | e; exact hk.2 e; omega; omega)), tch := HI'.tch.step hTT (fun k e hk => by have := HI'.gw; rcases e with e | e | e; omega; exact .inl e; exact .inr e) }
        case measure => simp [intOf, lenV]; omega
      · have lxs : xs.length = C := (Kd.R_reads' HI.out.buf).1.symm
        obtain ⟨pc, epc⟩ : ∃ pc : List Int, (bd.drop fsz).take (L + q) = pc := ⟨_, rfl⟩
        have EPC := Aside0.mk epc
        have lpc : pc.length = L + q := by rw [← epc, List.length_take, List.length_drop]; have := LE.out; omega
        have R5 := short8 X2.out.2.1 (n := L + q) (by omega)
        rw [now_step HI.out.now (by omega), epc] at R5
        have FKP := Aside0.mk (Kd.FK_slice_mk (e := 5) (d := Kd.int .u8) (W := w1) (ok := fun j => j = g') (A := some ⟨g', 0, none⟩) (c := C) (l := pc) (by omega) (by rw [lpc]; exact Kd.R_F (Kd.R_mono (Kd.R_tight rfl R5) (ok' := fun j => j = g') (fun j e => by simp [Value.ownBlock] at e; exact e))))
        rw [lpc] at FKP
        have HN := Aside0.mk (Kd.N_mono (Kd.N_step HI.out.chk (fun k hk hlt => X2.out.2.2.block k hlt (fun e => by have := HI.out.gw; have := H0l.out.1; have := H0l.out.2.1; rcases e with e | e | e; exact hk.2 e; omega; omega))) (ok' := fun k => w.heap.size ≤ k) (fun k h => h.1))
        have NO := Aside0.mk (show ∀ k, (Value.slice AN dats.length cN).ownBlock = some k → k ≠ g' from fun k h => (HI.out.chk.1 k h).2)
        have SZ := Aside0.mk (show w.heap.size ≤ w1.heap.size ∧ dats.length ≤ 1000000000 ∧ nx ≤ 500000000 from ⟨Nat.le_trans HI.out.tch.size X2.out.2.2.size, by have := HI.out.few; have := LE.out; omega, by have := HI.out.nx2; have := LE.out; omega⟩)
        clear R5 lxs epc
        go_upto_region 22 with (fail)
        go_upto_region 23 with (((with_reducible refine gate_dst (N := 79) rfl ?_); go_loud (refine Kd.N_append (Kd.slice 5 (Kd.int .u8)) (w0 := w1) w.heap.size rfl (.tmp 76) (.tmp 78) 117 22 (.slice none 0 0) 24 rfl Tryd.underlying117 infoSS rfl (by decide) (by decide) _ dats pc [.slice (some ⟨g', 0, none⟩) (L + q) C] (fun j => w.heap.size ≤ j) (fun j => j = g') rfl rfl FKP.out ?hk ?hf HN.out (Below.refl _ _) ?hb ?hl ?_; (case hk => intro j e; subst e; exact ⟨HI.out.gw, fun e => NO.out _ e.symm rfl⟩); (case hf => intro j hj; exact Nat.le_trans SZ.out.1 hj); (case hb => exact SZ.out.1); (case hl => have := SZ.out.2.1; omega); intro v2 w2 hN hB hG hAt; have N2 := Aside0.mk hN; have B2 := Aside0.mk hB; have G2 := Aside0.mk (And.intro hG hAt); clear hN hB hG hAt)))
        obtain ⟨A2, cN2, e2, _, _⟩ := Kd.N_reads N2.out
        subst e2
        have wz : IntKind.i64.wrap ((fsz : Int) + ((L : Int) + (q : Int))) = (fsz : Int) + ((L : Int) + (q : Int)) := IntWalk.i64_in _ (by omega)
        go_upto_region 24 with (fail)
        have SZ2 := Aside0.mk (Nat.le_trans SZ.out.1 B2.out.size)
        go_upto_region 25 with (((with_reducible refine gate_dst (N := 85) rfl ?_); go_loud (refine growZ (w0 := w2) w.heap.size rfl rfl 22 3 5 (.const (.slice none 0 0)) (.tmp 84) rfl nx rfl rfl rfl ?h0 Tryd.underlying22 Tryd.underlying3 infoB ?hn (Below.refl _ _) ?hb ?_; (case h0 => have := HI.out.nx1; omega); (case hn => have := SZ.out.2.2; omega); (case hb => exact SZ2.out); intro g5 C5 w5 c1 c2 g1 g2 g3 hR hB hB'; have R5 := Aside0.mk hR; have B5 := Aside0.mk hB'; have G5 := Aside0.mk (And.intro g1 (And.intro g2 g3)); have CC := Aside0.mk (And.intro c1 c2); have c3 : (nx : Int) ≤ (C5 : Int) := (by omega); clear hR hB hB' g1 g2 g3)))
        have wn : IntKind.i64.wrap ((nx : Int) + (nx : Int) / 2) = (nx : Int) + (nx : Int) / 2 := IntWalk.i64_in _ (by have := SZ.out.2.2; omega)
        go_wp2_with fail
        go_roundw
        case rel =>
          have hG := Tch.of_grown G2.out.1
          have ob := HI.out.chk.1
          have HT5 : Tch (fun j => j = s ∨ j = b) w w5 := ((HI.out.tch.step X2.out.2.2 (fun k e hk => by have := HI.out.gw; rcases e with e | e | e; omega; exact .inl e; exact .inr e)).step hG (fun k e hk => by have := (ob k e).1; omega)).trans (Tch.of_below B5.out)
          have HB5 := (X2.out.1.kept hG (fun k e => by have := (ob k e).1; have := H0l.out.1; have := H0l.out.2.1; have := H0l.out.2.2; exact ⟨by omega, by omega, by omega⟩)).below B5.out
          have le := LE.out
          refine ⟨g5, C5, 0, nx + nx / 2, fsz + (L + q), A2, cN2, List.replicate C5 0, dats ++ [pc], rfl, by first | rfl | go_num, by rw [List.length_append]; rfl, by first | rfl | go_num, ⟨?_⟩⟩
          refine { bdy := by rw [Nat.add_zero, ← Nat.add_assoc]; exact HB5, le := by omega, room := by have := CC.out.1; have := HI.out.nx1; omega, c256 := by have := CC.out.1; have := HI.out.nx1; omega, nx1 := by have := HI.out.nx1; omega, nx2 := by have := CC.out.1; omega, cmax := CC.out.2, gw := G5.out.1, buf := R5.out, now := by simp, old := ?_, few := ?_, chk := ?_, tch := HT5 }
          · rw [List.flatten_append, HI.out.old, List.flatten_singleton, ← EPC.out, ← List.take_add]
          · rw [List.length_append, List.length_singleton]; have := HI.out.few; omega
          · have N2' := N2.out
            rw [List.length_append, List.length_singleton] at N2'
            exact Kd.N_below (Kd.N_mono (Kd.N_bound N2') (fun k hk => ⟨hk.1, by have := G5.out.2.1; omega⟩)) B5.out
        case measure => simp [intOf, lenV]; omega
    · have DL := Aside0.mk (show ¬ 0 < (bd.drop (fsz + L)).length by rw [List.length_drop]; omega)
      have fl : fsz + L = bd.length := by have := LE.out; omega
      by_cases hk : ok = true
      · subst hk
        have D0 := Aside0.mk (show (bd.drop (fsz + L)).length = 0 by rw [List.length_drop]; omega)
        go_wp2_with fail
        go_region_held3 (fun _ => True) (trivial) ((go_at_call 122; go_loud ((with_reducible refine (bdy_spn H1d.out E1d.out R1d.out (show L + (C - L) ≤ C by omega) (show 1 ≤ C - L by omega) (Nat.le_refl _) gs gd gb).mono ?_); rintro en w1 ⟨q, ok2, rest2, q1, q2, q3, q4, q5, q6, q7, q8⟩; rw [if_neg DL.out, if_pos rfl] at q5; subst q5; rw [D0.out] at q2; obtain rfl : q = 0 := (by omega); have X1 := Aside0.mk (And.intro ((q4 rfl).2.2 (List.eq_nil_of_length_eq_zero D0.out)) (And.intro q7 q8)); clear q6 q7 q8 q1 q2 q3 q4)))
        have hT1 := X1.out.2.2
        have HT9 : Aside0 (Tch (fun j => j = s ∨ j = b) w w1) := ⟨HI.out.tch.step (Tch.trans (Tch.of_below (below_drew (Below.refl _ _))) hT1) (fun k e hk => by have := HI.out.gw; rcases e with e | e | e; omega; exact .inl e; exact .inr e)⟩
        have E2 := E1d.out.kept hT1 (fun j q => by rcases q with q | q | q <;> subst q <;> assumption)
        have ee := eql_same aE
        have e0 := E2.e
        have nl := fun W : World => run_eql_iface_nil_left (P := Tryd.prog) W 206 (.pointer (some aE)) Tryd.underlying98
        by_cases hd : dats.length = 0
        · have I5 : (0 : Int) ≤ (L : Int) := by omega
          have L0 : ((L : Int) + 0) = (L : Int) := by omega
          have dn : dats = [] := List.eq_nil_of_length_eq_zero hd
          have hz : fsz = 0 := by
            have o := congrArg List.length HI.out.old
            rw [dn, List.length_take] at o
            simp at o
            have := LE.out; omega
          have R5 := short8 X1.out.2.1 (n := L + 0) (by omega)
          rw [now_step HI.out.now (by omega)] at R5
          have R6 := Aside0.mk R5
          have eL : L = bd.length := by omega
          clear R5 dn
          go_wp2_with fail
          go_ret2
          refine ⟨_, rfl, ?_, fun _ => X1.out.1, HT9.out⟩
          have r := R6.out
          rw [hz, List.drop_zero, Nat.add_zero, List.take_of_length_le (by omega), eL] at r
          exact r
        · have lo8 : ∀ k, (Value.slice AN dats.length cN).ownBlock = some k → w.heap.size ≤ k ∧ k ≠ g' := HI.out.chk.1
          have HN := Aside0.mk (Kd.N_bound (Kd.N_step HI.out.chk (fun k hk hlt => hT1.block k hlt (fun e => by have := HI.out.gw; have := H0l.out.1; have := H0l.out.2.1; rcases e with e | e | e; exact hk.2 e; omega; omega))))
          have R5 := short8 X1.out.2.1 (n := L + 0) (by omega)
          rw [now_step HI.out.now (by omega), Nat.add_zero] at R5
          have HB := Aside0.mk R5
          have dl : dats.length ≤ 1000000000 := by have := HI.out.few; omega
          have wf : IntKind.i64.wrap ((fsz : Int) + (L : Int)) = (fsz : Int) + (L : Int) := IntWalk.i64_in _ (by omega)
          have HS1 := Aside0.mk (show w.heap.size ≤ w1.heap.size from HT9.out.size)
          have GL := Aside0.mk (show g' < w1.heap.size from Kd.R_lt R5 g' rfl)
          clear R5 hT1
          go_upto_region 13 with (fail)
          go_upto_region 14 with (((with_reducible refine gate_dst (N := 50) rfl ?_); go_loud (refine growZ (w0 := w1) w1.heap.size rfl rfl 22 3 5 (.const (.slice none 0 0)) (.tmp 49) rfl (fsz + L) rfl rfl (by rw [Int.natCast_add]) ?h0 Tryd.underlying22 Tryd.underlying3 infoB ?hn (Below.refl _ _) (Nat.le_refl _) ?_; (case h0 => have := HI.out.few; omega); (case hn => omega); intro g5 C5 w5 c1 c2 g1 g2 g3 hR hB hB'; have R5 := Aside0.mk (short8 hR (n := 0) (Nat.zero_le _)); have B5 := Aside0.mk hB; have G5 := Aside0.mk (And.intro g1 g3); have c3 : (0 : Int) ≤ (C5 : Int) := (Int.natCast_nonneg _); clear hR hB hB' g1 g2 g3)))
          go_wp2_with fail
          go_loopw [10, 54] (fun fv iv wr => ∃ k : Nat, k ≤ dats.length ∧ iv = .int .i64 (k : Int) ∧ Aside0 (R8 5 wr w1.heap.size fv (dats.take k).flatten) ∧ Aside0 (Below w1.heap.size w1 wr)) (fun _ iv _ => dats.length - (intOf iv).toNat)
          case atStart =>
            refine ⟨0, Nat.zero_le _, rfl, ⟨?_⟩, B5⟩
            have r := R5.out
            rw [List.take_zero] at r
            exact r
          case round =>
            obtain ⟨k, hk, rfl, HF, HW⟩ := hrel
            by_cases hlt : k < dats.length
            · obtain ⟨ad, cs, rfl, _, hK, hcc, _⟩ := Kd.F_get (Kd.N_F (Kd.N_below HN.out HW.out)) [] (k : Int) (by omega) (by omega)
              obtain ⟨Ak, ck, rfl, hck, hFk⟩ := Kd.FK_slice_open hK
              have hx := hcc 0 _ rfl
              have ez : (k : Int).toNat * (Kd.slice 5 (Kd.int .u8)).sz + 0 = k := by show (k : Int).toNat * 1 + 0 = k; omega
              rw [ez] at hx
              rw [Int.toNat_natCast] at hx hFk
              obtain ⟨fs1, fs2⟩ := flat_step dats k hlt
              obtain ⟨l, el⟩ : ∃ l, dats.getD k [] = l := ⟨_, rfl⟩
              rw [el] at hx hFk fs1 fs2
              have FC := Aside0.mk (Kd.F_now hFk)
              have ol := HI.out.old
              have FS := Aside0.mk (show (dats.take (k + 1)).flatten = (dats.take k).flatten ++ l ∧ (dats.take k).flatten.length + l.length ≤ 140737488355328 from ⟨fs1, by rw [ol, List.length_take] at fs2; omega⟩)
              clear hK hcc hFk hck el ez fs1 fs2 ol
              go_upto_region 17 with (fail)
              go_upto_region 18 with (((with_reducible refine gate_dst (N := 60) rfl ?_); go_loud (refine append8 (w0 := w1) w1.heap.size rfl (.tmp 58) (.tmp 59) 22 5 rfl Tryd.underlying22 infoB _ (dats.take k).flatten l Ak ck rfl rfl rfl HF.out FC.out HW.out ?hb FS.out.2 ?_; (case hb => exact HW.out.size); intro v1 w2 hR hB _ _; have R9 := Aside0.mk hR; have B9 := Aside0.mk hB; clear hR hB)))
              go_wp2_with fail
              go_roundw
              case rel =>
                refine ⟨k + 1, hlt, by first | rfl | go_num, ⟨?_⟩, B9⟩
                rw [FS.out.1]
                exact R9.out
              case measure => simp [intOf]; omega
            · obtain rfl : k = dats.length := by omega
              have lz : L = ((bd.drop fsz).take L).length := by rw [List.length_take, List.length_drop]; omega
              have BC := Aside0.mk (Kd.R_reads' (Kd.R_below HB.out HW.out)).2.2
              have HF2 := HF.out
              rw [List.take_length, HI.out.old] at HF2
              have HF3 := Aside0.mk HF2
              have ZZ := Aside0.mk (show (bd.take fsz).length + ((bd.drop fsz).take L).length ≤ 140737488355328 by rw [← lz, List.length_take]; omega)
              have LZ := Aside0.mk lz
              clear HF2 lz
              go_upto_region 19 with (fail)
              go_upto_region 20 with (((with_reducible refine gate_dst (N := 64) rfl ?_); go_loud (refine append8 (w0 := w1) w1.heap.size rfl (.tmp 62) (.tmp 63) 22 5 rfl Tryd.underlying22 infoB _ (bd.take fsz) ((bd.drop fsz).take L) (some ⟨g', 0, none⟩) C rfl rfl LZ.out HF3.out BC.out HW.out ?hb ZZ.out ?_; (case hb => exact HW.out.size); intro v1 w2 hR hB _ _; have R9 := Aside0.mk hR; have B9 := Aside0.mk hB; clear hR hB)))
              go_wp2_with fail
              go_ret2
              refine ⟨_, rfl, ?_, fun _ => ?_, HT9.out.trans (Tch.of_below B9.out)⟩
              · have r := R9.out
                have e1 : bd.take fsz ++ (bd.drop fsz).take L = bd := by rw [List.take_of_length_le (l := bd.drop fsz) (by rw [List.length_drop]; omega), List.take_append_drop]
                rw [e1] at r
                exact Kd.R_lower r HS1.out
              · obtain ⟨A, c, hs⟩ := X1.out.1
                exact ⟨A, c, hs.below B9.out⟩
      · obtain rfl : ok = false := by cases ok; rfl; exact absurd rfl hk
        have D0 := Aside0.mk (show (bd.drop (fsz + L)).length = 0 by rw [List.length_drop]; omega)
        go_wp2_with fail
        go_region_held3 (fun _ => True) (trivial) ((go_at_call 122; go_loud ((with_reducible refine (bdy_spn H1d.out E1d.out R1d.out (show L + (C - L) ≤ C by omega) (show 1 ≤ C - L by omega) (Nat.le_refl _) gs gd gb).mono ?_); rintro en w1 ⟨q, ok2, rest2, q1, q2, q3, q4, q5, q6, q7, q8⟩; rw [if_neg DL.out, if_neg (by simp)] at q5; subst q5; rw [D0.out] at q2; obtain rfl : q = 0 := (by omega); have X1 := Aside0.mk (And.intro True.intro (And.intro q7 q8)); clear q6 q7 q8 q1 q2 q3 q4)))
        have hT1 := X1.out.2.2
        have HT9 : Aside0 (Tch (fun j => j = s ∨ j = b) w w1) := ⟨HI.out.tch.step (Tch.trans (Tch.of_below (below_drew (Below.refl _ _))) hT1) (fun k e hk => by have := HI.out.gw; rcases e with e | e | e; omega; exact .inl e; exact .inr e)⟩
        have E2 := E1d.out.kept hT1 (fun j q => by rcases q with q | q | q <;> subst q <;> assumption)
        have e0 := E2.e
        have u0 := E2.u
        have eo := eql_other (w := w1) (Ne.symm E2.ne) E2.hu E2.he
        by_cases hd : dats.length = 0
        · have I5 : (0 : Int) ≤ (L : Int) := by omega
          have L0 : ((L : Int) + 0) = (L : Int) := by omega
          have dn : dats = [] := List.eq_nil_of_length_eq_zero hd
          have hz : fsz = 0 := by
            have o := congrArg List.length HI.out.old
            rw [dn, List.length_take] at o
            simp at o
            have := LE.out; omega
          have R5 := short8 X1.out.2.1 (n := L + 0) (by omega)
          rw [now_step HI.out.now (by omega)] at R5
          have R6 := Aside0.mk R5
          have eL : L = bd.length := by omega
          clear R5 dn
          go_wp2_with fail
          go_ret2
          refine ⟨_, rfl, ?_, fun h => absurd h (by simp), HT9.out⟩
          have r := R6.out
          rw [hz, List.drop_zero, Nat.add_zero, List.take_of_length_le (by omega), eL] at r
          exact r
        · have lo8 : ∀ k, (Value.slice AN dats.length cN).ownBlock = some k → w.heap.size ≤ k ∧ k ≠ g' := HI.out.chk.1
          have HN := Aside0.mk (Kd.N_bound (Kd.N_step HI.out.chk (fun k hk hlt => hT1.block k hlt (fun e => by have := HI.out.gw; have := H0l.out.1; have := H0l.out.2.1; rcases e with e | e | e; exact hk.2 e; omega; omega))))
          have R5 := short8 X1.out.2.1 (n := L + 0) (by omega)
          rw [now_step HI.out.now (by omega), Nat.add_zero] at R5
          have HB := Aside0.mk R5
          have dl : dats.length ≤ 1000000000 := by have := HI.out.few; omega
          have wf : IntKind.i64.wrap ((fsz : Int) + (L : Int)) = (fsz : Int) + (L : Int) := IntWalk.i64_in _ (by omega)
          have HS1 := Aside0.mk (show w.heap.size ≤ w1.heap.size from HT9.out.size)
          have GL := Aside0.mk (show g' < w1.heap.size from Kd.R_lt R5 g' rfl)
          clear R5 hT1
          go_upto_region 13 with (fail)
          go_upto_region 14 with (((with_reducible refine gate_dst (N := 50) rfl ?_); go_loud (refine growZ (w0 := w1) w1.heap.size rfl rfl 22 3 5 (.const (.slice none 0 0)) (.tmp 49) rfl (fsz + L) rfl rfl (by rw [Int.natCast_add]) ?h0 Tryd.underlying22 Tryd.underlying3 infoB ?hn (Below.refl _ _) (Nat.le_refl _) ?_; (case h0 => have := HI.out.few; omega); (case hn => omega); intro g5 C5 w5 c1 c2 g1 g2 g3 hR hB hB'; have R5 := Aside0.mk (short8 hR (n := 0) (Nat.zero_le _)); have B5 := Aside0.mk hB; have G5 := Aside0.mk (And.intro g1 g3); have c3 : (0 : Int) ≤ (C5 : Int) := (Int.natCast_nonneg _); clear hR hB hB' g1 g2 g3)))
          go_wp2_with fail
          go_loopw [10, 54] (fun fv iv wr => ∃ k : Nat, k ≤ dats.length ∧ iv = .int .i64 (k : Int) ∧ Aside0 (R8 5 wr w1.heap.size fv (dats.take k).flatten) ∧ Aside0 (Below w1.heap.size w1 wr)) (fun _ iv _ => dats.length - (intOf iv).toNat)
          case atStart =>
            refine ⟨0, Nat.zero_le _, rfl, ⟨?_⟩, B5⟩
            have r := R5.out
            rw [List.take_zero] at r
            exact r
          case round =>
            obtain ⟨k, hk, rfl, HF, HW⟩ := hrel
            by_cases hlt : k < dats.length
            · obtain ⟨ad, cs, rfl, _, hK, hcc, _⟩ := Kd.F_get (Kd.N_F (Kd.N_below HN.out HW.out)) [] (k : Int) (by omega) (by omega)
              obtain ⟨Ak, ck, rfl, hck, hFk⟩ := Kd.FK_slice_open hK
              have hx := hcc 0 _ rfl
              have ez : (k : Int).toNat * (Kd.slice 5 (Kd.int .u8)).sz + 0 = k := by show (k : Int).toNat * 1 + 0 = k; omega
              rw [ez] at hx
              rw [Int.toNat_natCast] at hx hFk
              obtain ⟨fs1, fs2⟩ := flat_step dats k hlt
              obtain ⟨l, el⟩ : ∃ l, dats.getD k [] = l := ⟨_, rfl⟩
              rw [el] at hx hFk fs1 fs2
              have FC := Aside0.mk (Kd.F_now hFk)
              have ol := HI.out.old
              have FS := Aside0.mk (show (dats.take (k + 1)).flatten = (dats.take k).flatten ++ l ∧ (dats.take k).flatten.length + l.length ≤ 140737488355328 from ⟨fs1, by rw [ol, List.length_take] at fs2; omega⟩)
              clear hK hcc hFk hck el ez fs1 fs2 ol
              go_upto_region 17 with (fail)
              go_upto_region 18 with (((with_reducible refine gate_dst (N := 60) rfl ?_); go_loud (refine append8 (w0 := w1) w1.heap.size rfl (.tmp 58) (.tmp 59) 22 5 rfl Tryd.underlying22 infoB _ (dats.take k).flatten l Ak ck rfl rfl rfl HF.out FC.out HW.out ?hb FS.out.2 ?_; (case hb => exact HW.out.size); intro v1 w2 hR hB _ _; have R9 := Aside0.mk hR; have B9 := Aside0.mk hB; clear hR hB)))
              go_wp2_with fail
              go_roundw
              case rel =>
                refine ⟨k + 1, hlt, by first | rfl | go_num, ⟨?_⟩, B9⟩
                rw [FS.out.1]
                exact R9.out
              case measure => simp [intOf]; omega
            · obtain rfl : k = dats.length := by omega
              have lz : L = ((bd.drop fsz).take L).length := by rw [List.length_take, List.length_drop]; omega
              have BC := Aside0.mk (Kd.R_reads' (Kd.R_below HB.out HW.out)).2.2
              have HF2 := HF.out
              rw [List.take_length, HI.out.old] at HF2
              have HF3 := Aside0.mk HF2
              have ZZ := Aside0.mk (show (bd.take fsz).length + ((bd.drop fsz).take L).length ≤ 140737488355328 by rw [← lz, List.length_take]; omega)
              have LZ := Aside0.mk lz
              clear HF2 lz
              go_upto_region 19 with (fail)
              go_upto_region 20 with (((with_reducible refine gate_dst (N := 64) rfl ?_); go_loud (refine append8 (w0 := w1) w1.heap.size rfl (.tmp 62) (.tmp 63) 22 5 rfl Tryd.underlying22 infoB _ (bd.take fsz) ((bd.drop fsz).take L) (some ⟨g', 0, none⟩) C rfl rfl LZ.out HF3.out BC.out HW.out ?hb ZZ.out ?_; (case hb => exact HW.out.size); intro v1 w2 hR hB _ _; have R9 := Aside0.mk hR; have B9 := Aside0.mk hB; clear hR hB)))
              go_wp2_with fail
              go_ret2
              refine ⟨_, rfl, ?_, fun h => absurd h (by simp), HT9.out.trans (Tch.of_below B9.out)⟩
              · have r := R9.out
                have e1 : bd.take fsz ++ (bd.drop fsz).take L = bd := by rw [List.take_of_length_le (l := bd.drop fsz) (by rw [List.length_drop]; omega), List.take_append_drop]
                rw [e1] at r
                exact Kd.R_lower r HS1.out
end Go.Proofs.YtfhefoaieefnkaaDoor.Rd

/- io.ReadAll over a source's parts. -/
set_option linter.unusedVariables false
set_option linter.unusedSimpArgs false
namespace Go.Proofs.YtfhefoaieefnkaaDoor.Rd
open Go.RowKit Go.Proofs.YtfhefoaieefnkaaDoorW.PrintWords Go.Proofs.YtfhefoaieefnkaaDoorW.PrintMore Go.Proofs.YtfhefoaieefnkaaDoor.Kit

set_option maxHeartbeats 1600000 in
set_option maxRecDepth 100000 in
theorem rall_prt {w : World} {d s b : Nat} {split : Int} {bd rest : List Int} {ok : Bool} {aE aU : Addr} (h : Bdy w d s b split (.iface 200 (.pointer (some ⟨b, 0, none⟩))) bd ok rest) (hE : Env w d aE aU) (hbl : bd.length ≤ 100000000) :
    Calls Tryd.prog 86 #[(.iface 200 (.pointer (some ⟨b, 0, none⟩)))] w (RallOut w d s b split ok rest aU bd) := by
  have H0 := Aside0.mk h
  have HE := Aside0.mk hE
  have H0l := Aside0.mk (And.intro h.lts (And.intro h.ltb (Nat.le_of_lt (Nat.lt_of_le_of_lt h.ds h.lts))))
  have ds := h.ds
  have db := h.db
  clear h hE
  go_enter Tryd.func86, Tryd.ntmps86
  go_wp2_with (first | ((with_reducible refine gate_dst (N := 13) rfl ?_); refine makeC (w0 := w) w.heap.size rfl rfl 22 5 (.const (.int .i64 0)) (.const (.int .i64 512)) rfl 512 rfl rfl rfl Tryd.underlying22 infoB (by decide) (Below.refl _ _) (Nat.le_refl _) ?_; intro g w1 g1 g2 g3 hR hB hB'; have R1 := Aside0.mk hR; have B1 := Aside0.mk hB; have G1 := Aside0.mk (And.intro g1 g3); clear hR hB hB' g1 g2 g3) | ((with_reducible refine gate_dst (N := 14) rfl ?_); refine makeN0 (Kd.slice 5 (Kd.int .u8)) (ok := fun k => w.heap.size ≤ k ∧ k ≠ g) (w0 := w) w.heap.size rfl rfl 117 22 (.const (.int .i64 0)) (.const (.int .i64 4)) rfl 4 rfl rfl rfl Tryd.underlying117 infoSS rfl (by decide) (by decide) ?hok B1.out ?hb ?_; (case hok => exact ⟨B1.out.size, fun e => by have := G1.out.2; omega⟩); (case hb => exact B1.out.size); intro gN w2 q1 q2 q3 hN hB hB'; have N2 := Aside0.mk hN; have R2 := Aside0.mk (Kd.R_below R1.out hB'); have B2 := Aside0.mk hB; have G2 := Aside0.mk (And.intro q1 q3); clear hN hB hB' q1 q2 q3))
  go_loopw [4, 5, 6, 7] (fun bv nv cv fv wr => ∃ (g C L nx fsz : Nat) (AN : Option Addr) (cN : Nat) (xs : List Int) (dats : List (List Int)), bv = .slice (some ⟨g, 0, none⟩) L C ∧ nv = .int .i64 (nx : Int) ∧ cv = .slice AN dats.length cN ∧ fv = .int .i64 (fsz : Int) ∧ Aside0 (RInv w d s b split (.iface 200 (.pointer (some ⟨b, 0, none⟩))) bd ok rest wr g C L nx fsz cv xs dats)) (fun bv _ _ fv _ => bd.length - (lenV bv + (intOf fv).toNat))
  case atStart =>
    refine ⟨g, 512, 0, 256, 0, some ⟨gN, 0, none⟩, 4, List.replicate 512 0, [], rfl, rfl, rfl, rfl, ⟨?_⟩⟩
    exact { bdy := H0.out.below B2.out, le := by omega, room := by decide, c256 := by decide, nx1 := by decide, nx2 := by decide, cmax := by decide, gw := G1.out.1, buf := R2.out, now := by simp, old := by simp, few := by simp, chk := N2.out, tch := Tch.of_below B2.out }
  case round =>
    clear H0 R1 R2 B1 B2 G1 G2 N2
    obtain ⟨g', C, L, nx, fsz, AN, cN, xs, dats, rfl, rfl, rfl, rfl, HI⟩ := hrel
    have HI' := HI.out
    have LC := HI'.room
    have C256 := HI'.c256
    have CM := HI'.cmax
    have lg := Kd.R_lt HI'.buf g' rfl
    have gs : g' ≠ s := fun e => by have := H0l.out.1; have := HI'.gw; omega
    have gb : g' ≠ b := fun e => by have := H0l.out.2.1; have := HI'.gw; omega
    have gd : d ≤ g' := by have := H0l.out.2.2; have := HI'.gw; omega
    have d1 : ∀ W : World, (Instr.slice 22 (.slice (some ⟨g', 0, none⟩) L C) (some (.int .i64 (L : Int))) (some (.int .i64 (C : Int))) none).run Tryd.prog W = .ok (.slice (some ⟨g', L, none⟩) (C - L) (C - L)) W := by
      obtain ⟨i, hi, _, hsz, _⟩ := info_partsC infoB
      intro W
      have hel : Tryd.prog.elem 22 = 5 := by simp [Program.elem, Tryd.underlying22]
      have hu : Tryd.prog.underlying 22 = some (.slice (Tryd.prog.elem 22)) := by rw [hel]; exact Tryd.underlying22
      have cl : ¬ C = L := by omega
      rw [run_slice_lh W 22 (some ⟨g', 0, none⟩) L C hu .i64 .i64 (L : Int) (C : Int) (Int.natCast_nonneg _) (by omega) (by omega), hel]
      simp [sizeOf, typeInfo, hi, hsz, sliced, Result.andThen, cl, Addr.add]
      omega
    have HE1 := Aside0.mk (HE.out.kept HI'.tch (fun j q => by rcases q with q | q <;> subst q <;> assumption))
    have H1d := Aside0.mk (HI'.bdy.below (below_drew (Below.refl _ _)))
    have R1d := Aside0.mk (Kd.R_drew HI'.buf)
    have E1d := Aside0.mk (HE1.out.below (below_drew (Below.refl _ _)))
    have I1 : (L : Int) ≤ (C : Int) := by omega
    have I2 : (0 : Int) ≤ (L : Int) := by omega
    have ni := nil_read_prt b
    have LE := Aside0.mk HI'.le
    clear HI'
    by_cases hne : fsz + L < bd.length
    · have DL := Aside0.mk (show 0 < (bd.drop (fsz + L)).length by rw [List.length_drop]; omega)
      go_wp2_with fail
      go_region_held3 (fun _ => True) (trivial) ((go_at_call 123; go_loud ((with_reducible refine (bdy_prt H1d.out E1d.out R1d.out (show L + (C - L) ≤ C by omega) (show 1 ≤ C - L by omega) (Nat.le_refl _) gs gd gb).mono ?_); rintro en w1 ⟨q, ok2, rest2, q1, q2, q3, q4, q5, q6, q7, q8⟩; rw [if_pos DL.out] at q5; subst q5; obtain ⟨q30, rfl, rfl⟩ := q3 DL.out; have X1 := Aside0.mk (And.intro q6 (And.intro q7 q8)); have Q1 := Aside0.mk (And.intro q30 (And.intro q1 q2)); clear q6 q7 q8 q1 q2 q3 q4 q30)))
      obtain ⟨hq6, hR1, hT1⟩ := X1.out
      obtain ⟨q30, q1, q2⟩ := Q1.out
      rw [List.length_drop] at q2
      rw [List.drop_drop] at hq6
      have hTT : Tch (fun j => j = g' ∨ j = s ∨ j = b) wr w1 := Tch.trans (Tch.of_below (below_drew (Below.refl _ _))) hT1
      have d2 : ∀ W : World, (Instr.slice 22 (.slice (some ⟨g', 0, none⟩) L C) none (some (.int .i64 ((L : Int) + (q : Int)))) none).run Tryd.prog W = .ok (.slice (some ⟨g', 0, none⟩) (L + q) C) W := by
        obtain ⟨i, hi, _, hsz, _⟩ := info_partsC infoB
        intro W
        have hel : Tryd.prog.elem 22 = 5 := by simp [Program.elem, Tryd.underlying22]
        have hu : Tryd.prog.underlying 22 = some (.slice (Tryd.prog.elem 22)) := by rw [hel]; exact Tryd.underlying22
        rw [run_slice_h W 22 (some ⟨g', 0, none⟩) L C hu .i64 ((L : Int) + (q : Int)) (by omega) (by omega), hel]
        have e1 : ((L : Int) + (q : Int)).toNat = L + q := by omega
        simp [sizeOf, typeInfo, hi, hsz, sliced, Result.andThen, e1, Addr.add]
      have wl : IntKind.i64.wrap ((L : Int) + (q : Int)) = (L : Int) + (q : Int) := IntWalk.i64_in _ (by omega)
      have I3 : (0 : Int) ≤ (L : Int) + (q : Int) := by omega
      have I4 : (L : Int) + (q : Int) ≤ (C : Int) := by omega
      have X2 := Aside0.mk (And.intro hq6 (And.intro hR1 hTT))
      clear hq6 hR1 hTT hT1 X1
      by_cases hf : (C : Int) / 16 ≤ (C : Int) - ((L : Int) + (q : Int))
      · go_wp2_with fail
        go_roundw
        case rel =>
          obtain ⟨hq6, hR1, hTT⟩ := X2.out
          have HI' := HI.out
          refine ⟨g', C, L + q, nx, fsz, AN, cN, xs.take L ++ ((bd.drop (fsz + L)).take q ++ xs.drop (L + q)), dats, rfl, rfl, rfl, rfl, ⟨?_⟩⟩
          refine { bdy := by rw [← Nat.add_assoc]; exact hq6, le := by omega, room := by omega, c256 := C256, nx1 := HI'.nx1, nx2 := HI'.nx2, cmax := CM, gw := HI'.gw, buf := hR1, now := now_step HI'.now (by omega), old := HI'.old, few := HI'.few, chk := Kd.N_step HI'.chk (fun k hk hlt => hTT.block k hlt (fun e => by have := HI'.gw; have := H0l.out.1; have := H0l.out.2.1; rcases e with e | e | e; exact hk.2 e; omega; omega)), tch := HI'.tch.step hTT (fun k e hk => by have := HI'.gw; rcases e with e | e | e; omega; exact .inl e; exact .inr e) }
        case measure => simp [intOf, lenV]; omega
      · have lxs : xs.length = C := (Kd.R_reads' HI.out.buf).1.symm
        obtain ⟨pc, epc⟩ : ∃ pc : List Int, (bd.drop fsz).take (L + q) = pc := ⟨_, rfl⟩
        have EPC := Aside0.mk epc
        have lpc : pc.length = L + q := by rw [← epc, List.length_take, List.length_drop]; have := LE.out; omega
        have R5 := short8 X2.out.2.1 (n := L + q) (by omega)
        rw [now_step HI.out.now (by omega), epc] at R5
        have FKP := Aside0.mk (Kd.FK_slice_mk (e := 5) (d := Kd.int .u8) (W := w1) (ok := fun j => j = g') (A := some ⟨g', 0, none⟩) (c := C) (l := pc) (by omega) (by rw [lpc]; exact Kd.R_F (Kd.R_mono (Kd.R_tight rfl R5) (ok' := fun j => j = g') (fun j e => by simp [Value.ownBlock] at e; exact e))))
        rw [lpc] at FKP
        have HN := Aside0.mk (Kd.N_mono (Kd.N_step HI.out.chk (fun k hk hlt => X2.out.2.2.block k hlt (fun e => by have := HI.out.gw; have := H0l.out.1; have := H0l.out.2.1; rcases e with e | e | e; exact hk.2 e; omega; omega))) (ok' := fun k => w.heap.size ≤ k) (fun k h => h.1))
        have NO := Aside0.mk (show ∀ k, (Value.slice AN dats.length cN).ownBlock = some k → k ≠ g' from fun k h => (HI.out.chk.1 k h).2)
        have SZ := Aside0.mk (show w.heap.size ≤ w1.heap.size ∧ dats.length ≤ 1000000000 ∧ nx ≤ 500000000 from ⟨Nat.le_trans HI.out.tch.size X2.out.2.2.size, by have := HI.out.few; have := LE.out; omega, by have := HI.out.nx2; have := LE.out; omega⟩)
        clear R5 lxs epc
        go_upto_region 22 with (fail)
        go_upto_region 23 with (((with_reducible refine gate_dst (N := 79) rfl ?_); go_loud (refine Kd.N_append (Kd.slice 5 (Kd.int .u8)) (w0 := w1) w.heap.size rfl (.tmp 76) (.tmp 78) 117 22 (.slice none 0 0) 24 rfl Tryd.underlying117 infoSS rfl (by decide) (by decide) _ dats pc [.slice (some ⟨g', 0, none⟩) (L + q) C] (fun j => w.heap.size ≤ j) (fun j => j = g') rfl rfl FKP.out ?hk ?hf HN.out (Below.refl _ _) ?hb ?hl ?_; (case hk => intro j e; subst e; exact ⟨HI.out.gw, fun e => NO.out _ e.symm rfl⟩); (case hf => intro j hj; exact Nat.le_trans SZ.out.1 hj); (case hb => exact SZ.out.1); (case hl => have := SZ.out.2.1; omega); intro v2 w2 hN hB hG hAt; have N2 := Aside0.mk hN; have B2 := Aside0.mk hB; have G2 := Aside0.mk (And.intro hG hAt); clear hN hB hG hAt)))
        obtain ⟨A2, cN2, e2, _, _⟩ := Kd.N_reads N2.out
        subst e2
        have wz : IntKind.i64.wrap ((fsz : Int) + ((L : Int) + (q : Int))) = (fsz : Int) + ((L : Int) + (q : Int)) := IntWalk.i64_in _ (by omega)
        go_upto_region 24 with (fail)
        have SZ2 := Aside0.mk (Nat.le_trans SZ.out.1 B2.out.size)
        go_upto_region 25 with (((with_reducible refine gate_dst (N := 85) rfl ?_); go_loud (refine growZ (w0 := w2) w.heap.size rfl rfl 22 3 5 (.const (.slice none 0 0)) (.tmp 84) rfl nx rfl rfl rfl ?h0 Tryd.underlying22 Tryd.underlying3 infoB ?hn (Below.refl _ _) ?hb ?_; (case h0 => have := HI.out.nx1; omega); (case hn => have := SZ.out.2.2; omega); (case hb => exact SZ2.out); intro g5 C5 w5 c1 c2 g1 g2 g3 hR hB hB'; have R5 := Aside0.mk hR; have B5 := Aside0.mk hB'; have G5 := Aside0.mk (And.intro g1 (And.intro g2 g3)); have CC := Aside0.mk (And.intro c1 c2); have c3 : (nx : Int) ≤ (C5 : Int) := (by omega); clear hR hB hB' g1 g2 g3)))
        have wn : IntKind.i64.wrap ((nx : Int) + (nx : Int) / 2) = (nx : Int) + (nx : Int) / 2 := IntWalk.i64_in _ (by have := SZ.out.2.2; omega)
        go_wp2_with fail
        go_roundw
        case rel =>
          have hG := Tch.of_grown G2.out.1
          have ob := HI.out.chk.1
          have HT5 : Tch (fun j => j = s ∨ j = b) w w5 := ((HI.out.tch.step X2.out.2.2 (fun k e hk => by have := HI.out.gw; rcases e with e | e | e; omega; exact .inl e; exact .inr e)).step hG (fun k e hk => by have := (ob k e).1; omega)).trans (Tch.of_below B5.out)
          have HB5 := (X2.out.1.kept hG (fun k e => by have := (ob k e).1; have := H0l.out.1; have := H0l.out.2.1; have := H0l.out.2.2; exact ⟨by omega, by omega, by omega⟩)).below B5.out
          have le := LE.out
          refine ⟨g5, C5, 0, nx + nx / 2, fsz + (L + q), A2, cN2, List.replicate C5 0, dats ++ [pc], rfl, by first | rfl | go_num, by rw [List.length_append]; rfl, by first | rfl | go_num, ⟨?_⟩⟩
          refine { bdy := by rw [Nat.add_zero, ← Nat.add_assoc]; exact HB5, le := by omega, room := by have := CC.out.1; have := HI.out.nx1; omega, c256 := by have := CC.out.1; have := HI.out.nx1; omega, nx1 := by have := HI.out.nx1; omega, nx2 := by have := CC.out.1; omega, cmax := CC.out.2, gw := G5.out.1, buf := R5.out, now := by simp, old := ?_, few := ?_, chk := ?_, tch := HT5 }
          · rw [List.flatten_append, HI.out.old, List.flatten_singleton, ← EPC.out, ← List.take_add]
          · rw [List.length_append, List.length_singleton]; have := HI.out.few; omega
          · have N2' := N2.out
            rw [List.length_append, List.length_singleton] at N2'
            exact Kd.N_below (Kd.N_mono (Kd.N_bound N2') (fun k hk => ⟨hk.1, by have := G5.out.2.1; omega⟩)) B5.out
        case measure => simp [intOf, lenV]; omega
    · have DL := Aside0.mk (show ¬ 0 < (bd.drop (fsz + L)).length by rw [List.length_drop]; omega)
      have fl : fsz + L = bd.length := by have := LE.out; omega
      by_cases hk : ok = true
      · subst hk
        have D0 := Aside0.mk (show (bd.drop (fsz + L)).length = 0 by rw [List.length_drop]; omega)
        go_wp2_with fail
        go_region_held3 (fun _ => True) (trivial) ((go_at_call 123; go_loud ((with_reducible refine (bdy_prt H1d.out E1d.out R1d.out (show L + (C - L) ≤ C by omega) (show 1 ≤ C - L by omega) (Nat.le_refl _) gs gd gb).mono ?_); rintro en w1 ⟨q, ok2, rest2, q1, q2, q3, q4, q5, q6, q7, q8⟩; rw [if_neg DL.out, if_pos rfl] at q5; subst q5; rw [D0.out] at q2; obtain rfl : q = 0 := (by omega); have X1 := Aside0.mk (And.intro ((q4 rfl).2.2 (List.eq_nil_of_length_eq_zero D0.out)) (And.intro q7 q8)); clear q6 q7 q8 q1 q2 q3 q4)))
        have hT1 := X1.out.2.2
        have HT9 : Aside0 (Tch (fun j => j = s ∨ j = b) w w1) := ⟨HI.out.tch.step (Tch.trans (Tch.of_below (below_drew (Below.refl _ _))) hT1) (fun k e hk => by have := HI.out.gw; rcases e with e | e | e; omega; exact .inl e; exact .inr e)⟩
        have E2 := E1d.out.kept hT1 (fun j q => by rcases q with q | q | q <;> subst q <;> assumption)
        have ee := eql_same aE
        have e0 := E2.e
        have nl := fun W : World => run_eql_iface_nil_left (P := Tryd.prog) W 206 (.pointer (some aE)) Tryd.underlying98
        by_cases hd : dats.length = 0
        · have I5 : (0 : Int) ≤ (L : Int) := by omega
          have L0 : ((L : Int) + 0) = (L : Int) := by omega
          have dn : dats = [] := List.eq_nil_of_length_eq_zero hd
          have hz : fsz = 0 := by
            have o := congrArg List.length HI.out.old
            rw [dn, List.length_take] at o
            simp at o
            have := LE.out; omega
          have R5 := short8 X1.out.2.1 (n := L + 0) (by omega)
          rw [now_step HI.out.now (by omega)] at R5
          have R6 := Aside0.mk R5
          have eL : L = bd.length := by omega
          clear R5 dn
          go_wp2_with fail
          go_ret2
          refine ⟨_, rfl, ?_, fun _ => X1.out.1, HT9.out⟩
          have r := R6.out
          rw [hz, List.drop_zero, Nat.add_zero, List.take_of_length_le (by omega), eL] at r
          exact r
        · have lo8 : ∀ k, (Value.slice AN dats.length cN).ownBlock = some k → w.heap.size ≤ k ∧ k ≠ g' := HI.out.chk.1
          have HN := Aside0.mk (Kd.N_bound (Kd.N_step HI.out.chk (fun k hk hlt => hT1.block k hlt (fun e => by have := HI.out.gw; have := H0l.out.1; have := H0l.out.2.1; rcases e with e | e | e; exact hk.2 e; omega; omega))))
          have R5 := short8 X1.out.2.1 (n := L + 0) (by omega)
          rw [now_step HI.out.now (by omega), Nat.add_zero] at R5
          have HB := Aside0.mk R5
          have dl : dats.length ≤ 1000000000 := by have := HI.out.few; omega
          have wf : IntKind.i64.wrap ((fsz : Int) + (L : Int)) = (fsz : Int) + (L : Int) := IntWalk.i64_in _ (by omega)
          have HS1 := Aside0.mk (show w.heap.size ≤ w1.heap.size from HT9.out.size)
          have GL := Aside0.mk (show g' < w1.heap.size from Kd.R_lt R5 g' rfl)
          clear R5 hT1
          go_upto_region 13 with (fail)
          go_upto_region 14 with (((with_reducible refine gate_dst (N := 50) rfl ?_); go_loud (refine growZ (w0 := w1) w1.heap.size rfl rfl 22 3 5 (.const (.slice none 0 0)) (.tmp 49) rfl (fsz + L) rfl rfl (by rw [Int.natCast_add]) ?h0 Tryd.underlying22 Tryd.underlying3 infoB ?hn (Below.refl _ _) (Nat.le_refl _) ?_; (case h0 => have := HI.out.few; omega); (case hn => omega); intro g5 C5 w5 c1 c2 g1 g2 g3 hR hB hB'; have R5 := Aside0.mk (short8 hR (n := 0) (Nat.zero_le _)); have B5 := Aside0.mk hB; have G5 := Aside0.mk (And.intro g1 g3); have c3 : (0 : Int) ≤ (C5 : Int) := (Int.natCast_nonneg _); clear hR hB hB' g1 g2 g3)))
          go_wp2_with fail
          go_loopw [10, 54] (fun fv iv wr => ∃ k : Nat, k ≤ dats.length ∧ iv = .int .i64 (k : Int) ∧ Aside0 (R8 5 wr w1.heap.size fv (dats.take k).flatten) ∧ Aside0 (Below w1.heap.size w1 wr)) (fun _ iv _ => dats.length - (intOf iv).toNat)
          case atStart =>
            refine ⟨0, Nat.zero_le _, rfl, ⟨?_⟩, B5⟩
            have r := R5.out
            rw [List.take_zero] at r
            exact r
          case round =>
            obtain ⟨k, hk, rfl, HF, HW⟩ := hrel
            by_cases hlt : k < dats.length
            · obtain ⟨ad, cs, rfl, _, hK, hcc, _⟩ := Kd.F_get (Kd.N_F (Kd.N_below HN.out HW.out)) [] (k : Int) (by omega) (by omega)
              obtain ⟨Ak, ck, rfl, hck, hFk⟩ := Kd.FK_slice_open hK
              have hx := hcc 0 _ rfl
              have ez : (k : Int).toNat * (Kd.slice 5 (Kd.int .u8)).sz + 0 = k := by show (k : Int).toNat * 1 + 0 = k; omega
              rw [ez] at hx
              rw [Int.toNat_natCast] at hx hFk
              obtain ⟨fs1, fs2⟩ := flat_step dats k hlt
              obtain ⟨l, el⟩ : ∃ l, dats.getD k [] = l := ⟨_, rfl⟩
              rw [el] at hx hFk fs1 fs2
              have FC := Aside0.mk (Kd.F_now hFk)
              have ol := HI.out.old
              have FS := Aside0.mk (show (dats.take (k + 1)).flatten = (dats.take k).flatten ++ l ∧ (dats.take k).flatten.length + l.length ≤ 140737488355328 from ⟨fs1, by rw [ol, List.length_take] at fs2; omega⟩)
              clear hK hcc hFk hck el ez fs1 fs2 ol
              go_upto_region 17 with (fail)
              go_upto_region 18 with (((with_reducible refine gate_dst (N := 60) rfl ?_); go_loud (refine append8 (w0 := w1) w1.heap.size rfl (.tmp 58) (.tmp 59) 22 5 rfl Tryd.underlying22 infoB _ (dats.take k).flatten l Ak ck rfl rfl rfl HF.out FC.out HW.out ?hb FS.out.2 ?_; (case hb => exact HW.out.size); intro v1 w2 hR hB _ _; have R9 := Aside0.mk hR; have B9 := Aside0.mk hB; clear hR hB)))
              go_wp2_with fail
              go_roundw
              case rel =>
                refine ⟨k + 1, hlt, by first | rfl | go_num, ⟨?_⟩, B9⟩
                rw [FS.out.1]
                exact R9.out
              case measure => simp [intOf]; omega
            · obtain rfl : k = dats.length := by omega
              have lz : L = ((bd.drop fsz).take L).length := by rw [List.length_take, List.length_drop]; omega
              have BC := Aside0.mk (Kd.R_reads' (Kd.R_below HB.out HW.out)).2.2
              have HF2 := HF.out
              rw [List.take_length, HI.out.old] at HF2
              have HF3 := Aside0.mk HF2
              have ZZ := Aside0.mk (show (bd.take fsz).length + ((bd.drop fsz).take L).length ≤ 140737488355328 by rw [← lz, List.length_take]; omega)
              have LZ := Aside0.mk lz
              clear HF2 lz
              go_upto_region 19 with (fail)
              go_upto_region 20 with (((with_reducible refine gate_dst (N := 64) rfl ?_); go_loud (refine append8 (w0 := w1) w1.heap.size rfl (.tmp 62) (.tmp 63) 22 5 rfl Tryd.underlying22 infoB _ (bd.take fsz) ((bd.drop fsz).take L) (some ⟨g', 0, none⟩) C rfl rfl LZ.out HF3.out BC.out HW.out ?hb ZZ.out ?_; (case hb => exact HW.out.size); intro v1 w2 hR hB _ _; have R9 := Aside0.mk hR; have B9 := Aside0.mk hB; clear hR hB)))
              go_wp2_with fail
              go_ret2
              refine ⟨_, rfl, ?_, fun _ => ?_, HT9.out.trans (Tch.of_below B9.out)⟩
              · have r := R9.out
                have e1 : bd.take fsz ++ (bd.drop fsz).take L = bd := by rw [List.take_of_length_le (l := bd.drop fsz) (by rw [List.length_drop]; omega), List.take_append_drop]
                rw [e1] at r
                exact Kd.R_lower r HS1.out
              · obtain ⟨A, c, hs⟩ := X1.out.1
                exact ⟨A, c, hs.below B9.out⟩
      · obtain rfl : ok = false := by cases ok; rfl; exact absurd rfl hk
        have D0 := Aside0.mk (show (bd.drop (fsz + L)).length = 0 by rw [List.length_drop]; omega)
        go_wp2_with fail
        go_region_held3 (fun _ => True) (trivial) ((go_at_call 123; go_loud ((with_reducible refine (bdy_prt H1d.out E1d.out R1d.out (show L + (C - L) ≤ C by omega) (show 1 ≤ C - L by omega) (Nat.le_refl _) gs gd gb).mono ?_); rintro en w1 ⟨q, ok2, rest2, q1, q2, q3, q4, q5, q6, q7, q8⟩; rw [if_neg DL.out, if_neg (by simp)] at q5; subst q5; rw [D0.out] at q2; obtain rfl : q = 0 := (by omega); have X1 := Aside0.mk (And.intro True.intro (And.intro q7 q8)); clear q6 q7 q8 q1 q2 q3 q4)))
        have hT1 := X1.out.2.2
        have HT9 : Aside0 (Tch (fun j => j = s ∨ j = b) w w1) := ⟨HI.out.tch.step (Tch.trans (Tch.of_below (below_drew (Below.refl _ _))) hT1) (fun k e hk => by have := HI.out.gw; rcases e with e | e | e; omega; exact .inl e; exact .inr e)⟩
        have E2 := E1d.out.kept hT1 (fun j q => by rcases q with q | q | q <;> subst q <;> assumption)
        have e0 := E2.e
        have u0 := E2.u
        have eo := eql_other (w := w1) (Ne.symm E2.ne) E2.hu E2.he
        by_cases hd : dats.length = 0
        · have I5 : (0 : Int) ≤ (L : Int) := by omega
          have L0 : ((L : Int) + 0) = (L : Int) := by omega
          have dn : dats = [] := List.eq_nil_of_length_eq_zero hd
          have hz : fsz = 0 := by
            have o := congrArg List.length HI.out.old
            rw [dn, List.length_take] at o
            simp at o
            have := LE.out; omega
          have R5 := short8 X1.out.2.1 (n := L + 0) (by omega)
          rw [now_step HI.out.now (by omega)] at R5
          have R6 := Aside0.mk R5
          have eL : L = bd.length := by omega
          clear R5 dn
          go_wp2_with fail
          go_ret2
          refine ⟨_, rfl, ?_, fun h => absurd h (by simp), HT9.out⟩
          have r := R6.out
          rw [hz, List.drop_zero, Nat.add_zero, List.take_of_length_le (by omega), eL] at r
          exact r
        · have lo8 : ∀ k, (Value.slice AN dats.length cN).ownBlock = some k → w.heap.size ≤ k ∧ k ≠ g' := HI.out.chk.1
          have HN := Aside0.mk (Kd.N_bound (Kd.N_step HI.out.chk (fun k hk hlt => hT1.block k hlt (fun e => by have := HI.out.gw; have := H0l.out.1; have := H0l.out.2.1; rcases e with e | e | e; exact hk.2 e; omega; omega))))
          have R5 := short8 X1.out.2.1 (n := L + 0) (by omega)
          rw [now_step HI.out.now (by omega), Nat.add_zero] at R5
          have HB := Aside0.mk R5
          have dl : dats.length ≤ 1000000000 := by have := HI.out.few; omega
          have wf : IntKind.i64.wrap ((fsz : Int) + (L : Int)) = (fsz : Int) + (L : Int) := IntWalk.i64_in _ (by omega)
          have HS1 := Aside0.mk (show w.heap.size ≤ w1.heap.size from HT9.out.size)
          have GL := Aside0.mk (show g' < w1.heap.size from Kd.R_lt R5 g' rfl)
          clear R5 hT1
          go_upto_region 13 with (fail)
          go_upto_region 14 with (((with_reducible refine gate_dst (N := 50) rfl ?_); go_loud (refine growZ (w0 := w1) w1.heap.size rfl rfl 22 3 5 (.const (.slice none 0 0)) (.tmp 49) rfl (fsz + L) rfl rfl (by rw [Int.natCast_add]) ?h0 Tryd.underlying22 Tryd.underlying3 infoB ?hn (Below.refl _ _) (Nat.le_refl _) ?_; (case h0 => have := HI.out.few; omega); (case hn => omega); intro g5 C5 w5 c1 c2 g1 g2 g3 hR hB hB'; have R5 := Aside0.mk (short8 hR (n := 0) (Nat.zero_le _)); have B5 := Aside0.mk hB; have G5 := Aside0.mk (And.intro g1 g3); have c3 : (0 : Int) ≤ (C5 : Int) := (Int.natCast_nonneg _); clear hR hB hB' g1 g2 g3)))
          go_wp2_with fail
          go_loopw [10, 54] (fun fv iv wr => ∃ k : Nat, k ≤ dats.length ∧ iv = .int .i64 (k : Int) ∧ Aside0 (R8 5 wr w1.heap.size fv (dats.take k).flatten) ∧ Aside0 (Below w1.heap.size w1 wr)) (fun _ iv _ => dats.length - (intOf iv).toNat)
          case atStart =>
            refine ⟨0, Nat.zero_le _, rfl, ⟨?_⟩, B5⟩
            have r := R5.out
            rw [List.take_zero] at r
            exact r
          case round =>
            obtain ⟨k, hk, rfl, HF, HW⟩ := hrel
            by_cases hlt : k < dats.length
            · obtain ⟨ad, cs, rfl, _, hK, hcc, _⟩ := Kd.F_get (Kd.N_F (Kd.N_below HN.out HW.out)) [] (k : Int) (by omega) (by omega)
              obtain ⟨Ak, ck, rfl, hck, hFk⟩ := Kd.FK_slice_open hK
              have hx := hcc 0 _ rfl
              have ez : (k : Int).toNat * (Kd.slice 5 (Kd.int .u8)).sz + 0 = k := by show (k : Int).toNat * 1 + 0 = k; omega
              rw [ez] at hx
              rw [Int.toNat_natCast] at hx hFk
              obtain ⟨fs1, fs2⟩ := flat_step dats k hlt
              obtain ⟨l, el⟩ : ∃ l, dats.getD k [] = l := ⟨_, rfl⟩
              rw [el] at hx hFk fs1 fs2
              have FC := Aside0.mk (Kd.F_now hFk)
              have ol := HI.out.old
              have FS := Aside0.mk (show (dats.take (k + 1)).flatten = (dats.take k).flatten ++ l ∧ (dats.take k).flatten.length + l.length ≤ 140737488355328 from ⟨fs1, by rw [ol, List.length_take] at fs2; omega⟩)
              clear hK hcc hFk hck el ez fs1 fs2 ol
              go_upto_region 17 with (fail)
              go_upto_region 18 with (((with_reducible refine gate_dst (N := 60) rfl ?_); go_loud (refine append8 (w0 := w1) w1.heap.size rfl (.tmp 58) (.tmp 59) 22 5 rfl Tryd.underlying22 infoB _ (dats.take k).flatten l Ak ck rfl rfl rfl HF.out FC.out HW.out ?hb FS.out.2 ?_; (case hb => exact HW.out.size); intro v1 w2 hR hB _ _; have R9 := Aside0.mk hR; have B9 := Aside0.mk hB; clear hR hB)))
              go_wp2_with fail
              go_roundw
              case rel =>
                refine ⟨k + 1, hlt, by first | rfl | go_num, ⟨?_⟩, B9⟩
                rw [FS.out.1]
                exact R9.out
              case measure => simp [intOf]; omega
            · obtain rfl : k = dats.length := by omega
              have lz : L = ((bd.drop fsz).take L).length := by rw [List.length_take, List.length_drop]; omega
              have BC := Aside0.mk (Kd.R_reads' (Kd.R_below HB.out HW.out)).2.2
              have HF2 := HF.out
              rw [List.take_length, HI.out.old] at HF2
              have HF3 := Aside0.mk HF2
              have ZZ := Aside0.mk (show (bd.take fsz).length + ((bd.drop fsz).take L).length ≤ 140737488355328 by rw [← lz, List.length_take]; omega)
              have LZ := Aside0.mk lz
              clear HF2 lz
              go_upto_region 19 with (fail)
              go_upto_region 20 with (((with_reducible refine gate_dst (N := 64) rfl ?_); go_loud (refine append8 (w0 := w1) w1.heap.size rfl (.tmp 62) (.tmp 63) 22 5 rfl Tryd.underlying22 infoB _ (bd.take fsz) ((bd.drop fsz).take L) (some ⟨g', 0, none⟩) C rfl rfl LZ.out HF3.out BC.out HW.out ?hb ZZ.out ?_; (case hb => exact HW.out.size); intro v1 w2 hR hB _ _; have R9 := Aside0.mk hR; have B9 := Aside0.mk hB; clear hR hB)))
              go_wp2_with fail
              go_ret2
              refine ⟨_, rfl, ?_, fun h => absurd h (by simp), HT9.out.trans (Tch.of_below B9.out)⟩
              · have r := R9.out
                have e1 : bd.take fsz ++ (bd.drop fsz).take L = bd := by rw [List.take_of_length_le (l := bd.drop fsz) (by rw [List.length_drop]; omega), List.take_append_drop]
                rw [e1] at r
                exact Kd.R_lower r HS1.out
end Go.Proofs.YtfhefoaieefnkaaDoor.Rd

/- io.ReadAll of any body; packet.OpaquePacket.parse, OpaqueReader.Next where all goes well. -/
set_option linter.unusedVariables false
set_option linter.unusedSimpArgs false
namespace Go.Proofs.YtfhefoaieefnkaaDoor.Rd
open Go.RowKit Go.Proofs.YtfhefoaieefnkaaDoorW.PrintWords Go.Proofs.YtfhefoaieefnkaaDoorW.PrintMore Go.Proofs.YtfhefoaieefnkaaDoor.Kit

theorem rall {w : World} {d s b : Nat} {split : Int} {v : Value} {bd rest : List Int} {ok : Bool} {aE aU : Addr} (h : Bdy w d s b split v bd ok rest) (hE : Env w d aE aU) (hbl : bd.length ≤ 100000000) :
    Calls Tryd.prog 86 #[v] w (RallOut w d s b split ok rest aU bd) := by
  have h2 := h
  rcases h2 with ⟨rfl, rfl, _⟩ | ⟨rfl, _⟩ | ⟨rfl, _⟩
  · exact rall_src h hE hbl
  · exact rall_spn h hE hbl
  · exact rall_prt h hE hbl
set_option maxHeartbeats 1600000 in
set_option maxRecDepth 100000 in
theorem opq_parse {w : World} {d s b u : Nat} {split : Int} {v x0 x2 : Value} {bd rest : List Int} {aE aU : Addr} (h : Bdy w d s b split v bd true rest) (hE : Env w d aE aU) (hbl : bd.length ≤ 100000000) (h0 : w.cell? ⟨u, 0, none⟩ = some x0) (h2 : w.cell? ⟨u, 2, none⟩ = some x2) (hz : w.frozen? ⟨u, 2, none⟩ = false) (us : u ≠ s) (ub : u ≠ b) (ud : d ≤ u) :
    Calls Tryd.prog 80 #[.pointer (some ⟨u, 0, none⟩), v] w fun en w' => ∃ A c, en = .returned .nilIface ∧ w'.cell? ⟨u, 0, none⟩ = some x0 ∧ w'.cell? ⟨u, 2, none⟩ = some (.slice A bd.length c) ∧ C8 w' A bd ∧ (∃ A c, Src w' d s A c rest split) ∧ Tch (fun j => j = s ∨ j = b ∨ j = u) w w' := by
  have HC := Aside0.mk (rall h hE hbl)
  have X := Aside0.mk (And.intro h0 (And.intro h2 hz))
  have US := Aside0.mk (And.intro us (And.intro ub ud))
  have UL := Aside0.mk (World.block_lt_of_cell? w _ h0)
  clear h hE hbl h0 h2 hz us ub ud
  go_enter Tryd.func80, Tryd.ntmps80
  go_wp2_with fail
  refine HC.out.mono ?_
  rintro en w1 ⟨v', e1, hR, hS, hT⟩
  rw [if_pos rfl] at e1
  subst e1
  obtain ⟨A, c, rfl, hc, hC⟩ := Kd.R_reads hR
  obtain ⟨n, en⟩ : ∃ n, bd.length = n := ⟨_, rfl⟩
  rw [en]
  have EN := Aside0.mk en
  have nt : ¬ (u = s ∨ u = b) := fun q => by rcases q with q | q; exact US.out.1 q; exact US.out.2.1 q
  have y0 := Aside0.mk (hT.cell (p := ⟨u, 0, none⟩) X.out.1 nt)
  have y2 := hT.cell (p := ⟨u, 2, none⟩) X.out.2.1 nt
  have z2 := (hT.frozen (p := ⟨u, 2, none⟩) UL.out nt).trans X.out.2.2
  have T1 := Aside0.mk hT
  have S1 := Aside0.mk (hS rfl)
  have C1 := Aside0.mk hC
  have AB := Aside0.mk (show ∀ ad, A = some ad → w.heap.size ≤ ad.block from fun ad e => by subst e; exact Kd.R_base hR ad.block rfl)
  clear hR hS hT hC hc en nt
  go_wp2_with fail
  go_ret
  have hT2 : Tch (fun j => j = u) w1 (w1.setCell ⟨u, 2, none⟩ (.slice A n c)) := (Tch.refl (fun j => j = u) w1).setCell (p := ⟨u, 2, none⟩) (fun _ => rfl) _
  have ul := UL.out
  obtain ⟨A', c', hs⟩ := S1.out
  refine ⟨A, c, rfl, ?_, by rw [EN.out]; simp [go_sem, *], hT2.c8 C1.out (fun ad e _ q => by have := AB.out ad e; omega), ⟨A', c', hs.kept hT2 (fun k q => by subst q; exact ⟨US.out.2.2, US.out.1⟩)⟩, (T1.out.mono (fun j q => by rcases q with q | q; exact .inl q; exact .inr (.inl q))).trans (hT2.mono (fun j q => .inr (.inr q)))⟩
  have q := y0.out
  simp [go_sem, *]
set_option maxHeartbeats 1600000 in
set_option maxRecDepth 100000 in
theorem nxt_ok {w : World} {d s q : Nat} {split tg n : Int} {bd rest : List Int} {aE aU : Addr} (H : Calls Tryd.prog 79 #[(.iface 94 (.pointer (some ⟨s, 0, none⟩)))] w (HdOk w d s split tg n bd true rest)) (hE : Env w d aE aU) (hbl : bd.length ≤ 100000000) (hq : w.cell? ⟨q, 0, none⟩ = some (.iface 94 (.pointer (some ⟨s, 0, none⟩)))) (sl : s < w.heap.size) (ds : d ≤ s) :
    Calls Tryd.prog 68 #[.pointer (some ⟨q, 0, none⟩)] w fun en w' => ∃ g A c, en = .returned (.tuple #[.pointer (some ⟨g, 0, none⟩), .nilIface]) ∧ w.heap.size ≤ g ∧ w'.cell? ⟨g, 0, none⟩ = some (.int .u8 tg) ∧ w'.cell? ⟨g, 2, none⟩ = some (.slice A bd.length c) ∧ C8 w' A bd ∧ (∃ A c, Src w' d s A c rest split) ∧ Tch (fun j => j = s) w w' := by
  have HH := Aside0.mk H
  have HE := Aside0.mk hE
  have LB := Aside0.mk (And.intro hbl (And.intro sl ds))
  clear H hE hbl sl ds
  go_enter Tryd.func68, Tryd.ntmps68
  go_wp2_with fail
  refine HH.out.mono ?_
  rintro en w1 ⟨v, b, rfl, hb, hbs, hT⟩
  have B1 := Aside0.mk hb
  have T1 := Aside0.mk hT
  have BS := Aside0.mk hbs
  have w1l := hT.size
  have bl := hb.ltb
  have sl1 := hb.lts
  have HE1 := Aside0.mk (HE.out.kept hT (fun j q => by subst q; exact LB.out.2.2))
  obtain ⟨W, eW⟩ : ∃ W, w1.alloc (.cells #[.int .u8 tg, .nilIface, .slice none 0 0] 156) = W := ⟨_, rfl⟩
  have hrow := heap_alloc_new w1 (.cells #[.int .u8 tg, .nilIface, .slice none 0 0] 156)
  have BW : Below w1.heap.size w1 W := eW ▸ below_alloc (Below.refl _ _) _
  rw [eW] at hrow
  have P := Aside0.mk (opq_parse (u := w1.heap.size) (hb.below BW) (HE1.out.below BW) LB.out.1 ((cell_of_row _ _ 0 _ _ _ hrow).trans rfl) ((cell_of_row _ _ 2 _ _ _ hrow).trans rfl) (frozen_of_row _ _ 2 _ _ hrow) (by omega) (by omega) (by have := hb.ds; omega))
  have BW' := Aside0.mk BW
  clear hb hT hbs hrow BW bl sl1
  go_upto_region 4 with (fail)
  clear eW
  obtain ⟨g, eg⟩ : ∃ g, w1.heap.size = g := ⟨_, rfl⟩
  have EG := Aside0.mk eg
  rw [eg] at P w1l ⊢
  clear eg
  go_wp2_with fail
  refine P.out.mono ?_
  rintro en w2 ⟨A, c, rfl, y0, y2, hC, hS, hT2⟩
  have Y := Aside0.mk (And.intro y0 (And.intro y2 (And.intro hC (And.intro hS hT2))))
  clear y0 y2 hC hS hT2
  go_wp2_with fail
  go_ret2
  obtain ⟨y0, y2, hC, hS, hT2⟩ := Y.out
  refine ⟨g, A, c, rfl, w1l, y0, y2, hC, hS, ?_⟩
  refine Tch.step T1.out (Tch.step (Tch.of_below (S := fun j => j = s ∨ j = b ∨ j = g) BW'.out) hT2 (fun j q _ => q)) (fun j q hl => ?_)
  rcases q with q | q | q
  · exact q
  · rcases BS.out with e | e
    · exact q.trans e
    · omega
  · omega
end Go.Proofs.YtfhefoaieefnkaaDoor.Rd

/- impl.ReadOpaque. -/
set_option linter.unusedVariables false
set_option linter.unusedSimpArgs false
namespace Go.Proofs.YtfhefoaieefnkaaDoor.Rd
open Go.RowKit Go.Proofs.YtfhefoaieefnkaaDoorW.PrintWords Go.Proofs.YtfhefoaieefnkaaDoorW.PrintMore Go.Proofs.YtfhefoaieefnkaaDoor.Kit

/-- An opaque packet as data: its tag, its contents. -/
def kO : Kd (Int × List Int) := Kd.pair (Kd.int .u8) (Kd.slice 5 (Kd.int .u8))
theorem infoO : (Tryd.prog.info? 76).map (fun i => (i.zero, i.size, i.bytes)) = some (some (.agg #[.int .u8 0, .slice none 0 0]), 2, 32) := by kernel_rfl
/-- The errors that end a stream, and their numbers. -/
def EndOf (aE aU : Addr) (e : Int) (er : Value) : Prop := (e = 1 ∧ er = (.iface 206 (.pointer (some aE)))) ∨ (e = 2 ∧ er = (.iface 206 (.pointer (some aU)))) ∨ (e = 3 ∧ ∃ m, er = (.iface 168 (.string m)))
/-- Next finds a packet in l. -/
def NxOk (l : List Int) (tg : Int) (bd rest : List Int) : Prop := ∀ (w : World) (d s q : Nat) (A : Option Addr) (c : Nat) (split : Int) (aE aU : Addr), Src w d s A c l split → Env w d aE aU → w.cell? ⟨q, 0, none⟩ = some (.iface 94 (.pointer (some ⟨s, 0, none⟩))) →
  Calls Tryd.prog 68 #[.pointer (some ⟨q, 0, none⟩)] w fun en w' => ∃ g A c, en = .returned (.tuple #[.pointer (some ⟨g, 0, none⟩), .nilIface]) ∧ w.heap.size ≤ g ∧ w'.cell? ⟨g, 0, none⟩ = some (.int .u8 tg) ∧ w'.cell? ⟨g, 2, none⟩ = some (.slice A bd.length c) ∧ C8 w' A bd ∧ (∃ A c, Src w' d s A c rest split) ∧ Tch (fun j => j = s) w w'
/-- Next ends with an error. -/
def NxNo (l : List Int) (e : Int) : Prop := ∀ (w : World) (d s q : Nat) (A : Option Addr) (c : Nat) (split : Int) (aE aU : Addr), Src w d s A c l split → Env w d aE aU → w.cell? ⟨q, 0, none⟩ = some (.iface 94 (.pointer (some ⟨s, 0, none⟩))) →
  Calls Tryd.prog 68 #[.pointer (some ⟨q, 0, none⟩)] w fun en w' => ∃ p er, en = .returned (.tuple #[.pointer p, er]) ∧ EndOf aE aU e er ∧ Tch (fun j => j = s) w w'
/-- The packets of a stream, and how it ends. -/
inductive OpqR : List Int → List (Int × List Int) → Int → Prop
  | stop {l : List Int} {e : Int} : NxNo l e → OpqR l [] e
  | more {l bd rest : List Int} {tg e : Int} {ops : List (Int × List Int)} : NxOk l tg bd rest → bd.length ≤ 100000000 → OpqR rest ops e → OpqR l ((tg, bd) :: ops) e
set_option maxHeartbeats 1600000 in
set_option maxRecDepth 100000 in
theorem nxt_no {w : World} {d s q : Nat} {split : Int} {te : TypeId} {ve : Value} (H : Calls Tryd.prog 79 #[(.iface 94 (.pointer (some ⟨s, 0, none⟩)))] w (HdNo w d s split (.iface te ve))) (hq : w.cell? ⟨q, 0, none⟩ = some (.iface 94 (.pointer (some ⟨s, 0, none⟩)))) :
    Calls Tryd.prog 68 #[.pointer (some ⟨q, 0, none⟩)] w fun en w' => en = .returned (.tuple #[.pointer none, .iface te ve]) ∧ Tch (fun j => j = s) w w' := by
  have HH := Aside0.mk H
  have nl := fun W : World => run_eql_iface_nil_left (P := Tryd.prog) W te ve Tryd.underlying98
  clear H
  go_enter Tryd.func68, Tryd.ntmps68
  go_wp2_with fail
  refine HH.out.mono ?_
  rintro en w1 ⟨tg, n, rfl, _, hT⟩
  have T1 := Aside0.mk hT
  clear hT
  go_wp2_with fail
  go_ret2
  exact ⟨rfl, T1.out⟩
theorem nx_eof : NxNo [] 1 := fun w d s q A c split aE aU hS hE hq => (nxt_no (rh_eof hS hE) hq).mono fun en w' h => ⟨_, _, h.1, .inl ⟨rfl, rfl⟩, h.2⟩
theorem nx_ok {l bd rest : List Int} {tg n : Int} (hl : bd.length ≤ 100000000) (H : ∀ (w : World) (d s : Nat) (A : Option Addr) (c : Nat) (split : Int) (aE aU : Addr), Src w d s A c l split → Env w d aE aU → Calls Tryd.prog 79 #[(.iface 94 (.pointer (some ⟨s, 0, none⟩)))] w (HdOk w d s split tg n bd true rest)) : NxOk l tg bd rest :=
  fun w d s q A c split aE aU hS hE hq => nxt_ok (H w d s A c split aE aU hS hE) hE hl hq hS.lt hS.ds
set_option maxHeartbeats 1600000 in
set_option maxRecDepth 100000 in
theorem nor_calls (w : World) (s : Nat) : Calls Tryd.prog 67 #[(.iface 94 (.pointer (some ⟨s, 0, none⟩)))] w fun en w' => en = .returned (.pointer (some ⟨w.heap.size, 0, none⟩)) ∧ w'.cell? ⟨w.heap.size, 0, none⟩ = some (.iface 94 (.pointer (some ⟨s, 0, none⟩))) ∧ Below w.heap.size w w' := by
  go_enter Tryd.func67, Tryd.ntmps67
  go_wp2_with fail
  go_ret
  exact ⟨rfl, (cell_of_row _ _ 0 _ _ _ (heap_alloc_new w (.cells #[(.iface 94 (.pointer (some ⟨s, 0, none⟩)))] 191))).trans rfl, below_alloc (Below.refl _ _) _⟩
theorem cell_al {w : World} {p : Addr} {v : Value} (h : w.cell? p = some v) (o : Obj) : (w.alloc o).cell? p = some v := ((below_alloc (Below.refl _ _) o).cell (World.block_lt_of_cell? w _ h)).trans h
theorem blk_cell {w w1 : World} {g : Nat} (h : w1.heap[g]? = w.heap[g]?) (i : Nat) : w1.cell? ⟨g, i, none⟩ = w.cell? ⟨g, i, none⟩ := by simp [World.cell?, h]
theorem below_less {w w1 : World} {B : Nat} (h : Below w.heap.size w w1) (hB : B ≤ w.heap.size) : Below B w w1 := h.mono hB
def lenO : Value → Nat
  | .slice _ n _ => n
  | _ => 0
set_option maxHeartbeats 1600000 in
set_option maxRecDepth 100000 in
theorem rop_calls {w : World} {A : Option Addr} {c n : Nat} {l : List Int} {split e : Int} {aE aU : Addr} {ops : List (Int × List Int)} (hr : C8 w A l) (hc : l.length ≤ c) (hn : n = l.length) (hb : Bytes l) (hE : Env w w.heap.size aE aU) (hO : OpqR l ops e) (hops : ops.length ≤ 100000000) :
    Calls Tryd.prog 39 #[.slice A n c, .int .i64 split] w fun en w' => ∃ v, en = .returned (.tuple #[v, .int .i64 e]) ∧ kO.R 76 w' w.heap.size (fun _ => True) v ops ∧ Below w.heap.size w w' := by
  obtain ⟨W, eW, hS, hB⟩ := src_new split hr hc hb
  have S0 := Aside0.mk hS
  have B0 := Aside0.mk hB
  have E0 := Aside0.mk (hE.below hB)
  have HO := Aside0.mk hO
  have OL := Aside0.mk hops
  rw [← hn] at eW
  clear hr hc hn hb hE hO hS hB hops
  go_enter Tryd.func39, Tryd.ntmps39
  go_wp2_with fail
  clear eW
  obtain ⟨s, es⟩ : ∃ s, w.heap.size = s := ⟨_, rfl⟩
  have ES := Aside0.mk es
  rw [es] at S0 E0 ⊢
  clear es
  refine (nor_calls W s).mono ?_
  rintro en w0 ⟨rfl, hq, hB⟩
  obtain ⟨q, eq⟩ : ∃ q, W.heap.size = q := ⟨_, rfl⟩
  rw [eq] at hq ⊢
  have HQ := Aside0.mk hq
  have S1 := Aside0.mk (S0.out.below hB)
  have E1 := Aside0.mk (E0.out.below hB)
  have B1 := Aside0.mk (below_then B0.out B0.out.size hB)
  have QS := Aside0.mk (show q ≠ s by have := S0.out.lt; omega)
  have SL := Aside0.mk (Nat.lt_of_lt_of_le S0.out.lt hB.size)
  clear hq hB eq
  go_wp2_with fail
  go_loopw [7] (fun ov wr => ∃ (rv : Value) (l' : List Int) (ops1 ops2 : List (Int × List Int)), ov = rv ∧ Aside0 (ops = ops1 ++ ops2 ∧ OpqR l' ops2 e ∧ ∃ A' c', Src wr s s A' c' l' split) ∧ Aside0 (kO.R 76 wr w0.heap.size (fun _ => True) rv ops1) ∧ Aside0 (Tch (fun j => j = s) w0 wr)) (fun ov _ => ops.length - lenO ov)
  case atStart => exact ⟨_, l, [], ops, rfl, ⟨rfl, HO.out, _, _, S1.out⟩, ⟨Kd.R_nil _ _ _ _ _⟩, ⟨Tch.refl _ _⟩⟩
  case round =>
    obtain ⟨rv, l', ops1, ops2, erv, HS, HR, HT⟩ := hrel
    obtain rfl := erv.symm
    obtain ⟨eo, ho, A', c', hs⟩ := HS.out
    have hq1 := HT.out.cell (p := ⟨q, 0, none⟩) HQ.out (fun e => QS.out e)
    have HE1 := E1.out.kept HT.out (fun j q => by subst q; exact Nat.le_refl _)
    cases ho with
    | stop hno =>
      have CC := Aside0.mk (hno _ _ _ _ _ _ _ _ _ hs HE1 hq1)
      have EO := Aside0.mk eo
      have HE2 := Aside0.mk HE1
      clear hno eo hs hq1 HE1 HS
      go_wp2_with fail
      refine CC.out.mono ?_
      rintro en w1 ⟨p, er, rfl, her, hT⟩
      have HE3 := Aside0.mk (HE2.out.kept hT (fun j q => by subst q; exact Nat.le_refl _))
      have R1 := Aside0.mk (Kd.R_mono (Kd.R_step (Kd.R_bound HR.out) (w1 := w1) (fun k hk hlt => hT.block k hlt (fun e => by have := hk.2.1; have := SL.out; omega))) (ok' := fun _ => True) (fun _ _ => trivial))
      have T1 := Aside0.mk (HT.out.trans hT)
      clear hT
      have fin : ∀ w2, w2 = w1 → kO.R 76 w2 w.heap.size (fun _ => True) rv ops ∧ Below w.heap.size w w2 := by
        rintro w2 rfl
        have eo := EO.out
        rw [List.append_nil] at eo
        rw [eo]
        exact ⟨Kd.R_lower R1.out B1.out.size, T1.out.below B1.out B1.out.size (fun k q => by have := ES.out; omega)⟩
      have FIN := Aside0.mk fin
      clear fin
      rcases her with ⟨rfl, rfl⟩ | ⟨rfl, rfl⟩ | ⟨rfl, m, rfl⟩
      · have nl := fun W : World => run_eql_iface_nil_left (P := Tryd.prog) W 206 (.pointer (some aE)) Tryd.underlying98
        go_wp2_with fail
        refine (end_eof HE3.out).mono ?_
        rintro en w2 ⟨rfl, hw⟩
        have F := Aside0.mk (FIN.out w2 hw)
        clear hw
        go_wp2_with fail
        go_ret2
        exact ⟨_, rfl, F.out⟩
      · have nl := fun W : World => run_eql_iface_nil_left (P := Tryd.prog) W 206 (.pointer (some aU)) Tryd.underlying98
        go_wp2_with fail
        refine (end_cut HE3.out).mono ?_
        rintro en w2 ⟨rfl, hw⟩
        have F := Aside0.mk (FIN.out w2 hw)
        clear hw
        go_wp2_with fail
        go_ret2
        exact ⟨_, rfl, F.out⟩
      · have nl := fun W : World => run_eql_iface_nil_left (P := Tryd.prog) W 168 (.string m) Tryd.underlying98
        go_wp2_with fail
        refine (end_form HE3.out m).mono ?_
        rintro en w2 ⟨rfl, hw⟩
        have F := Aside0.mk (FIN.out w2 hw)
        clear hw
        go_wp2_with fail
        go_ret2
        exact ⟨_, rfl, F.out⟩
    | more hok hbl hrest =>
      rename_i bd rest tg ops3
      have CC := Aside0.mk (hok _ _ _ _ _ _ _ _ _ hs HE1 hq1)
      have EO := Aside0.mk eo
      have HRS := Aside0.mk (And.intro hrest hbl)
      have HRT := Aside0.mk (And.intro HR.out HT.out)
      have ol : ops1.length + (ops3.length + 1) = ops.length := by rw [eo, List.length_append, List.length_cons]
      have OL2 := Aside0.mk ol
      clear hok hbl hrest eo hs hq1 HE1 HS ol
      go_wp2_with fail
      refine CC.out.mono ?_
      rintro en w1 ⟨g, A1, c1, rfl, hg, y0, y2, hC, ⟨A2, c2, hs2⟩, hT⟩
      obtain ⟨n1, en1⟩ : ∃ n, bd.length = n := ⟨_, rfl⟩
      rw [en1] at y2
      have gl := World.block_lt_of_cell? w1 _ y0
      have RC := Aside0.mk (Kd.C_drew hC)
      have S2 := Aside0.mk hs2
      have T1 := Aside0.mk (HRT.out.2.trans hT)
      have LE := Aside0.mk (show n1 = bd.length ∧ bd.length ≤ 140737488355328 from ⟨en1.symm, by have := HRS.out.2; omega⟩)
      have HR1 := Aside0.mk (Kd.R_mono (Kd.R_step (Kd.R_bound HRT.out.1) (w1 := w1) (fun k hk hlt => hT.block k hlt (fun e => by have := hk.2.1; have := SL.out; omega))) (ok' := fun _ => True) (fun _ _ => trivial))
      have OWN := Aside0.mk (show ∀ k, rv.ownBlock = some k → k < g from fun k e => by have := Kd.R_lt HRT.out.1 k e; omega)
      have SZ := Aside0.mk (show w0.heap.size ≤ w1.heap.size ∧ g < w1.heap.size from ⟨T1.out.size, gl⟩)
      have Y := Aside0.mk (And.intro y0 y2)
      clear hC hs2 hT en1 hg gl
      go_upto_region 6 with (fail)
      go_region_held3 (fun w' => w'.cell? ⟨g, 0, none⟩ = some (.int .u8 tg) ∧ w'.cell? ⟨g, 2, none⟩ = some (.slice A1 n1 c1)) (first | (exact ⟨y0, y2⟩) | (exact ⟨by assumption, by assumption⟩) | (exact ⟨cell_al (by assumption) _, cell_al (by assumption) _⟩) | go_keep) ((first | (go_at_call 57; (with_reducible refine (own_calls RC.out LE.out.1 LE.out.2).mono ?_); rintro en w5 ⟨v5, rfl, hR, hB⟩; obtain ⟨A5, c5', e5, _, _⟩ := Kd.R_reads hR; rw [← LE.out.1] at e5; subst e5; have R5 := Aside0.mk (Kd.R_mono (Kd.R_lower (Kd.R_bound hR) SZ.out.1) (ok' := fun j => w1.heap.size ≤ j) (fun j q => q.2.1)); have T5 := Aside0.mk hB; have x0 := (hB.cell (p := ⟨g, 0, none⟩) SZ.out.2).trans Y.out.1; have x2 := (hB.cell (p := ⟨g, 2, none⟩) SZ.out.2).trans Y.out.2; have hB0 : w5.cell? ⟨g, 0, none⟩ = some (.int .u8 tg) ∧ w5.cell? ⟨g, 2, none⟩ = some (.slice A1 n1 c1) := ⟨x0, x2⟩; clear hR hB) | ((refine Kd.R_append_step kO (w0 := w1.drew) (W := w5) w0.heap.size (by rfl) (.tmp 26) (.tmp 37) 72 76 (.agg #[.int .u8 0, .slice none 0 0]) 32 rfl Tryd.underlying72 infoO rfl (by decide) (by decide) _ ops1 (tg, bd) [.int .u8 tg, .slice A5 n1 c5'] (fun _ => True) (fun j => w1.heap.size ≤ j) rfl rfl ?hp ?hk (fun _ _ => trivial) ?ho ?hb ?hz ?hl ?_; (case hp => exact ⟨[.int .u8 tg], [.slice A5 n1 c5'], rfl, rfl, ⟨_, rfl, R5.out⟩⟩); (case hk => intro j hj; exact ⟨trivial, fun e => by have := OWN.out j e.symm; have := SZ.out; omega⟩); (case ho => exact Kd.R_below (Kd.R_drew HR1.out) T5.out); (case hb => exact (below_less (T5.out) SZ.out.1)); (case hz => exact Nat.le_trans SZ.out.1 T5.out.size); (case hl => have := OL2.out; have := OL.out; omega); intro v1 w6 hR hB hG _; have R9 := Aside0.mk hR; have B9 := Aside0.mk hB; have x0 := (blk_cell (hG.block g (Nat.lt_of_lt_of_le SZ.out.2 T5.out.size) (fun e => by have := OWN.out g e.symm; omega)) 0).trans (show w5.cell? ⟨g, 0, none⟩ = some (.int .u8 tg) by assumption); have x2 := (blk_cell (hG.block g (Nat.lt_of_lt_of_le SZ.out.2 T5.out.size) (fun e => by have := OWN.out g e.symm; omega)) 2).trans (show w5.cell? ⟨g, 2, none⟩ = some (.slice A1 n1 c1) by assumption); have hB0 : w6.cell? ⟨g, 0, none⟩ = some (.int .u8 tg) ∧ w6.cell? ⟨g, 2, none⟩ = some (.slice A1 n1 c1) := ⟨x0, x2⟩; have G9 := Aside0.mk hG; clear hR hB hG))))
      go_wp2_with fail
      have obase : ∀ k, rv.ownBlock = some k → w0.heap.size ≤ k := fun k e => Kd.R_base HR1.out k e
      have hTT : Tch (fun j => rv.ownBlock = some j) w1 w6 := ((Tch.refl (fun j => rv.ownBlock = some j) w1).drew.trans (Tch.of_below T5.out)).trans (Tch.of_grown G9.out)
      have sl := SL.out
      refine ⟨⟨v1, rest, ops1 ++ [(tg, bd)], ops3, rfl, ⟨by rw [EO.out, List.append_assoc]; rfl, HRS.out.1, A2, c2, S2.out.kept hTT (fun k e => by have := obase k e; omega)⟩, ⟨R9.out⟩, ⟨T1.out.step hTT (fun k e hk => by have := obase k e; omega)⟩⟩, ?_⟩
      obtain ⟨_, _, e1⟩ := Kd.R_slice R9.out
      obtain ⟨_, _, e2⟩ := Kd.R_slice HR1.out
      rw [e1, e2]
      simp only [lenO, List.length_append, List.length_singleton]
      have := OL2.out
      omega
end Go.Proofs.YtfhefoaieefnkaaDoor.Rd

/- packet.OpaquePacket.Serialize, impl.WriteOpaque. -/
set_option linter.unusedVariables false
set_option linter.unusedSimpArgs false
namespace Go.Proofs.YtfhefoaieefnkaaDoor.Rd
open Go.RowKit Go.Proofs.YtfhefoaieefnkaaDoorW.PrintWords Go.Proofs.YtfhefoaieefnkaaDoorW.PrintMore Go.Proofs.YtfhefoaieefnkaaDoor.Kit

theorem c8_cell0 {w : World} {ad : Addr} {l : List Int} (h : C8 w (some ad) l) (hk : 0 < l.length) : w.cell? ad = some (.int .u8 (l.getD 0 0)) := by
  obtain ⟨ad', e, q⟩ := Kd.at_int h 0 (by omega) (by omega)
  injection e with e
  subst e
  rw [show (0 : Int).toNat = 0 by rfl, show ad.add 0 = ad by simp [Addr.add]] at q
  exact q
set_option maxHeartbeats 1600000 in
set_option maxRecDepth 100000 in
/-- serializeHeader beside a block of another type. -/
theorem shd2_calls {base : Nat} {w : World} {s g t : Nat} {v : Value} {l : List Int} {cs : Array Value} (h : Snk base w s v l) (hl : l.length ≤ 140737488354000) (p : Int) (n : Int) (h0 : 0 ≤ n) (h1 : n ≤ 4294967295) (hg : w.heap[g]? = some (.cells cs t (0, 0))) (ht : 5 ≠ t) (gs : g ≠ s) :
    Calls Tryd.prog 78 #[(.iface 113 (.pointer (some ⟨s, 0, none⟩))), .int .u8 p, .int .i64 n] w fun en w' => en = .returned .nilIface ∧ (∃ v', Snk base w' s v' (l ++ (tagB p :: lenB n))) ∧ Tch (fun j => base ≤ j) w w' ∧ w'.heap[g]? = some (.cells cs t (0, 0)) := by
  have H := Aside0.mk h
  have LL := Aside0.mk hl
  have G := Aside0.mk hg
  have GS := Aside0.mk (And.intro ht gs)
  clear h hl hg ht gs
  go_enter Tryd.func78, Tryd.ntmps78
  go_wp2_with fail
  refine (sty_calls H.out (by have := LL.out; omega) p).mono ?_
  rintro en w1 ⟨rfl, ⟨v1, hs⟩, hT⟩
  have S1 := Aside0.mk hs
  have T1 := Aside0.mk (H.out.tch hT)
  have G1 := Aside0.mk ((hT.block g (blk_lt G.out) (fun q => by rcases q with q | q; exact GS.out.2 q; exact Kd.R_ne H.out.rd G.out GS.out.1 q.symm)).trans G.out)
  clear hs hT
  go_wp2_with fail
  refine (sl_calls S1.out (by have := LL.out; simp; omega) n h0 h1).mono ?_
  rintro en w2 ⟨rfl, ⟨v2, hs⟩, hT⟩
  have S2 := Aside0.mk hs
  have T2 := Aside0.mk (S1.out.tch hT)
  have G2 := Aside0.mk ((hT.block g (blk_lt G1.out) (fun q => by rcases q with q | q; exact GS.out.2 q; exact Kd.R_ne S1.out.rd G1.out GS.out.1 q.symm)).trans G1.out)
  clear hs hT
  go_wp2_with fail
  go_ret
  exact ⟨rfl, ⟨v2, by have q := S2.out; rw [List.append_assoc] at q; exact q⟩, T1.out.trans T2.out, G2.out⟩
set_option maxHeartbeats 1600000 in
set_option maxRecDepth 100000 in
theorem opz_calls {base : Nat} {w : World} {s g n c : Nat} {v : Value} {l bd : List Int} {tg : Int} {A : Option Addr} (h : Snk base w s v l) (hl : l.length ≤ 1000000000) (hg : w.heap[g]? = some (.cells #[.int .u8 tg, .nilIface, .slice A n c] 156 (0, 0))) (gs : g ≠ s) (hC : C8 w A bd) (hn : n = bd.length) (hn2 : n ≤ 100000000) (ha : ∀ ad, A = some ad → 0 < bd.length → ad.block < base) :
    Calls Tryd.prog 66 #[.pointer (some ⟨g, 0, none⟩), (.iface 113 (.pointer (some ⟨s, 0, none⟩)))] w fun en w' => en = .returned .nilIface ∧ (∃ v', Snk base w' s v' (l ++ (tagB tg :: lenB (n : Int)) ++ bd)) ∧ Tch (fun j => base ≤ j) w w' := by
  have H := Aside0.mk (h.below (w1 := w.drew) (below_drew (Below.refl _ _)))
  have G := Aside0.mk (show w.drew.heap[g]? = some (.cells #[.int .u8 tg, .nilIface, .slice A n c] 156 (0, 0)) from hg)
  have GS := Aside0.mk (And.intro gs (And.intro hn ha))
  have RC := Aside0.mk hC
  have LL := Aside0.mk hl
  have x0 := (cell_of_row _ _ 0 _ _ _ hg).trans rfl
  have x2 := (cell_of_row _ _ 2 _ _ _ hg).trans rfl
  clear h hl hg gs hC hn ha
  go_enter Tryd.func66, Tryd.ntmps66
  go_wp2_with fail
  go_region_held3 (fun w' => w'.cell? ⟨g, 0, none⟩ = some (.int .u8 tg) ∧ w'.cell? ⟨g, 2, none⟩ = some (.slice A n c)) (first | (exact ⟨x0, x2⟩) | (exact ⟨by assumption, by assumption⟩) | go_keep) ((go_at_call 78; go_loud ((with_reducible refine (shd2_calls H.out (by have := LL.out; omega) tg (n : Int) (by omega) (by omega) G.out (by decide) GS.out.1).mono ?_); rintro en w1 ⟨rfl, hS, hT, hG⟩; have S1 := Aside0.mk hS; have T1 := Aside0.mk hT; have G1 := Aside0.mk hG; have hB0 : w1.cell? ⟨g, 0, none⟩ = some (.int .u8 tg) ∧ w1.cell? ⟨g, 2, none⟩ = some (.slice A n c) := ⟨(cell_of_row _ _ 0 _ _ _ hG).trans rfl, (cell_of_row _ _ 2 _ _ _ hG).trans rfl⟩; clear hS hT hG)))
  obtain ⟨v1, s1⟩ := S1.out
  have S1' := Aside0.mk (s1.below (w1 := w1.drew) (below_drew (Below.refl _ _)))
  have y2 := (cell_of_row _ _ 2 _ _ _ G1.out).trans rfl
  have RC1 := Aside0.mk (Kd.C_drew (T1.out.c8 (Kd.C_drew RC.out) (fun ad e hp q => by have := GS.out.2.2 ad e hp; omega)))
  have NG := Aside0.mk (show ¬ (g = s ∨ v1.ownBlock = some g) from fun q => by rcases q with q | q; exact GS.out.1 q; exact Kd.R_ne s1.rd G1.out (by decide) q.symm)
  have LN := Aside0.mk (show (l ++ (tagB tg :: lenB (n : Int))).length + bd.length ≤ 140737488355328 from by
    have q : (lenB (n : Int)).length ≤ 5 := by unfold lenB; split <;> (try split) <;> simp
    have := LL.out
    have := GS.out.2.1
    rw [List.length_append, List.length_cons]
    omega)
  have ni := nil_write s
  clear s1
  go_wp2_with fail
  go_region_held3 (fun w' => w'.cell? ⟨g, 2, none⟩ = some (.slice A n c)) (first | assumption | go_keep) ((go_at_call 112; go_loud ((with_reducible refine (snk_write S1'.out RC1.out GS.out.2.1 LN.out).mono ?_); rintro en w2 ⟨rfl, hS, hT⟩; have S2 := Aside0.mk hS; have T2 := Aside0.mk hT; have hB0 : w2.cell? ⟨g, 2, none⟩ = some (.slice A n c) := hT.cell (p := ⟨g, 2, none⟩) (by assumption) NG.out; clear hS hT)))
  go_wp2_with fail
  go_ret
  exact ⟨rfl, S2.out, ((Tch.refl (fun j => base ≤ j) w).drew.trans T1.out).drew.trans (S1'.out.tch T2.out)⟩
set_option maxHeartbeats 1600000 in
set_option maxRecDepth 100000 in
theorem wop_calls {w : World} {n c : Nat} {bd : List Int} {tg : Int} {A : Option Addr} (hC : C8 w A bd) (hn : n = bd.length) (hn2 : n ≤ 100000000) :
    Calls Tryd.prog 38 #[.agg #[.int .u8 tg, .slice A n c]] w fun en w' => ∃ v, en = .returned v ∧ R8 5 w' w.heap.size v ((tagB tg :: lenB (n : Int)) ++ bd) ∧ Below w.heap.size w w' := by
  have RC := Aside0.mk (And.intro hC hn)
  clear hC hn
  go_enter Tryd.func38, Tryd.ntmps38
  go_wp2_with fail
  obtain ⟨W2, eW2, hs, hB2⟩ := snk_new w.heap.size (w.alloc (.cells #[.int .u8 tg, .slice A n c] 76)) (by simp)
  have z1 : (w.alloc (.cells #[.int .u8 tg, .slice A n c] 76)).heap.size = w.heap.size + 1 := by simp
  have z2 : W2.heap.size = w.heap.size + 1 + 1 := by rw [← eW2]; simp
  rw [z1] at hs
  have hrow := heap_alloc_new W2 (.cells #[.int .u8 tg, .nilIface, .slice A n c] 156)
  rw [z2] at hrow
  have BA : Below w.heap.size w W2 := below_then (below_alloc (Below.refl _ _) _) (by simp) hB2
  obtain ⟨W3, eW3⟩ : ∃ W3, W2.alloc (.cells #[.int .u8 tg, .nilIface, .slice A n c] 156) = W3 := ⟨_, rfl⟩
  have B23 : Below W2.heap.size W2 W3 := eW3 ▸ below_alloc (Below.refl _ _) _
  rw [eW2, eW3]
  rw [eW3] at hrow
  have BB := Aside0.mk (below_then BA BA.size B23)
  have S3 := Aside0.mk (hs.below B23)
  have CC := Aside0.mk (opz_calls S3.out (by simp) hrow (by omega) (Kd.C_below RC.out.1 BB.out) RC.out.2 hn2 (fun ad e hp => by subst e; exact World.block_lt_of_cell? w _ (c8_cell0 RC.out.1 hp)))
  clear hs hrow BA eW2 eW3 hB2 B23 z1 z2
  refine CC.out.mono ?_
  rintro en w4 ⟨rfl, ⟨v4, s4⟩, hT⟩
  have c0 := s4.c0
  have S4 := Aside0.mk s4
  have T4 := Aside0.mk hT
  clear s4 hT
  go_wp2_with fail
  go_ret
  refine ⟨_, rfl, ?_, T4.out.below BB.out BB.out.size (fun k q => q)⟩
  have q := S4.out.rd
  rw [List.nil_append] at q
  exact q
end Go.Proofs.YtfhefoaieefnkaaDoor.Rd

/- What is written is read again, in plain lists; zzFits3, samePackets. -/
set_option linter.unusedVariables false
set_option linter.unusedSimpArgs false
namespace Go.Proofs.YtfhefoaieefnkaaDoor.Rd.Pob
open Go.RowKit Go.Proofs.YtfhefoaieefnkaaDoorW.PrintWords Go.Proofs.YtfhefoaieefnkaaDoorW.PrintMore Go.Proofs.YtfhefoaieefnkaaDoor.Kit Go.Proofs.YtfhefoaieefnkaaDoor.PFnOpaqueBack

/-- A packet as spec has it. -/
def kPk : Kd (Int × List Int) := Kd.pair (Kd.int .i64) (Kd.slice 5 (Kd.int .u8))
def toQ (p : Int × List Int) : S76 := ⟨p.1, p.2⟩
def toS (p : Int × List Int) : S60 := ⟨p.1, p.2⟩
theorem C_map {α β : Type} {d : Kd α} {d' : Kd β} (f : α → β) (hs : d'.sz = d.sz) (hK : ∀ w x cs, d.K w x cs → d'.K w (f x) cs) {w : World} {A : Option Addr} {n : Nat} {ss : List α} (h : d.C w A n ss) : Kd.C d' w A n (ss.map f) := by
  obtain ⟨h1, h2, h3⟩ := h
  refine ⟨by rw [List.length_map]; exact h1, h2, fun hp => ?_⟩
  obtain ⟨ad, e, hc⟩ := h3 hp
  refine ⟨ad, e, fun j p hj => ?_⟩
  rw [List.getElem?_map] at hj
  obtain ⟨s, es, rfl⟩ := Option.map_eq_some_iff.1 hj
  obtain ⟨c, q1, q2, q3⟩ := hc j s es
  exact ⟨c, by rw [hs]; exact q1, hK w s c q2, by rw [hs]; exact q3⟩
theorem C_toQ {w : World} {A : Option Addr} {n : Nat} {ps : List (Int × List Int)} (h : kO.C w A n ps) : Kd.C k76 w A n (ps.map toQ) := C_map toQ rfl (fun _ _ _ q => q) h
theorem fits_l0 {ps : List (Int × List Int)} (hl : ps.length ≤ 2147483647) : ∀ (k j : Nat), ps.length < k + j → j ≤ ps.length → ∃ r, laws_zzFits3.l0 k (ps.map toQ) (ps.length : Int) (j : Int) = some r ∧ (r = true → ∀ i p, j ≤ i → ps[i]? = some p → p.2.length ≤ 2147483647) := by
  intro k
  induction k with
  | zero => intro j h1 h2; omega
  | succ k ih =>
    intro j h1 h2
    by_cases h : j < ps.length
    · have w : wrap64 ((j : Int) + 1) = ((j + 1 : Nat) : Int) := by rw [wrap64_id (by omega) (by omega)]; rfl
      have lq : ((ps.map toQ).length : Int) = (ps.length : Int) := by rw [List.length_map]
      have eq : rd_T76 (ps.map toQ) (j : Int) = toQ ps[j] := by
        show (ps.map toQ).getD (j : Int).toNat z76 = _
        rw [Int.toNat_natCast, List.getD_eq_getElem?_getD, List.getElem?_map, List.getElem?_eq_getElem h]; rfl
      rw [laws_zzFits3.l0, if_pos (by omega), if_pos (by omega), lq, if_pos (by omega), eq]
      by_cases hb : ((toQ ps[j]).f1.length : Int) > 2147483647
      · refine ⟨false, ?_, fun e => by cases e⟩
        rw [laws_zzFits4.f, if_pos hb, Option.bind_some, if_neg (by simp)]
      · obtain ⟨r, hr, hp⟩ := ih (j + 1) (by omega) (by omega)
        refine ⟨r, ?_, fun e i p hi hpi => ?_⟩
        · rw [laws_zzFits4.f, if_neg hb, Option.bind_some, if_pos rfl, w]
          exact hr
        · by_cases ei : i = j
          · subst ei
            rw [List.getElem?_eq_getElem h] at hpi
            injection hpi with hpi
            subst hpi
            have hb' : ¬ ((ps[i].2.length : Int) > 2147483647) := hb
            omega
          · exact hp e i p (by omega) hpi
    · exact ⟨true, by rw [laws_zzFits3.l0, if_neg (by omega)], fun _ i p hi hpi => by have := (List.getElem?_eq_some_iff.1 hpi).1; omega⟩
theorem fits_f (ps : List (Int × List Int)) : ∃ r, laws_zzFits3.f (ps.length + 1) (ps.map toQ) = some r ∧ (r = true → ps.length ≤ 2147483647 ∧ ∀ p, p ∈ ps → p.2.length ≤ 2147483647) := by
  by_cases h : (ps.length : Int) > 2147483647
  · exact ⟨false, by rw [laws_zzFits3.f, List.length_map, if_pos h], fun e => by cases e⟩
  · obtain ⟨r, hr, hp⟩ := fits_l0 (ps := ps) (by omega) (ps.length + 1) 0 (by omega) (Nat.zero_le _)
    refine ⟨r, by rw [laws_zzFits3.f, List.length_map, if_neg h]; exact hr, fun e => ⟨by omega, fun p hm => ?_⟩⟩
    obtain ⟨i, hi⟩ := List.mem_iff_getElem?.1 hm
    exact hp e i p (Nat.zero_le _) hi
theorem kO_open {W : World} {x : Int} {C : List Int} {k : IntKind} {cs : List Value} (h : (Kd.pair (Kd.int k) (Kd.slice 5 (Kd.int .u8))).K W (x, C) cs) : ∃ A1 c1, cs = [.int k x, .slice A1 C.length c1] ∧ C8 W A1 C ∧ C.length ≤ c1 := by
  obtain ⟨cs0, cs1, e, e0, A1, c1, e1, l1, r1⟩ := h
  have e0' : cs0 = [.int k x] := e0
  have e1' : cs1 = [.slice A1 C.length c1] := e1
  subst e0' e1' e
  exact ⟨A1, c1, rfl, r1, l1⟩
set_option maxHeartbeats 1600000 in
set_option maxRecDepth 100000 in
theorem sps_calls {w : World} {A B : Option Addr} {c cB m : Nat} {ss : List (Int × List Int)} (h1 : kO.C w A m ss) (h2 : kPk.C w B m ss) (hx : ∀ s, s ∈ ss → 0 ≤ s.1 ∧ s.1 ≤ 255) :
    Calls Tryd.prog 40 #[.slice A m c, .slice B m cB] w fun en w' => en = .returned (.bool true) ∧ Below w.heap.size w w' := by
  have H1 := Aside0.mk h1
  have H2 := Aside0.mk h2
  have HX := Aside0.mk hx
  have ML := Aside0.mk (Kd.C_len h1)
  have m9 : m ≤ 9223372036854775807 := Kd.C_max h1
  clear h1 h2 hx
  go_enter Tryd.func40, Tryd.ntmps40
  go_wp2_with fail
  go_loopw [14] (fun iv wr => ∃ k : Nat, k ≤ m ∧ iv = .int .i64 (k : Int) ∧ Aside0 (Below w.heap.size w wr)) (fun iv _ => m - (intOf iv).toNat)
  case atStart => exact ⟨0, Nat.zero_le _, rfl, ⟨Below.refl _ _⟩⟩
  case round =>
    obtain ⟨k, hk, rfl, HW⟩ := hrel
    by_cases hlt : k < m
    · obtain ⟨⟨x, C⟩, es⟩ : ∃ p, ss[k]? = some p := ⟨ss[k]'(by have := ML.out; omega), List.getElem?_eq_getElem _⟩
      obtain ⟨ad, cs, rfl, _, hK, hcc⟩ := Kd.C_get (Kd.C_below H1.out HW.out) (0, []) (k : Int) (by omega) (by omega)
      obtain ⟨bd, ds, rfl, _, hK2, hdd⟩ := Kd.C_get (Kd.C_below H2.out HW.out) (0, []) (k : Int) (by omega) (by omega)
      rw [Int.toNat_natCast, List.getD_eq_getElem?_getD, es, Option.getD_some] at hK hK2
      rw [Int.toNat_natCast] at hcc hdd
      obtain ⟨A1, c1, rfl, r1, l1⟩ := kO_open hK
      obtain ⟨A2, c2, rfl, r2, l2⟩ := kO_open hK2
      obtain ⟨n, en⟩ : ∃ n, C.length = n := ⟨_, rfl⟩
      rw [en] at hcc hdd
      have y0 : wr.cell? (ad.add (k * 2)) = some (.int .u8 x) := hcc 0 _ rfl
      have y1 : wr.cell? ⟨(ad.add (k * 2)).block, (ad.add (k * 2)).off + 1, none⟩ = some (.slice A1 n c1) := by rw [← add_field _ _ 1 (by omega)]; exact hcc 1 _ rfl
      have z0 : wr.cell? (bd.add (k * 2)) = some (.int .i64 x) := hdd 0 _ rfl
      have z1 : wr.cell? ⟨(bd.add (k * 2)).block, (bd.add (k * 2)).off + 1, none⟩ = some (.slice A2 n c2) := by rw [← add_field _ _ 1 (by omega)]; exact hdd 1 _ rfl
      have wx : IntKind.i64.wrap x = x := by have q := HX.out _ (List.mem_of_getElem? es); simp only at q; exact IntWalk.i64_in _ (by omega)
      have iklt : (k : Int) < (m : Int) := by omega
      have ik0 : (0 : Int) ≤ (k : Int) := by omega
      have BA : Below wr.heap.size wr (wr.alloc (.cells #[.int .u8 x, .slice A1 n c1] 76)) := below_alloc (Below.refl _ _) _
      have hrow := heap_alloc_new wr (.cells #[.int .u8 x, .slice A1 n c1] 76)
      have RR := Aside0.mk (And.intro (Kd.C_below r1 BA) (Kd.C_below r2 BA))
      have EN := Aside0.mk en.symm
      have BB := Aside0.mk (below_then HW.out HW.out.size BA)
      have x0 := (cell_of_row _ _ 0 _ _ _ hrow).trans rfl
      have x1 := (cell_of_row _ _ 1 _ _ _ hrow).trans rfl
      have w0 := (BA.cell (World.block_lt_of_cell? wr _ z0)).trans z0
      have w1 := (BA.cell (World.block_lt_of_cell? wr _ z1)).trans z1
      clear hK hK2 hcc hdd r1 r2 en l1 l2 hrow BA
      go_upto_region 6 with (fail)
      clear y0 y1 z0 z1
      generalize wr.alloc (.cells #[.int .u8 x, .slice A1 n c1] 76) = W at RR BB x0 x1 w0 w1 ⊢
      generalize wr.heap.size = g at x0 x1 ⊢
      have SB := Aside0.mk (same_calls (w := W.drew) (c := c1) (d := c2) (n := n) (m := n) (Kd.C_drew RR.out.1) (Kd.C_drew RR.out.2) rfl EN.out EN.out)
      go_region_held3 (fun w' => w'.cell? ⟨g, 0, none⟩ = some (.int .u8 x) ∧ w'.cell? ⟨g, 1, none⟩ = some (.slice A1 n c1) ∧ w'.cell? (bd.add (k * 2)) = some (.int .i64 x) ∧ w'.cell? ⟨(bd.add (k * 2)).block, (bd.add (k * 2)).off + 1, none⟩ = some (.slice A2 n c2)) (first | (exact ⟨x0, x1, w0, w1⟩) | (exact ⟨by assumption, by assumption, by assumption, by assumption⟩) | go_keep) ((go_at_call 22; (with_reducible refine SB.out.mono ?_); rintro en w5 ⟨rfl, hB⟩; have B5 := Aside0.mk hB; have hB0 : w5.cell? ⟨g, 0, none⟩ = some (.int .u8 x) ∧ w5.cell? ⟨g, 1, none⟩ = some (.slice A1 n c1) ∧ w5.cell? (bd.add (k * 2)) = some (.int .i64 x) ∧ w5.cell? ⟨(bd.add (k * 2)).block, (bd.add (k * 2)).off + 1, none⟩ = some (.slice A2 n c2) := ⟨(hB.cell (World.block_lt_of_cell? W _ x0)).trans x0, (hB.cell (World.block_lt_of_cell? W _ x1)).trans x1, (hB.cell (World.block_lt_of_cell? W _ w0)).trans w0, (hB.cell (World.block_lt_of_cell? W _ w1)).trans w1⟩; clear hB))
      go_wp2_with fail
      go_roundw
      case rel => exact ⟨k + 1, hlt, by first | rfl | go_num, ⟨below_then BB.out BB.out.size ((below_drew (Below.refl _ _)).trans B5.out)⟩⟩
      case measure => simp [intOf]; omega
    · obtain rfl : k = m := by omega
      go_wp2_with fail
      go_ret
      exact ⟨rfl, HW.out⟩
theorem rdl_lenB (n : Int) (h0 : 0 ≤ n) (h1 : n ≤ 4294967295) (m : List Int) : rdl (lenB n ++ m) = some (n, false, m) := by
  unfold lenB
  split
  · rename_i a; simp only [List.cons_append, List.nil_append, rdl, if_pos a]
  · rename_i a
    split
    · rename_i b
      have e : (192 + (n - 192) / 256 - 192) * 256 + ((n - 192) % 256 + 192) = n := by omega
      simp only [List.cons_append, List.nil_append, rdl]
      rw [if_neg (by omega), if_pos (by omega), e]
    · rename_i b
      have e : n / 16777216 * 16777216 + n / 65536 % 256 * 65536 + n / 256 % 256 * 256 + n % 256 = n := by omega
      simp only [List.cons_append, List.nil_append, rdl]
      rw [if_neg (by omega), if_neg (by omega), if_neg (by omega), e]
theorem lenB_bytes (n : Int) (h0 : 0 ≤ n) (h1 : n ≤ 4294967295) : ∀ x ∈ lenB n, 0 ≤ x ∧ x ≤ 255 := by
  intro x hx
  unfold lenB at hx
  split at hx
  · simp at hx; omega
  · split at hx
    · simp at hx; omega
    · simp at hx; omega
theorem tagB_val : ∀ n : Nat, n < 64 → tagB (n : Int) = 192 + (n : Int) := by decide +kernel
/-- Behind a header that is written stands the body. -/
theorem hdr_back {p : Nat} (hp : p < 64) {l l2 : List Int} {split : Int} (hn : l.length ≤ 4294967295) {aE aU : Addr} (W : World) (d s : Nat) (A : Option Addr) (c : Nat) (hS : Src W d s A c ((tagB (p : Int) :: lenB (l.length : Int)) ++ l ++ l2) split) (hE : Env W d aE aU) :
    Calls Tryd.prog 79 #[(.iface 94 (.pointer (some ⟨s, 0, none⟩)))] W (HdOk W d s split (p : Int) (l.length : Int) l true l2) := by
  have hr : rdl (lenB (l.length : Int) ++ (l ++ l2)) = some ((l.length : Int), false, l ++ l2) := rdl_lenB _ (by omega) (by omega) _
  rw [List.append_assoc, List.cons_append] at hS
  have h := rh_span hS hE (by rw [tagB_val p hp]; omega) hr
  rw [Int.toNat_natCast, List.take_left, List.drop_left, decide_eq_true (by simp), show tagB (p : Int) % 64 = (p : Int) by rw [tagB_val p hp]; omega] at h
  exact h
/-- What is written. -/
def wroteO (ss : List (Int × List Int)) : List Int := (ss.map fun s => (tagB s.1 :: lenB (s.2.length : Int)) ++ s.2).flatten
theorem wroteO_cons (s : Int × List Int) (ss : List (Int × List Int)) : wroteO (s :: ss) = (tagB s.1 :: lenB (s.2.length : Int)) ++ s.2 ++ wroteO ss := by
  simp [wroteO]
theorem wroteO_append (a b : List (Int × List Int)) : wroteO (a ++ b) = wroteO a ++ wroteO b := by
  simp [wroteO]
theorem wroteO_byte (ss : List (Int × List Int)) (h : ∀ s, s ∈ ss → (0 ≤ s.1 ∧ s.1 < 64) ∧ s.2.length ≤ 10000000 ∧ ∀ x ∈ s.2, 0 ≤ x ∧ x ≤ 255) : ∀ x ∈ wroteO ss, 0 ≤ x ∧ x ≤ 255 := by
  intro x hx
  unfold wroteO at hx
  obtain ⟨l, hl, hxl⟩ := List.mem_flatten.1 hx
  obtain ⟨s, hs, rfl⟩ := List.mem_map.1 hl
  obtain ⟨a, b, c⟩ := h s hs
  rcases List.mem_append.1 hxl with q | q
  · rcases List.mem_cons.1 q with rfl | q
    · obtain ⟨n, hn⟩ := Int.eq_ofNat_of_zero_le a.1
      rw [hn, tagB_val n (by omega)]
      omega
    · exact lenB_bytes _ (by omega) (by omega) x q
  · exact c x q
theorem wroteO_read : ∀ (ss : List (Int × List Int)), (∀ s, s ∈ ss → (0 ≤ s.1 ∧ s.1 < 64) ∧ s.2.length ≤ 10000000) → OpqR (wroteO ss) ss 1 := by
  intro ss
  induction ss with
  | nil => intro _; exact .stop nx_eof
  | cons s ss ih =>
    intro h
    obtain ⟨⟨a, b⟩, c⟩ := h s List.mem_cons_self
    obtain ⟨p, hp⟩ := Int.eq_ofNat_of_zero_le a
    rw [wroteO_cons]
    have hs : s = ((p : Int), s.2) := by rw [← hp]
    have nx : NxOk ((tagB s.1 :: lenB (s.2.length : Int)) ++ s.2 ++ wroteO ss) (p : Int) s.2 (wroteO ss) := by
      rw [hp]
      exact nx_ok (n := (s.2.length : Int)) (by omega) (fun w d s' A c' split aE aU hS hE => hdr_back (by omega) (by omega) w d s' A c' hS hE)
    have m := OpqR.more nx (by omega) (ih (fun t ht => h t (List.mem_cons_of_mem _ ht)))
    rw [← hs] at m
    exact m
end Go.Proofs.YtfhefoaieefnkaaDoor.Rd.Pob

/- The law FnOpaqueBack. -/
set_option linter.unusedVariables false
set_option linter.unusedSimpArgs false
namespace Go.Proofs.YtfhefoaieefnkaaDoor.Rd
open Go.RowKit Go.Proofs.YtfhefoaieefnkaaDoorW.PrintWords Go.Proofs.YtfhefoaieefnkaaDoorW.PrintMore Go.Proofs.YtfhefoaieefnkaaDoor.Kit Go.Proofs.YtfhefoaieefnkaaDoor.PFnOpaqueBack Go.Proofs.YtfhefoaieefnkaaDoor.Rd.Pob

theorem infoPk : (Tryd.prog.info? 60).map (fun i => (i.zero, i.size, i.bytes)) = some (some (.agg #[.int .i64 0, .slice none 0 0]), 2, 32) := by kernel_rfl
def goodO (p : Int × List Int) : Prop := (Lit.int .u8 p.1).wf = true ∧ (p.2.length ≤ maxLen ∧ ∀ x, x ∈ p.2 → (Lit.int .u8 x).wf = true)
def tag6 (p : Int × List Int) : Int × List Int := (p.1 % 64, p.2)
theorem good_byteO {x : Int} (h : (Lit.int .u8 x).wf = true) : 0 ≤ x ∧ x ≤ 255 := by
  have q := bytes_of (l := [x]) (fun y hy => by rw [List.mem_singleton.1 hy]; exact h) 0
  exact q
theorem heap_kO : Kd.Heap kO := Kd.heap_pair (Kd.heap_int _) (Kd.heap_slice _ (Kd.heap_int _))
theorem kOF_open {W : World} {ok : Nat → Prop} {x : Int} {C : List Int} {cs : List Value} (h : Kd.FK kO W ok (x, C) cs) : ∃ A c, cs = [.int .u8 x, .slice A C.length c] ∧ C.length ≤ c ∧ Kd.F (Kd.int .u8) W ok A C.length C := by
  obtain ⟨A, c, e, r, l⟩ := kO_open (Kd.FK_now h)
  refine ⟨A, c, e, l, fun W' hW => ?_⟩
  obtain ⟨A', c', e', r', _⟩ := kO_open (h W' hW)
  rw [e] at e'
  injection e' with _ e2
  injection e2 with e2 _
  injection e2 with ha _ _
  rw [ha]
  exact r'
theorem fkPk {W : World} {ok : Nat → Prop} {x : Int} {C : List Int} {A : Option Addr} {c n : Nat} (e : n = C.length) (l : n ≤ c) (h : Kd.F (Kd.int .u8) W ok A n C) : Kd.FK kPk W ok (x, C) [.int .i64 x, .slice A n c] := by
  subst e
  exact fun W' hW => ⟨[.int .i64 x], [.slice A C.length c], rfl, rfl, A, c, rfl, l, h W' hW⟩
theorem bytes_memO {l : List Int} (h : ∀ x ∈ l, 0 ≤ x ∧ x ≤ 255) : Bytes l := by
  intro i
  by_cases hi : i < l.length
  · rw [List.getD_eq_getElem?_getD, List.getElem?_eq_getElem hi]; exact h _ (List.getElem_mem hi)
  · rw [List.getD_eq_getElem?_getD, List.getElem?_eq_none (by omega)]; simp
theorem and63i {x : Int} (h0 : 0 ≤ x) (h1 : x ≤ 255) : Go.bits .and .u8 x 63 = x % 64 := by
  obtain ⟨n, rfl⟩ := Int.eq_ofNat_of_zero_le h0
  rw [and63 n (by omega)]
  omega
set_option maxHeartbeats 1600000 in
set_option maxRecDepth 100000 in
theorem law_ob (A : Option Addr) (c : Nat) (ps : List (Int × List Int)) (split : Int) (w : World) (hr : kO.C w A ps.length ps) (hc : ps.length ≤ c) (hm : ps.length ≤ maxLen) (hw : ∀ p, p ∈ ps → goodO p) (hs : (Lit.int .i64 split).wf = true) {aE aU : Addr} (hE : Env w w.heap.size aE aU) :
    Calls Tryd.prog 11 #[.slice A ps.length c, .int .i64 split] w fun e w' => e = .returned (.bool true) ∧ Below w.heap.size w w' := by
  obtain ⟨r, hf, hfit⟩ := fits_f ps
  obtain ⟨m, em⟩ : ∃ m, ps.length = m := ⟨_, rfl⟩
  have CF := laws_zzFits3.calls (ps.length + 1) A c (ps.map toQ) r w (by rw [List.length_map]; exact C_toQ hr) (by rw [List.length_map]; exact hc) hf
  rw [List.length_map, em] at CF
  have CF' := Aside0.mk CF
  have HR := Aside0.mk hr
  have HG := Aside0.mk (fun p hp => And.intro (good_byteO (hw p hp).1) (fun x hx => good_byteO ((hw p hp).2.2 x hx)))
  have HE := Aside0.mk hE
  have EM := Aside0.mk em
  have FIT := Aside0.mk hfit
  rw [em]
  have m9 : m ≤ 9223372036854775807 := by have := Kd.C_max hr; omega
  clear CF hf hr hc hm hw hs hE hfit em
  go_enter Tryd.func11, Tryd.ntmps11
  go_wp2_with fail
  refine CF'.out.mono ?_
  rintro en w1 ⟨rfl, hB⟩
  have B1 := Aside0.mk hB
  clear hB
  cases r
  · go_wp2_with fail
    go_ret
    exact ⟨rfl, B1.out⟩
  · have FF := Aside0.mk (FIT.out rfl)
    by_cases h1000 : 1000 < m
    · have i1 : (1000 : Int) < (m : Int) := by omega
      have HM := Aside0.mk h1000
      clear h1000
      go_wp2_with fail
      go_ret
      exact ⟨rfl, B1.out⟩
    · have i1 : ¬ (1000 : Int) < (m : Int) := by omega
      have HM := Aside0.mk h1000
      have HC := Aside0.mk (Kd.C_F heap_kO (Kd.C_below HR.out B1.out))
      clear h1000
      go_wp2_with fail
      go_loopw [5, 6, 19] (fun fv wv iv wr => ∃ (k : Nat) (f2 v2 : Value), fv = f2 ∧ wv = v2 ∧ iv = .int .i64 (k : Int) ∧ k ≤ m ∧ Aside0 (R8 5 wr w1.heap.size f2 (wroteO ((ps.map tag6).take k)) ∧ (wroteO ((ps.map tag6).take k)).length ≤ 2097200) ∧ Aside0 (Kd.N kPk 60 wr w1.heap.size (fun j => True ∧ some j ≠ f2.ownBlock) v2 ((ps.map tag6).take k)) ∧ Aside0 (Below w1.heap.size w1 wr ∧ ∀ p, p ∈ ps.take k → p.2.length ≤ 1048576)) (fun _ _ iv _ => m - (intOf iv).toNat)
      case atStart => exact ⟨0, _, _, rfl, rfl, rfl, Nat.zero_le _, ⟨Kd.R_nil _ _ _ _ _, by simp [wroteO]⟩, ⟨Kd.N_nil _ _ _ _ _⟩, ⟨Below.refl _ _, fun p h => by simp at h⟩⟩
      case round =>
        obtain ⟨k, f2, v2, ef, ev, rfl, hk, HF, HN, HB⟩ := hrel
        obtain rfl := ef.symm
        obtain rfl := ev.symm
        obtain ⟨AF, cF, rfl, lF, _⟩ := Kd.R_reads HF.out.1
        obtain ⟨nF, enF⟩ : ∃ n, (wroteO ((ps.map tag6).take k)).length = n := ⟨_, rfl⟩
        rw [enF] at HF HN lF ⊢
        have ENF := Aside0.mk enF
        have nF9 : nF ≤ 2097200 := HF.out.2
        clear enF
        by_cases hlt : k < m
        · obtain ⟨⟨x, C⟩, es⟩ : ∃ p, ps[k]? = some p := ⟨ps[k]'(by have := EM.out; omega), List.getElem?_eq_getElem _⟩
          obtain ⟨ad, cs, rfl, _, hK, hcc, _⟩ := Kd.F_get (Kd.F_below HC.out HB.out.1) (0, []) (k : Int) (by omega) (by have := EM.out; omega)
          rw [Int.toNat_natCast, List.getD_eq_getElem?_getD, es, Option.getD_some] at hK
          rw [Int.toNat_natCast] at hcc
          obtain ⟨A1, c1, rfl, l1, r1⟩ := kOF_open hK
          obtain ⟨nC, eC⟩ : ∃ n, C.length = n := ⟨_, rfl⟩
          rw [eC] at hcc l1 r1
          have y0 : wr.cell? (ad.add (k * 2)) = some (.int .u8 x) := hcc 0 _ rfl
          have y1 : wr.cell? ⟨(ad.add (k * 2)).block, (ad.add (k * 2)).off + 1, none⟩ = some (.slice A1 nC c1) := by rw [← add_field _ _ 1 (by omega)]; exact hcc 1 _ rfl
          have hg := HG.out _ (List.mem_of_getElem? es)
          obtain ⟨xm, exm⟩ : ∃ y, x % 64 = y := ⟨_, rfl⟩
          have hand : Go.bits .and .u8 x 63 = xm := by rw [and63i hg.1.1 hg.1.2]; exact exm
          have XM := Aside0.mk (show 0 ≤ xm ∧ xm < 64 ∧ x % 64 = xm by omega)
          have wx : IntKind.i64.wrap xm = xm := IntWalk.i64_in _ (by omega)
          have ES := Aside0.mk es
          have RC := Aside0.mk (And.intro r1 (And.intro l1 eC.symm))
          have iklt : (k : Int) < (m : Int) := by omega
          have ik0 : (0 : Int) ≤ (k : Int) := by omega
          have nl : nC ≤ 2147483647 := by have := FF.out.2 _ (List.mem_of_getElem? es); simp only at this; omega
          clear hK hcc r1 l1 es hg exm eC
          by_cases hb1 : 1048576 < nC
          · have j1 : (1048576 : Int) < (nC : Int) := by omega
            have HB1 := Aside0.mk hb1
            clear hb1
            go_wp2_with fail
            go_ret
            exact ⟨rfl, below_then B1.out B1.out.size (below_then HB.out.1 HB.out.1.size (below_alloc (Below.refl _ _) _))⟩
          · have j1 : ¬ (1048576 : Int) < (nC : Int) := by omega
            have HB1 := Aside0.mk hb1
            clear hb1
            by_cases hb2 : 1048576 < nF
            · have j2 : (1048576 : Int) < (nF : Int) := by omega
              have HB2 := Aside0.mk hb2
              clear hb2
              go_wp2_with fail
              go_ret
              exact ⟨rfl, below_then B1.out B1.out.size (below_then HB.out.1 HB.out.1.size (below_alloc (Below.refl _ _) _))⟩
            · have j2 : ¬ (1048576 : Int) < (nF : Int) := by omega
              have HB2 := Aside0.mk hb2
              clear hb2
              go_wp2_with fail
              obtain ⟨W, eW⟩ : ∃ W, wr.alloc (.cells #[.int .u8 xm, .slice A1 nC c1] 76) = W := ⟨_, rfl⟩
              have hrow := heap_alloc_new wr (.cells #[.int .u8 xm, .slice A1 nC c1] 76)
              have BW : Below wr.heap.size wr W := eW ▸ below_alloc (Below.refl _ _) _
              rw [eW] at hrow ⊢
              have CC := Aside0.mk (wop_calls (w := W) (tg := xm) (c := c1) (by have q := Kd.F_now RC.out.1; rw [RC.out.2.2] at q; exact Kd.C_below q BW) RC.out.2.2 (by have := HB1.out; omega))
              have BB := Aside0.mk BW
              have ROW := Aside0.mk hrow
              clear eW BW hrow y0 y1
              refine CC.out.mono ?_
              rintro en w2 ⟨v, rfl, hR, hB⟩
              obtain ⟨A3, c3, rfl, _, hC3⟩ := Kd.R_reads hR
              obtain ⟨n3, en3⟩ : ∃ n, ((tagB xm :: lenB (nC : Int)) ++ C).length = n := ⟨_, rfl⟩
              rw [en3]
              have Br2 : Below wr.heap.size wr w2 := below_then BB.out BB.out.size hB
              have HF2 := Aside0.mk (Kd.R_below HF.out.1 Br2)
              have HN2 := Aside0.mk (Kd.N_below HN.out Br2)
              have B2 := Aside0.mk (below_then HB.out.1 HB.out.1.size Br2)
              have ROW2 := Aside0.mk ((hB.block _ (blk_lt ROW.out)).trans ROW.out)
              have FC2 := Aside0.mk (Kd.F_below RC.out.1 Br2)
              have HC3 := Aside0.mk (And.intro hC3 en3.symm)
              have lb : (lenB (nC : Int)).length ≤ 5 := by unfold lenB; split <;> (try split) <;> simp
              have N3 : n3 = 1 + (lenB (nC : Int)).length + nC := by rw [← en3, List.length_append, List.length_cons, ← RC.out.2.2]; omega
              have LL := Aside0.mk (show n3 ≤ nC + 6 ∧ nC ≤ 1048576 ∧ nF ≤ 1048576 from ⟨by omega, by have := HB1.out; omega, by have := HB2.out; omega⟩)
              have OWN := Aside0.mk (show (∀ j, (Value.slice AF nF cF).ownBlock = some j → w1.heap.size ≤ j ∧ j < wr.heap.size) ∧ (∀ j, v2.ownBlock = some j → w1.heap.size ≤ j) from ⟨fun j e => ⟨Kd.R_base HF.out.1 j e, Kd.R_lt HF.out.1 j e⟩, fun j e => Kd.N_base HN.out j e⟩)
              clear hR hB hC3 en3 Br2 lb N3
              obtain ⟨g, eg⟩ : ∃ g, wr.heap.size = g := ⟨_, rfl⟩
              have SG := Aside0.mk (show g < w2.heap.size from eg ▸ blk_lt ROW2.out)
              rw [eg] at ROW2 OWN ⊢
              clear eg
              go_upto_region 14 with (((with_reducible refine gate_dst (N := 39) rfl ?_); go_loud (refine append8 w1.heap.size (w0 := w1) rfl (.tmp 36) (.tmp 38) 22 5 rfl Tryd.underlying22 infoB (.slice AF nF cF) (wroteO ((ps.map tag6).take k)) ((tagB xm :: lenB (nC : Int)) ++ C) A3 c3 rfl rfl HC3.out.2 HF2.out HC3.out.1 B2.out B2.out.size ?hl ?_; (case hl => rw [ENF.out, ← HC3.out.2]; have := LL.out; omega); intro v3 w3 hR hB hG hAt; have R3 := Aside0.mk hR; have B3 := Aside0.mk hB; have G3 := Aside0.mk (And.intro hG hAt); clear hR hB hG hAt)))
              have M3 := Aside0.mk (Kd.N_after HN2.out G3.out.1 G3.out.2)
              have hr3 := (G3.out.1.block g SG.out (fun e => by have := OWN.out.1 g e.symm; omega)).trans ROW2.out
              have FC3 := Aside0.mk (Kd.F_step FC2.out (W1 := w3) (fun j hj hlt => G3.out.1.block j hlt (fun e => by have := OWN.out.1 j e.symm; omega)))
              have x0 := (cell_of_row _ _ 0 _ _ _ hr3).trans rfl
              have x1 := (cell_of_row _ _ 1 _ _ _ hr3).trans rfl
              have KL := Aside0.mk (show ((ps.map tag6).take k).length ≤ 1000 by rw [List.length_take]; have := HM.out; omega)
              clear hr3
              go_upto_region 15 with (((with_reducible refine gate_dst (N := 48) rfl ?_); go_loud (refine Kd.N_append kPk (w0 := w1) (W := w3) w1.heap.size rfl (.tmp 40) (.tmp 47) 74 60 (.agg #[.int .i64 0, .slice none 0 0]) 32 rfl Tryd.underlying74 infoPk rfl (by decide) (by decide) v2 ((ps.map tag6).take k) (xm, C) [.int .i64 xm, .slice A1 nC c1] (fun j => True ∧ some j ≠ v3.ownBlock) (fun j => j < w1.heap.size) rfl rfl (fkPk RC.out.2.2 RC.out.2.1 FC3.out) ?hk ?hf M3.out B3.out B3.out.size ?hl ?_; (case hk => intro j hj; exact ⟨⟨trivial, fun e => by have := Kd.R_base R3.out j e.symm; omega⟩, fun e => by have := OWN.out.2 j e.symm; omega⟩); (case hf => intro j hj; exact ⟨trivial, fun e => by have := Kd.R_lt R3.out j e.symm; omega⟩); (case hl => have := KL.out; omega); intro v4 w4 hN hB hG _; have N4 := Aside0.mk hN; have B4 := Aside0.mk hB; have G4 := Aside0.mk hG; clear hN hB hG)))
              have R4 := Aside0.mk ((Tch.of_grown G4.out).r8 R3.out (fun j e q => by
                obtain ⟨cells, hcell⟩ := Kd.R_typed R3.out j e
                exact Kd.N_ne M3.out hcell (by decide) q.symm))
              go_wp2_with fail
              go_roundw
              case rel =>
                have es := ES.out
                have e1 : (ps.map tag6).take (k + 1) = (ps.map tag6).take k ++ [(xm, C)] := by
                  rw [List.take_add_one, List.getElem?_map, es]
                  simp only [Option.map_some, Option.toList_some, tag6]
                  rw [XM.out.2.2]
                have e2 : wroteO ((ps.map tag6).take (k + 1)) = wroteO ((ps.map tag6).take k) ++ ((tagB xm :: lenB (nC : Int)) ++ C) := by
                  rw [e1, wroteO_append]
                  simp [wroteO, RC.out.2.2]
                refine ⟨k + 1, v3, v4, rfl, rfl, by first | rfl | go_num, hlt, ⟨?_, ?_⟩, ⟨?_⟩, ⟨B4.out, fun p hp => ?_⟩⟩
                · rw [e2]; exact R4.out
                · rw [e2, List.length_append, ENF.out, ← HC3.out.2]; have := LL.out; omega
                · rw [e1]; exact N4.out
                · rw [List.take_add_one, es] at hp
                  rcases List.mem_append.1 hp with hp | hp
                  · exact HB.out.2 p hp
                  · simp only [Option.toList_some, List.mem_singleton] at hp
                    subst hp
                    have := LL.out
                    have := RC.out.2.2
                    simp only
                    omega
              case measure => simp [intOf]; omega
        · obtain rfl : k = m := by omega
          have lm : (ps.map tag6).length = k := by rw [List.length_map]; exact EM.out
          rw [List.take_of_length_le (by omega)] at HF HN ENF
          have hp : ∀ p, p ∈ ps → p.2.length ≤ 1048576 := fun p h => HB.out.2 p (by rw [List.take_of_length_le (by have := EM.out; omega)]; exact h)
          have hs : ∀ s, s ∈ ps.map tag6 → (0 ≤ s.1 ∧ s.1 < 64) ∧ s.2.length ≤ 10000000 ∧ ∀ x ∈ s.2, 0 ≤ x ∧ x ≤ 255 := by
            intro s h
            obtain ⟨p, hpm, rfl⟩ := List.mem_map.1 h
            have q := HG.out p hpm
            have q2 := hp p hpm
            have e1 : (tag6 p).1 = p.1 % 64 := rfl
            have e2 : (tag6 p).2 = p.2 := rfl
            rw [e1, e2]
            exact ⟨by omega, by omega, q.2⟩
          have BW := Aside0.mk (below_then B1.out B1.out.size HB.out.1)
          have RS := Aside0.mk (rop_calls (c := cF) (n := nF) (split := split) (Kd.R_reads' HF.out.1).2.2 (by rw [ENF.out]; exact (Kd.R_reads' HF.out.1).2.1) ENF.out.symm (bytes_memO (wroteO_byte _ hs)) ((HE.out.below BW.out).up BW.out.size) (wroteO_read _ (fun s h => ⟨(hs s h).1, (hs s h).2.1⟩)) (by have := HM.out; omega))
          obtain ⟨AW, cW, rfl, _, hCW⟩ := Kd.N_reads HN.out
          rw [lm] at hCW ⊢
          have CW := Aside0.mk hCW
          have LM := Aside0.mk lm
          have SX := Aside0.mk (fun s h => And.intro (hs s h).1.1 (show s.1 ≤ 255 by have := (hs s h).1; omega))
          clear hp hs hCW lm
          go_wp2_with fail
          refine RS.out.mono ?_
          rintro en w3 ⟨v', rfl, hR, hB⟩
          obtain ⟨A5, c5, rfl, _, hC5⟩ := Kd.R_reads hR
          rw [LM.out] at hC5 ⊢
          have SP := Aside0.mk (sps_calls (c := c5) (cB := cW) hC5 (Kd.C_below CW.out hB) SX.out)
          have B3 := Aside0.mk (below_then BW.out BW.out.size hB)
          clear hR hB hC5
          go_wp2_with fail
          refine SP.out.mono ?_
          rintro en w4 ⟨rfl, hB⟩
          have B4 := Aside0.mk (below_then B3.out B3.out.size hB)
          clear hB
          go_wp2_with fail
          go_ret
          exact ⟨rfl, B4.out⟩
end Go.Proofs.YtfhefoaieefnkaaDoor.Rd
