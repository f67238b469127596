/- Rals, Ralp, Nxt, Rop, Con, Nxc, Fha in one text (join.py). -/
import Derived.Test.YtfhefoaieefnkaaDoorRall
import Derived.Test.YtfhefoaieefnkaaDoorRdh
import Derived.Test.YtfhefoaieefnkaaDoorMkr
import Derived.Test.YtfhefoaieefnkaaDoorOwn
import Derived.Great.BuildSlice
import Derived.Test.YtfhefoaieefnkaaDoorRab
import Derived.Test.YtfhefoaieefnkaaDoorRhd
import Derived.Test.YtfhefoaieefnkaaDoorRpp
import Derived.Test.YtfhefoaieefnkaaDoorSame
/- io.ReadAll over a span of a source. -/
set_option linter.unusedVariables false
set_option linter.unusedSimpArgs false
namespace Go.Proofs.YtfhefoaieefnkaaDoor.Rd
open Go.RowKit Go.Proofs.YtfhefoaieefnkaaDoorW.PrintWords Go.Proofs.YtfhefoaieefnkaaDoorW.PrintMore Go.Proofs.YtfhefoaieefnkaaDoor.Kit

set_option maxHeartbeats 1600000 in
set_option maxRecDepth 100000 in
theorem rall_spn {w : World} {d s b : Nat} {split : Int} {bd rest : List Int} {ok : Bool} {aE aU : Addr} (h : Bdy w d s b split (.iface 197 (.pointer (some ⟨b, 0, none⟩))) bd ok rest) (hE : Env w d aE aU) (hbl : bd.length ≤ 100000000) :
    Calls Tryd.prog 86 #[(.iface 197 (.pointer (some ⟨b, 0, none⟩)))] w (RallOut w d s b split (.iface 197 (.pointer (some ⟨b, 0, none⟩))) ok rest aU bd) := by
  have H0 := Aside0.mk h
  have HE := Aside0.mk hE
  have H0l := Aside0.mk (And.intro h.lts (And.intro h.ltb (Nat.le_of_lt (Nat.lt_of_le_of_lt h.ds h.lts))))
  have ds := h.ds
  have db := h.db
  clear h hE
  go_enter Tryd.func86, Tryd.ntmps86
  go_wp2_with (first | ((with_reducible refine gate_dst (N := 13) rfl ?_); refine makeC (w0 := w) w.heap.size rfl rfl 22 5 (.const (.int .i64 0)) (.const (.int .i64 512)) rfl 512 rfl rfl rfl Tryd.underlying22 infoB (by decide) (Below.refl _ _) (Nat.le_refl _) ?_; intro g w1 g1 g2 g3 hR hB hB'; have R1 := Aside0.mk hR; have B1 := Aside0.mk hB; have G1 := Aside0.mk (And.intro g1 g3); clear hR hB hB' g1 g2 g3) | ((with_reducible refine gate_dst (N := 14) rfl ?_); refine makeN0 (Kd.slice 5 (Kd.int .u8)) (ok := fun k => w.heap.size ≤ k ∧ k ≠ g) (w0 := w) w.heap.size rfl rfl 117 22 (.const (.int .i64 0)) (.const (.int .i64 4)) rfl 4 rfl rfl rfl Tryd.underlying117 infoSS rfl (by decide) (by decide) ?hok B1.out ?hb ?_; (case hok => exact ⟨B1.out.size, fun e => by have := G1.out.2; omega⟩); (case hb => exact B1.out.size); intro gN w2 q1 q2 q3 hN hB hB'; have N2 := Aside0.mk hN; have R2 := Aside0.mk (Kd.R_below R1.out hB'); have B2 := Aside0.mk hB; have G2 := Aside0.mk (And.intro q1 q3); clear hN hB hB' q1 q2 q3))
  go_loopw [4, 5, 6, 7] (fun bv nv cv fv wr => ∃ (g C L nx fsz : Nat) (AN : Option Addr) (cN : Nat) (xs : List Int) (dats : List (List Int)), bv = .slice (some ⟨g, 0, none⟩) L C ∧ nv = .int .i64 (nx : Int) ∧ cv = .slice AN dats.length cN ∧ fv = .int .i64 (fsz : Int) ∧ Aside0 (RInv w d s b split (.iface 197 (.pointer (some ⟨b, 0, none⟩))) bd ok rest wr g C L nx fsz cv xs dats)) (fun bv _ _ fv _ => bd.length - (lenV bv + (intOf fv).toNat))
  case atStart =>
    refine ⟨g, 512, 0, 256, 0, some ⟨gN, 0, none⟩, 4, List.replicate 512 0, [], rfl, rfl, rfl, rfl, ⟨?_⟩⟩
    exact { bdy := H0.out.below B2.out, le := by omega, room := by decide, c256 := by decide, nx1 := by decide, nx2 := by decide, cmax := by decide, gw := G1.out.1, buf := R2.out, now := by simp, old := by simp, few := by simp, chk := N2.out, tch := Tch.of_below B2.out }
  case round =>
    clear H0 R1 R2 B1 B2 G1 G2 N2
    obtain ⟨g', C, L, nx, fsz, AN, cN, xs, dats, rfl, rfl, rfl, rfl, HI⟩ := hrel
    have HI' := HI.out
    have LC := HI'.room
    have C256 := HI'.c256
    have CM := HI'.cmax
    have lg := Kd.R_lt HI'.buf g' rfl
    have gs : g' ≠ s := fun e => by have := H0l.out.1; have := HI'.gw; omega
    have gb : g' ≠ b := fun e => by have := H0l.out.2.1; have := HI'.gw; omega
    have gd : d ≤ g' := by have := H0l.out.2.2; have := HI'.gw; omega
    have d1 : ∀ W : World, (Instr.slice 22 (.slice (some ⟨g', 0, none⟩) L C) (some (.int .i64 (L : Int))) (some (.int .i64 (C : Int))) none).run Tryd.prog W = .ok (.slice (some ⟨g', L, none⟩) (C - L) (C - L)) W := by
      obtain ⟨i, hi, _, hsz, _⟩ := info_partsC infoB
      intro W
      have hel : Tryd.prog.elem 22 = 5 := by simp [Program.elem, Tryd.underlying22]
      have hu : Tryd.prog.underlying 22 = some (.slice (Tryd.prog.elem 22)) := by rw [hel]; exact Tryd.underlying22
      have cl : ¬ C = L := by omega
      rw [run_slice_lh W 22 (some ⟨g', 0, none⟩) L C hu .i64 .i64 (L : Int) (C : Int) (Int.natCast_nonneg _) (by omega) (by omega), hel]
      simp [sizeOf, typeInfo, hi, hsz, sliced, Result.andThen, cl, Addr.add]
      omega
    have HE1 := Aside0.mk (HE.out.kept HI'.tch (fun j q => by rcases q with q | q <;> subst q <;> assumption))
    have H1d := Aside0.mk (HI'.bdy.below (below_drew (Below.refl _ _)))
    have R1d := Aside0.mk (Kd.R_drew HI'.buf)
    have E1d := Aside0.mk (HE1.out.below (below_drew (Below.refl _ _)))
    have I1 : (L : Int) ≤ (C : Int) := by omega
    have I2 : (0 : Int) ≤ (L : Int) := by omega
    have ni := nil_read_spn b
    have LE := Aside0.mk HI'.le
    clear HI'
    by_cases hne : fsz + L < bd.length
    · have DL := Aside0.mk (show 0 < (bd.drop (fsz + L)).length by rw [List.length_drop]; omega)
      go_wp2_with fail
      go_region_held3 (fun _ => True) (trivial) ((go_at_call 122; go_loud ((with_reducible refine (bdy_spn H1d.out E1d.out R1d.out (show L + (C - L) ≤ C by omega) (show 1 ≤ C - L by omega) (Nat.le_refl _) gs gd gb).mono ?_); rintro en w1 ⟨q, ok2, rest2, q1, q2, q3, q4, q5, q6, q7, q8⟩; rw [if_pos DL.out] at q5; subst q5; obtain ⟨q30, rfl, rfl⟩ := q3 DL.out; have X1 := Aside0.mk (And.intro q6 (And.intro q7 q8)); have Q1 := Aside0.mk (And.intro q30 (And.intro q1 q2)); clear q6 q7 q8 q1 q2 q3 q4 q30)))
      obtain ⟨hq6, hR1, hT1⟩ := X1.out
      obtain ⟨q30, q1, q2⟩ := Q1.out
      rw [List.length_drop] at q2
      rw [List.drop_drop] at hq6
      have hTT : Tch (fun j => j = g' ∨ j = s ∨ j = b) wr w1 := Tch.trans (Tch.of_below (below_drew (Below.refl _ _))) hT1
      have d2 : ∀ W : World, (Instr.slice 22 (.slice (some ⟨g', 0, none⟩) L C) none (some (.int .i64 ((L : Int) + (q : Int)))) none).run Tryd.prog W = .ok (.slice (some ⟨g', 0, none⟩) (L + q) C) W := by
        obtain ⟨i, hi, _, hsz, _⟩ := info_partsC infoB
        intro W
        have hel : Tryd.prog.elem 22 = 5 := by simp [Program.elem, Tryd.underlying22]
        have hu : Tryd.prog.underlying 22 = some (.slice (Tryd.prog.elem 22)) := by rw [hel]; exact Tryd.underlying22
        rw [run_slice_h W 22 (some ⟨g', 0, none⟩) L C hu .i64 ((L : Int) + (q : Int)) (by omega) (by omega), hel]
        have e1 : ((L : Int) + (q : Int)).toNat = L + q := by omega
        simp [sizeOf, typeInfo, hi, hsz, sliced, Result.andThen, e1, Addr.add]
      have wl : IntKind.i64.wrap ((L : Int) + (q : Int)) = (L : Int) + (q : Int) := IntWalk.i64_in _ (by omega)
      have I3 : (0 : Int) ≤ (L : Int) + (q : Int) := by omega
      have I4 : (L : Int) + (q : Int) ≤ (C : Int) := by omega
      have X2 := Aside0.mk (And.intro hq6 (And.intro hR1 hTT))
      clear hq6 hR1 hTT hT1 X1
      by_cases hf : (C : Int) / 16 ≤ (C : Int) - ((L : Int) + (q : Int))
      · go_wp2_with fail
        go_roundw
        case rel =>
          obtain ⟨hq6, hR1, hTT⟩ := X2.out
          have HI' := HI.out
          refine ⟨g', C, L + q, nx, fsz, AN, cN, xs.take L ++ ((bd.drop (fsz + L)).take q ++ xs.drop (L + q)), dats, rfl, rfl, rfl, rfl, ⟨?_⟩⟩
          refine { bdy := by rw [← Nat.add_assoc]; exact hq6, le := by omega, room := by omega, c256 := C256, nx1 := HI'.nx1, nx2 := HI'.nx2, cmax := CM, gw := HI'.gw, buf := hR1, now := now_step HI'.now (by omega), old := HI'.old, few := HI'.few, chk := Kd.N_step HI'.chk (fun k hk hlt => hTT.block k hlt (fun e => by have := HI'.gw; have := H0l.out.1; have := H0l.out.2.1; rcases e with e | e | e; exact hk.2 e; omega; omega)), tch := HI'.tch.step hTT (fun k e hk => by have := HI'.gw; rcases e with e | e | e; omega; exact .inl e; exact .inr e) }
        case measure => simp [intOf, lenV]; omega
      · have lxs : xs.length = C := (Kd.R_reads' HI.out.buf).1.symm
        obtain ⟨pc, epc⟩ : ∃ pc : List Int, (bd.drop fsz).take (L + q) = pc := ⟨_, rfl⟩
        have EPC := Aside0.mk epc
        have lpc : pc.length = L + q := by rw [← epc, List.length_take, List.length_drop]; have := LE.out; omega
        have R5 := short8 X2.out.2.1 (n := L + q) (by omega)
        rw [now_step HI.out.now (by omega), epc] at R5
        have FKP := Aside0.mk (Kd.FK_slice_mk (e := 5) (d := Kd.int .u8) (W := w1) (ok := fun j => j = g') (A := some ⟨g', 0, none⟩) (c := C) (l := pc) (by omega) (by rw [lpc]; exact Kd.R_F (Kd.R_mono (Kd.R_tight rfl R5) (ok' := fun j => j = g') (fun j e => by simp [Value.ownBlock] at e; exact e))))
        rw [lpc] at FKP
        have HN := Aside0.mk (Kd.N_mono (Kd.N_step HI.out.chk (fun k hk hlt => X2.out.2.2.block k hlt (fun e => by have := HI.out.gw; have := H0l.out.1; have := H0l.out.2.1; rcases e with e | e | e; exact hk.2 e; omega; omega))) (ok' := fun k => w.heap.size ≤ k) (fun k h => h.1))
        have NO := Aside0.mk (show ∀ k, (Value.slice AN dats.length cN).ownBlock = some k → k ≠ g' from fun k h => (HI.out.chk.1 k h).2)
        have SZ := Aside0.mk (show w.heap.size ≤ w1.heap.size ∧ dats.length ≤ 1000000000 ∧ nx ≤ 500000000 from ⟨Nat.le_trans HI.out.tch.size X2.out.2.2.size, by have := HI.out.few; have := LE.out; omega, by have := HI.out.nx2; have := LE.out; omega⟩)
        clear R5 lxs epc
        go_upto_region 22 with (fail)
        go_upto_region 23 with (((with_reducible refine gate_dst (N := 79) rfl ?_); go_loud (refine Kd.N_append (Kd.slice 5 (Kd.int .u8)) (w0 := w1) w.heap.size rfl (.tmp 76) (.tmp 78) 117 22 (.slice none 0 0) 24 rfl Tryd.underlying117 infoSS rfl (by decide) (by decide) _ dats pc [.slice (some ⟨g', 0, none⟩) (L + q) C] (fun j => w.heap.size ≤ j) (fun j => j = g') rfl rfl FKP.out ?hk ?hf HN.out (Below.refl _ _) ?hb ?hl ?_; (case hk => intro j e; subst e; exact ⟨HI.out.gw, fun e => NO.out _ e.symm rfl⟩); (case hf => intro j hj; exact Nat.le_trans SZ.out.1 hj); (case hb => exact SZ.out.1); (case hl => have := SZ.out.2.1; omega); intro v2 w2 hN hB hG hAt; have N2 := Aside0.mk hN; have B2 := Aside0.mk hB; have G2 := Aside0.mk (And.intro hG hAt); clear hN hB hG hAt)))
        obtain ⟨A2, cN2, e2, _, _⟩ := Kd.N_reads N2.out
        subst e2
        have wz : IntKind.i64.wrap ((fsz : Int) + ((L : Int) + (q : Int))) = (fsz : Int) + ((L : Int) + (q : Int)) := IntWalk.i64_in _ (by omega)
        go_upto_region 24 with (fail)
        have SZ2 := Aside0.mk (Nat.le_trans SZ.out.1 B2.out.size)
        go_upto_region 25 with (((with_reducible refine gate_dst (N := 85) rfl ?_); go_loud (refine growZ (w0 := w2) w.heap.size rfl rfl 22 3 5 (.const (.slice none 0 0)) (.tmp 84) rfl nx rfl rfl rfl ?h0 Tryd.underlying22 Tryd.underlying3 infoB ?hn (Below.refl _ _) ?hb ?_; (case h0 => have := HI.out.nx1; omega); (case hn => have := SZ.out.2.2; omega); (case hb => exact SZ2.out); intro g5 C5 w5 c1 c2 g1 g2 g3 hR hB hB'; have R5 := Aside0.mk hR; have B5 := Aside0.mk hB'; have G5 := Aside0.mk (And.intro g1 (And.intro g2 g3)); have CC := Aside0.mk (And.intro c1 c2); have c3 : (nx : Int) ≤ (C5 : Int) := (by omega); clear hR hB hB' g1 g2 g3)))
        have wn : IntKind.i64.wrap ((nx : Int) + (nx : Int) / 2) = (nx : Int) + (nx : Int) / 2 := IntWalk.i64_in _ (by have := SZ.out.2.2; omega)
        go_wp2_with fail
        go_roundw
        case rel =>
          have hG := Tch.of_grown G2.out.1
          have ob := HI.out.chk.1
          have HT5 : Tch (fun j => j = s ∨ j = b) w w5 := ((HI.out.tch.step X2.out.2.2 (fun k e hk => by have := HI.out.gw; rcases e with e | e | e; omega; exact .inl e; exact .inr e)).step hG (fun k e hk => by have := (ob k e).1; omega)).trans (Tch.of_below B5.out)
          have HB5 := (X2.out.1.kept hG (fun k e => by have := (ob k e).1; have := H0l.out.1; have := H0l.out.2.1; have := H0l.out.2.2; exact ⟨by omega, by omega, by omega⟩)).below B5.out
          have le := LE.out
          refine ⟨g5, C5, 0, nx + nx / 2, fsz + (L + q), A2, cN2, List.replicate C5 0, dats ++ [pc], rfl, by first | rfl | go_num, by rw [List.length_append]; rfl, by first | rfl | go_num, ⟨?_⟩⟩
          refine { bdy := by rw [Nat.add_zero, ← Nat.add_assoc]; exact HB5, le := by omega, room := by have := CC.out.1; have := HI.out.nx1; omega, c256 := by have := CC.out.1; have := HI.out.nx1; omega, nx1 := by have := HI.out.nx1; omega, nx2 := by have := CC.out.1; omega, cmax := CC.out.2, gw := G5.out.1, buf := R5.out, now := by simp, old := ?_, few := ?_, chk := ?_, tch := HT5 }
          · rw [List.flatten_append, HI.out.old, List.flatten_singleton, ← EPC.out, ← List.take_add]
          · rw [List.length_append, List.length_singleton]; have := HI.out.few; omega
          · have N2' := N2.out
            rw [List.length_append, List.length_singleton] at N2'
            exact Kd.N_below (Kd.N_mono (Kd.N_bound N2') (fun k hk => ⟨hk.1, by have := G5.out.2.1; omega⟩)) B5.out
        case measure => simp [intOf, lenV]; omega
    · have DL := Aside0.mk (show ¬ 0 < (bd.drop (fsz + L)).length by rw [List.length_drop]; omega)
      have fl : fsz + L = bd.length := by have := LE.out; omega
      by_cases hk : ok = true
      · subst hk
        have D0 := Aside0.mk (show (bd.drop (fsz + L)).length = 0 by rw [List.length_drop]; omega)
        go_wp2_with fail
        go_region_held3 (fun _ => True) (trivial) ((go_at_call 122; go_loud ((with_reducible refine (bdy_spn H1d.out E1d.out R1d.out (show L + (C - L) ≤ C by omega) (show 1 ≤ C - L by omega) (Nat.le_refl _) gs gd gb).mono ?_); rintro en w1 ⟨q, ok2, rest2, q1, q2, q3, q4, q5, q6, q7, q8⟩; rw [if_neg DL.out, if_pos rfl] at q5; subst q5; rw [D0.out] at q2; obtain rfl : q = 0 := (by omega); have X1 := Aside0.mk (And.intro ((q4 rfl).2.2 (List.eq_nil_of_length_eq_zero D0.out)) (And.intro q7 q8)); clear q6 q7 q8 q1 q2 q3 q4)))
        have hT1 := X1.out.2.2
        have HT9 : Aside0 (Tch (fun j => j = s ∨ j = b) w w1) := ⟨HI.out.tch.step (Tch.trans (Tch.of_below (below_drew (Below.refl _ _))) hT1) (fun k e hk => by have := HI.out.gw; rcases e with e | e | e; omega; exact .inl e; exact .inr e)⟩
        have E2 := E1d.out.kept hT1 (fun j q => by rcases q with q | q | q <;> subst q <;> assumption)
        have ee := eql_same aE
        have e0 := E2.e
        have nl := fun W : World => run_eql_iface_nil_left (P := Tryd.prog) W 206 (.pointer (some aE)) Tryd.underlying98
        by_cases hd : dats.length = 0
        · have I5 : (0 : Int) ≤ (L : Int) := by omega
          have L0 : ((L : Int) + 0) = (L : Int) := by omega
          have dn : dats = [] := List.eq_nil_of_length_eq_zero hd
          have hz : fsz = 0 := by
            have o := congrArg List.length HI.out.old
            rw [dn, List.length_take] at o
            simp at o
            have := LE.out; omega
          have R5 := short8 X1.out.2.1 (n := L + 0) (by omega)
          rw [now_step HI.out.now (by omega)] at R5
          have R6 := Aside0.mk R5
          have eL : L = bd.length := by omega
          clear R5 dn
          go_wp2_with fail
          go_ret2
          refine ⟨_, rfl, ?_, fun _ => X1.out.1, HT9.out, fun h => absurd h (by simp)⟩
          have r := R6.out
          rw [hz, List.drop_zero, Nat.add_zero, List.take_of_length_le (by omega), eL] at r
          exact r
        · have lo8 : ∀ k, (Value.slice AN dats.length cN).ownBlock = some k → w.heap.size ≤ k ∧ k ≠ g' := HI.out.chk.1
          have HN := Aside0.mk (Kd.N_bound (Kd.N_step HI.out.chk (fun k hk hlt => hT1.block k hlt (fun e => by have := HI.out.gw; have := H0l.out.1; have := H0l.out.2.1; rcases e with e | e | e; exact hk.2 e; omega; omega))))
          have R5 := short8 X1.out.2.1 (n := L + 0) (by omega)
          rw [now_step HI.out.now (by omega), Nat.add_zero] at R5
          have HB := Aside0.mk R5
          have dl : dats.length ≤ 1000000000 := by have := HI.out.few; omega
          have wf : IntKind.i64.wrap ((fsz : Int) + (L : Int)) = (fsz : Int) + (L : Int) := IntWalk.i64_in _ (by omega)
          have HS1 := Aside0.mk (show w.heap.size ≤ w1.heap.size from HT9.out.size)
          have GL := Aside0.mk (show g' < w1.heap.size from Kd.R_lt R5 g' rfl)
          clear R5 hT1
          go_upto_region 13 with (fail)
          go_upto_region 14 with (((with_reducible refine gate_dst (N := 50) rfl ?_); go_loud (refine growZ (w0 := w1) w1.heap.size rfl rfl 22 3 5 (.const (.slice none 0 0)) (.tmp 49) rfl (fsz + L) rfl rfl (by rw [Int.natCast_add]) ?h0 Tryd.underlying22 Tryd.underlying3 infoB ?hn (Below.refl _ _) (Nat.le_refl _) ?_; (case h0 => have := HI.out.few; omega); (case hn => omega); intro g5 C5 w5 c1 c2 g1 g2 g3 hR hB hB'; have R5 := Aside0.mk (short8 hR (n := 0) (Nat.zero_le _)); have B5 := Aside0.mk hB; have G5 := Aside0.mk (And.intro g1 g3); have c3 : (0 : Int) ≤ (C5 : Int) := (Int.natCast_nonneg _); clear hR hB hB' g1 g2 g3)))
          go_wp2_with fail
          go_loopw [10, 54] (fun fv iv wr => ∃ k : Nat, k ≤ dats.length ∧ iv = .int .i64 (k : Int) ∧ Aside0 (R8 5 wr w1.heap.size fv (dats.take k).flatten) ∧ Aside0 (Below w1.heap.size w1 wr)) (fun _ iv _ => dats.length - (intOf iv).toNat)
          case atStart =>
            refine ⟨0, Nat.zero_le _, rfl, ⟨?_⟩, B5⟩
            have r := R5.out
            rw [List.take_zero] at r
            exact r
          case round =>
            obtain ⟨k, hk, rfl, HF, HW⟩ := hrel
            by_cases hlt : k < dats.length
            · obtain ⟨ad, cs, rfl, _, hK, hcc, _⟩ := Kd.F_get (Kd.N_F (Kd.N_below HN.out HW.out)) [] (k : Int) (by omega) (by omega)
              obtain ⟨Ak, ck, rfl, hck, hFk⟩ := Kd.FK_slice_open hK
              have hx := hcc 0 _ rfl
              have ez : (k : Int).toNat * (Kd.slice 5 (Kd.int .u8)).sz + 0 = k := by show (k : Int).toNat * 1 + 0 = k; omega
              rw [ez] at hx
              rw [Int.toNat_natCast] at hx hFk
              obtain ⟨fs1, fs2⟩ := flat_step dats k hlt
              obtain ⟨l, el⟩ : ∃ l, dats.getD k [] = l := ⟨_, rfl⟩
              rw [el] at hx hFk fs1 fs2
              have FC := Aside0.mk (Kd.F_now hFk)
              have ol := HI.out.old
              have FS := Aside0.mk (show (dats.take (k + 1)).flatten = (dats.take k).flatten ++ l ∧ (dats.take k).flatten.length + l.length ≤ 140737488355328 from ⟨fs1, by rw [ol, List.length_take] at fs2; omega⟩)
              clear hK hcc hFk hck el ez fs1 fs2 ol
              go_upto_region 17 with (fail)
              go_upto_region 18 with (((with_reducible refine gate_dst (N := 60) rfl ?_); go_loud (refine append8 (w0 := w1) w1.heap.size rfl (.tmp 58) (.tmp 59) 22 5 rfl Tryd.underlying22 infoB _ (dats.take k).flatten l Ak ck rfl rfl rfl HF.out FC.out HW.out ?hb FS.out.2 ?_; (case hb => exact HW.out.size); intro v1 w2 hR hB _ _; have R9 := Aside0.mk hR; have B9 := Aside0.mk hB; clear hR hB)))
              go_wp2_with fail
              go_roundw
              case rel =>
                refine ⟨k + 1, hlt, by first | rfl | go_num, ⟨?_⟩, B9⟩
                rw [FS.out.1]
                exact R9.out
              case measure => simp [intOf]; omega
            · obtain rfl : k = dats.length := by omega
              have lz : L = ((bd.drop fsz).take L).length := by rw [List.length_take, List.length_drop]; omega
              have BC := Aside0.mk (Kd.R_reads' (Kd.R_below HB.out HW.out)).2.2
              have HF2 := HF.out
              rw [List.take_length, HI.out.old] at HF2
              have HF3 := Aside0.mk HF2
              have ZZ := Aside0.mk (show (bd.take fsz).length + ((bd.drop fsz).take L).length ≤ 140737488355328 by rw [← lz, List.length_take]; omega)
              have LZ := Aside0.mk lz
              clear HF2 lz
              go_upto_region 19 with (fail)
              go_upto_region 20 with (((with_reducible refine gate_dst (N := 64) rfl ?_); go_loud (refine append8 (w0 := w1) w1.heap.size rfl (.tmp 62) (.tmp 63) 22 5 rfl Tryd.underlying22 infoB _ (bd.take fsz) ((bd.drop fsz).take L) (some ⟨g', 0, none⟩) C rfl rfl LZ.out HF3.out BC.out HW.out ?hb ZZ.out ?_; (case hb => exact HW.out.size); intro v1 w2 hR hB _ _; have R9 := Aside0.mk hR; have B9 := Aside0.mk hB; clear hR hB)))
              go_wp2_with fail
              go_ret2
              refine ⟨_, rfl, ?_, fun _ => ?_, HT9.out.trans (Tch.of_below B9.out), fun h => absurd h (by simp)⟩
              · have r := R9.out
                have e1 : bd.take fsz ++ (bd.drop fsz).take L = bd := by rw [List.take_of_length_le (l := bd.drop fsz) (by rw [List.length_drop]; omega), List.take_append_drop]
                rw [e1] at r
                exact Kd.R_lower r HS1.out
              · obtain ⟨A, c, hs⟩ := X1.out.1
                exact ⟨A, c, hs.below B9.out⟩
      · obtain rfl : ok = false := by cases ok; rfl; exact absurd rfl hk
        have D0 := Aside0.mk (show (bd.drop (fsz + L)).length = 0 by rw [List.length_drop]; omega)
        go_wp2_with fail
        go_region_held3 (fun _ => True) (trivial) ((go_at_call 122; go_loud ((with_reducible refine (bdy_spn H1d.out E1d.out R1d.out (show L + (C - L) ≤ C by omega) (show 1 ≤ C - L by omega) (Nat.le_refl _) gs gd gb).mono ?_); rintro en w1 ⟨q, ok2, rest2, q1, q2, q3, q4, q5, q6, q7, q8⟩; rw [if_neg DL.out, if_neg (by simp)] at q5; subst q5; rw [D0.out] at q2; obtain rfl : q = 0 := (by omega); have X1 := Aside0.mk (And.intro (show ∃ ok' rest', Bdy w1 d s b split (.iface 197 (.pointer (some ⟨b, 0, none⟩))) [] ok' rest' from ⟨ok2, rest2, by have h := q6; rw [List.eq_nil_of_length_eq_zero D0.out] at h; exact h⟩) (And.intro q7 q8)); clear q6 q7 q8 q1 q2 q3 q4)))
        have hT1 := X1.out.2.2
        have HT9 : Aside0 (Tch (fun j => j = s ∨ j = b) w w1) := ⟨HI.out.tch.step (Tch.trans (Tch.of_below (below_drew (Below.refl _ _))) hT1) (fun k e hk => by have := HI.out.gw; rcases e with e | e | e; omega; exact .inl e; exact .inr e)⟩
        have E2 := E1d.out.kept hT1 (fun j q => by rcases q with q | q | q <;> subst q <;> assumption)
        have e0 := E2.e
        have u0 := E2.u
        have eo := eql_other (w := w1) (Ne.symm E2.ne) E2.hu E2.he
        by_cases hd : dats.length = 0
        · have I5 : (0 : Int) ≤ (L : Int) := by omega
          have L0 : ((L : Int) + 0) = (L : Int) := by omega
          have dn : dats = [] := List.eq_nil_of_length_eq_zero hd
          have hz : fsz = 0 := by
            have o := congrArg List.length HI.out.old
            rw [dn, List.length_take] at o
            simp at o
            have := LE.out; omega
          have R5 := short8 X1.out.2.1 (n := L + 0) (by omega)
          rw [now_step HI.out.now (by omega)] at R5
          have R6 := Aside0.mk R5
          have eL : L = bd.length := by omega
          clear R5 dn
          go_wp2_with fail
          go_ret2
          refine ⟨_, rfl, ?_, fun h => absurd h (by simp), HT9.out, fun _ => X1.out.1⟩
          have r := R6.out
          rw [hz, List.drop_zero, Nat.add_zero, List.take_of_length_le (by omega), eL] at r
          exact r
        · have lo8 : ∀ k, (Value.slice AN dats.length cN).ownBlock = some k → w.heap.size ≤ k ∧ k ≠ g' := HI.out.chk.1
          have HN := Aside0.mk (Kd.N_bound (Kd.N_step HI.out.chk (fun k hk hlt => hT1.block k hlt (fun e => by have := HI.out.gw; have := H0l.out.1; have := H0l.out.2.1; rcases e with e | e | e; exact hk.2 e; omega; omega))))
          have R5 := short8 X1.out.2.1 (n := L + 0) (by omega)
          rw [now_step HI.out.now (by omega), Nat.add_zero] at R5
          have HB := Aside0.mk R5
          have dl : dats.length ≤ 1000000000 := by have := HI.out.few; omega
          have wf : IntKind.i64.wrap ((fsz : Int) + (L : Int)) = (fsz : Int) + (L : Int) := IntWalk.i64_in _ (by omega)
          have HS1 := Aside0.mk (show w.heap.size ≤ w1.heap.size from HT9.out.size)
          have GL := Aside0.mk (show g' < w1.heap.size from Kd.R_lt R5 g' rfl)
          clear R5 hT1
          go_upto_region 13 with (fail)
          go_upto_region 14 with (((with_reducible refine gate_dst (N := 50) rfl ?_); go_loud (refine growZ (w0 := w1) w1.heap.size rfl rfl 22 3 5 (.const (.slice none 0 0)) (.tmp 49) rfl (fsz + L) rfl rfl (by rw [Int.natCast_add]) ?h0 Tryd.underlying22 Tryd.underlying3 infoB ?hn (Below.refl _ _) (Nat.le_refl _) ?_; (case h0 => have := HI.out.few; omega); (case hn => omega); intro g5 C5 w5 c1 c2 g1 g2 g3 hR hB hB'; have R5 := Aside0.mk (short8 hR (n := 0) (Nat.zero_le _)); have B5 := Aside0.mk hB; have G5 := Aside0.mk (And.intro g1 g3); have c3 : (0 : Int) ≤ (C5 : Int) := (Int.natCast_nonneg _); clear hR hB hB' g1 g2 g3)))
          go_wp2_with fail
          go_loopw [10, 54] (fun fv iv wr => ∃ k : Nat, k ≤ dats.length ∧ iv = .int .i64 (k : Int) ∧ Aside0 (R8 5 wr w1.heap.size fv (dats.take k).flatten) ∧ Aside0 (Below w1.heap.size w1 wr)) (fun _ iv _ => dats.length - (intOf iv).toNat)
          case atStart =>
            refine ⟨0, Nat.zero_le _, rfl, ⟨?_⟩, B5⟩
            have r := R5.out
            rw [List.take_zero] at r
            exact r
          case round =>
            obtain ⟨k, hk, rfl, HF, HW⟩ := hrel
            by_cases hlt : k < dats.length
            · obtain ⟨ad, cs, rfl, _, hK, hcc, _⟩ := Kd.F_get (Kd.N_F (Kd.N_below HN.out HW.out)) [] (k : Int) (by omega) (by omega)
              obtain ⟨Ak, ck, rfl, hck, hFk⟩ := Kd.FK_slice_open hK
              have hx := hcc 0 _ rfl
              have ez : (k : Int).toNat * (Kd.slice 5 (Kd.int .u8)).sz + 0 = k := by show (k : Int).toNat * 1 + 0 = k; omega
              rw [ez] at hx
              rw [Int.toNat_natCast] at hx hFk
              obtain ⟨fs1, fs2⟩ := flat_step dats k hlt
              obtain ⟨l, el⟩ : ∃ l, dats.getD k [] = l := ⟨_, rfl⟩
              rw [el] at hx hFk fs1 fs2
              have FC := Aside0.mk (Kd.F_now hFk)
              have ol := HI.out.old
              have FS := Aside0.mk (show (dats.take (k + 1)).flatten = (dats.take k).flatten ++ l ∧ (dats.take k).flatten.length + l.length ≤ 140737488355328 from ⟨fs1, by rw [ol, List.length_take] at fs2; omega⟩)
              clear hK hcc hFk hck el ez fs1 fs2 ol
              go_upto_region 17 with (fail)
              go_upto_region 18 with (((with_reducible refine gate_dst (N := 60) rfl ?_); go_loud (refine append8 (w0 := w1) w1.heap.size rfl (.tmp 58) (.tmp 59) 22 5 rfl Tryd.underlying22 infoB _ (dats.take k).flatten l Ak ck rfl rfl rfl HF.out FC.out HW.out ?hb FS.out.2 ?_; (case hb => exact HW.out.size); intro v1 w2 hR hB _ _; have R9 := Aside0.mk hR; have B9 := Aside0.mk hB; clear hR hB)))
              go_wp2_with fail
              go_roundw
              case rel =>
                refine ⟨k + 1, hlt, by first | rfl | go_num, ⟨?_⟩, B9⟩
                rw [FS.out.1]
                exact R9.out
              case measure => simp [intOf]; omega
            · obtain rfl : k = dats.length := by omega
              have lz : L = ((bd.drop fsz).take L).length := by rw [List.length_take, List.length_drop]; omega
              have BC := Aside0.mk (Kd.R_reads' (Kd.R_below HB.out HW.out)).2.2
              have HF2 := HF.out
              rw [List.take_length, HI.out.old] at HF2
              have HF3 := Aside0.mk HF2
              have ZZ := Aside0.mk (show (bd.take fsz).length + ((bd.drop fsz).take L).length ≤ 140737488355328 by rw [← lz, List.length_take]; omega)
              have LZ := Aside0.mk lz
              clear HF2 lz
              go_upto_region 19 with (fail)
              go_upto_region 20 with (((with_reducible refine gate_dst (N := 64) rfl ?_); go_loud (refine append8 (w0 := w1) w1.heap.size rfl (.tmp 62) (.tmp 63) 22 5 rfl Tryd.underlying22 infoB _ (bd.take fsz) ((bd.drop fsz).take L) (some ⟨g', 0, none⟩) C rfl rfl LZ.out HF3.out BC.out HW.out ?hb ZZ.out ?_; (case hb => exact HW.out.size); intro v1 w2 hR hB _ _; have R9 := Aside0.mk hR; have B9 := Aside0.mk hB; clear hR hB)))
              go_wp2_with fail
              go_ret2
              refine ⟨_, rfl, ?_, fun h => absurd h (by simp), HT9.out.trans (Tch.of_below B9.out), fun _ => by obtain ⟨a, r, h⟩ := X1.out.1; exact ⟨a, r, h.below B9.out⟩⟩
              · have r := R9.out
                have e1 : bd.take fsz ++ (bd.drop fsz).take L = bd := by rw [List.take_of_length_le (l := bd.drop fsz) (by rw [List.length_drop]; omega), List.take_append_drop]
                rw [e1] at r
                exact Kd.R_lower r HS1.out
end Go.Proofs.YtfhefoaieefnkaaDoor.Rd

/- io.ReadAll over a source's parts. -/
set_option linter.unusedVariables false
set_option linter.unusedSimpArgs false
namespace Go.Proofs.YtfhefoaieefnkaaDoor.Rd
open Go.RowKit Go.Proofs.YtfhefoaieefnkaaDoorW.PrintWords Go.Proofs.YtfhefoaieefnkaaDoorW.PrintMore Go.Proofs.YtfhefoaieefnkaaDoor.Kit

set_option maxHeartbeats 1600000 in
set_option maxRecDepth 100000 in
theorem rall_prt {w : World} {d s b : Nat} {split : Int} {bd rest : List Int} {ok : Bool} {aE aU : Addr} (h : Bdy w d s b split (.iface 200 (.pointer (some ⟨b, 0, none⟩))) bd ok rest) (hE : Env w d aE aU) (hbl : bd.length ≤ 100000000) :
    Calls Tryd.prog 86 #[(.iface 200 (.pointer (some ⟨b, 0, none⟩)))] w (RallOut w d s b split (.iface 200 (.pointer (some ⟨b, 0, none⟩))) ok rest aU bd) := by
  have H0 := Aside0.mk h
  have HE := Aside0.mk hE
  have H0l := Aside0.mk (And.intro h.lts (And.intro h.ltb (Nat.le_of_lt (Nat.lt_of_le_of_lt h.ds h.lts))))
  have ds := h.ds
  have db := h.db
  clear h hE
  go_enter Tryd.func86, Tryd.ntmps86
  go_wp2_with (first | ((with_reducible refine gate_dst (N := 13) rfl ?_); refine makeC (w0 := w) w.heap.size rfl rfl 22 5 (.const (.int .i64 0)) (.const (.int .i64 512)) rfl 512 rfl rfl rfl Tryd.underlying22 infoB (by decide) (Below.refl _ _) (Nat.le_refl _) ?_; intro g w1 g1 g2 g3 hR hB hB'; have R1 := Aside0.mk hR; have B1 := Aside0.mk hB; have G1 := Aside0.mk (And.intro g1 g3); clear hR hB hB' g1 g2 g3) | ((with_reducible refine gate_dst (N := 14) rfl ?_); refine makeN0 (Kd.slice 5 (Kd.int .u8)) (ok := fun k => w.heap.size ≤ k ∧ k ≠ g) (w0 := w) w.heap.size rfl rfl 117 22 (.const (.int .i64 0)) (.const (.int .i64 4)) rfl 4 rfl rfl rfl Tryd.underlying117 infoSS rfl (by decide) (by decide) ?hok B1.out ?hb ?_; (case hok => exact ⟨B1.out.size, fun e => by have := G1.out.2; omega⟩); (case hb => exact B1.out.size); intro gN w2 q1 q2 q3 hN hB hB'; have N2 := Aside0.mk hN; have R2 := Aside0.mk (Kd.R_below R1.out hB'); have B2 := Aside0.mk hB; have G2 := Aside0.mk (And.intro q1 q3); clear hN hB hB' q1 q2 q3))
  go_loopw [4, 5, 6, 7] (fun bv nv cv fv wr => ∃ (g C L nx fsz : Nat) (AN : Option Addr) (cN : Nat) (xs : List Int) (dats : List (List Int)), bv = .slice (some ⟨g, 0, none⟩) L C ∧ nv = .int .i64 (nx : Int) ∧ cv = .slice AN dats.length cN ∧ fv = .int .i64 (fsz : Int) ∧ Aside0 (RInv w d s b split (.iface 200 (.pointer (some ⟨b, 0, none⟩))) bd ok rest wr g C L nx fsz cv xs dats)) (fun bv _ _ fv _ => bd.length - (lenV bv + (intOf fv).toNat))
  case atStart =>
    refine ⟨g, 512, 0, 256, 0, some ⟨gN, 0, none⟩, 4, List.replicate 512 0, [], rfl, rfl, rfl, rfl, ⟨?_⟩⟩
    exact { bdy := H0.out.below B2.out, le := by omega, room := by decide, c256 := by decide, nx1 := by decide, nx2 := by decide, cmax := by decide, gw := G1.out.1, buf := R2.out, now := by simp, old := by simp, few := by simp, chk := N2.out, tch := Tch.of_below B2.out }
  case round =>
    clear H0 R1 R2 B1 B2 G1 G2 N2
    obtain ⟨g', C, L, nx, fsz, AN, cN, xs, dats, rfl, rfl, rfl, rfl, HI⟩ := hrel
    have HI' := HI.out
    have LC := HI'.room
    have C256 := HI'.c256
    have CM := HI'.cmax
    have lg := Kd.R_lt HI'.buf g' rfl
    have gs : g' ≠ s := fun e => by have := H0l.out.1; have := HI'.gw; omega
    have gb : g' ≠ b := fun e => by have := H0l.out.2.1; have := HI'.gw; omega
    have gd : d ≤ g' := by have := H0l.out.2.2; have := HI'.gw; omega
    have d1 : ∀ W : World, (Instr.slice 22 (.slice (some ⟨g', 0, none⟩) L C) (some (.int .i64 (L : Int))) (some (.int .i64 (C : Int))) none).run Tryd.prog W = .ok (.slice (some ⟨g', L, none⟩) (C - L) (C - L)) W := by
      obtain ⟨i, hi, _, hsz, _⟩ := info_partsC infoB
      intro W
      have hel : Tryd.prog.elem 22 = 5 := by simp [Program.elem, Tryd.underlying22]
      have hu : Tryd.prog.underlying 22 = some (.slice (Tryd.prog.elem 22)) := by rw [hel]; exact Tryd.underlying22
      have cl : ¬ C = L := by omega
      rw [run_slice_lh W 22 (some ⟨g', 0, none⟩) L C hu .i64 .i64 (L : Int) (C : Int) (Int.natCast_nonneg _) (by omega) (by omega), hel]
      simp [sizeOf, typeInfo, hi, hsz, sliced, Result.andThen, cl, Addr.add]
      omega
    have HE1 := Aside0.mk (HE.out.kept HI'.tch (fun j q => by rcases q with q | q <;> subst q <;> assumption))
    have H1d := Aside0.mk (HI'.bdy.below (below_drew (Below.refl _ _)))
    have R1d := Aside0.mk (Kd.R_drew HI'.buf)
    have E1d := Aside0.mk (HE1.out.below (below_drew (Below.refl _ _)))
    have I1 : (L : Int) ≤ (C : Int) := by omega
    have I2 : (0 : Int) ≤ (L : Int) := by omega
    have ni := nil_read_prt b
    have LE := Aside0.mk HI'.le
    clear HI'
    by_cases hne : fsz + L < bd.length
    · have DL := Aside0.mk (show 0 < (bd.drop (fsz + L)).length by rw [List.length_drop]; omega)
      go_wp2_with fail
      go_region_held3 (fun _ => True) (trivial) ((go_at_call 123; go_loud ((with_reducible refine (bdy_prt H1d.out E1d.out R1d.out (show L + (C - L) ≤ C by omega) (show 1 ≤ C - L by omega) (Nat.le_refl _) gs gd gb).mono ?_); rintro en w1 ⟨q, ok2, rest2, q1, q2, q3, q4, q5, q6, q7, q8⟩; rw [if_pos DL.out] at q5; subst q5; obtain ⟨q30, rfl, rfl⟩ := q3 DL.out; have X1 := Aside0.mk (And.intro q6 (And.intro q7 q8)); have Q1 := Aside0.mk (And.intro q30 (And.intro q1 q2)); clear q6 q7 q8 q1 q2 q3 q4 q30)))
      obtain ⟨hq6, hR1, hT1⟩ := X1.out
      obtain ⟨q30, q1, q2⟩ := Q1.out
      rw [List.length_drop] at q2
      rw [List.drop_drop] at hq6
      have hTT : Tch (fun j => j = g' ∨ j = s ∨ j = b) wr w1 := Tch.trans (Tch.of_below (below_drew (Below.refl _ _))) hT1
      have d2 : ∀ W : World, (Instr.slice 22 (.slice (some ⟨g', 0, none⟩) L C) none (some (.int .i64 ((L : Int) + (q : Int)))) none).run Tryd.prog W = .ok (.slice (some ⟨g', 0, none⟩) (L + q) C) W := by
        obtain ⟨i, hi, _, hsz, _⟩ := info_partsC infoB
        intro W
        have hel : Tryd.prog.elem 22 = 5 := by simp [Program.elem, Tryd.underlying22]
        have hu : Tryd.prog.underlying 22 = some (.slice (Tryd.prog.elem 22)) := by rw [hel]; exact Tryd.underlying22
        rw [run_slice_h W 22 (some ⟨g', 0, none⟩) L C hu .i64 ((L : Int) + (q : Int)) (by omega) (by omega), hel]
        have e1 : ((L : Int) + (q : Int)).toNat = L + q := by omega
        simp [sizeOf, typeInfo, hi, hsz, sliced, Result.andThen, e1, Addr.add]
      have wl : IntKind.i64.wrap ((L : Int) + (q : Int)) = (L : Int) + (q : Int) := IntWalk.i64_in _ (by omega)
      have I3 : (0 : Int) ≤ (L : Int) + (q : Int) := by omega
      have I4 : (L : Int) + (q : Int) ≤ (C : Int) := by omega
      have X2 := Aside0.mk (And.intro hq6 (And.intro hR1 hTT))
      clear hq6 hR1 hTT hT1 X1
      by_cases hf : (C : Int) / 16 ≤ (C : Int) - ((L : Int) + (q : Int))
      · go_wp2_with fail
        go_roundw
        case rel =>
          obtain ⟨hq6, hR1, hTT⟩ := X2.out
          have HI' := HI.out
          refine ⟨g', C, L + q, nx, fsz, AN, cN, xs.take L ++ ((bd.drop (fsz + L)).take q ++ xs.drop (L + q)), dats, rfl, rfl, rfl, rfl, ⟨?_⟩⟩
          refine { bdy := by rw [← Nat.add_assoc]; exact hq6, le := by omega, room := by omega, c256 := C256, nx1 := HI'.nx1, nx2 := HI'.nx2, cmax := CM, gw := HI'.gw, buf := hR1, now := now_step HI'.now (by omega), old := HI'.old, few := HI'.few, chk := Kd.N_step HI'.chk (fun k hk hlt => hTT.block k hlt (fun e => by have := HI'.gw; have := H0l.out.1; have := H0l.out.2.1; rcases e with e | e | e; exact hk.2 e; omega; omega)), tch := HI'.tch.step hTT (fun k e hk => by have := HI'.gw; rcases e with e | e | e; omega; exact .inl e; exact .inr e) }
        case measure => simp [intOf, lenV]; omega
      · have lxs : xs.length = C := (Kd.R_reads' HI.out.buf).1.symm
        obtain ⟨pc, epc⟩ : ∃ pc : List Int, (bd.drop fsz).take (L + q) = pc := ⟨_, rfl⟩
        have EPC := Aside0.mk epc
        have lpc : pc.length = L + q := by rw [← epc, List.length_take, List.length_drop]; have := LE.out; omega
        have R5 := short8 X2.out.2.1 (n := L + q) (by omega)
        rw [now_step HI.out.now (by omega), epc] at R5
        have FKP := Aside0.mk (Kd.FK_slice_mk (e := 5) (d := Kd.int .u8) (W := w1) (ok := fun j => j = g') (A := some ⟨g', 0, none⟩) (c := C) (l := pc) (by omega) (by rw [lpc]; exact Kd.R_F (Kd.R_mono (Kd.R_tight rfl R5) (ok' := fun j => j = g') (fun j e => by simp [Value.ownBlock] at e; exact e))))
        rw [lpc] at FKP
        have HN := Aside0.mk (Kd.N_mono (Kd.N_step HI.out.chk (fun k hk hlt => X2.out.2.2.block k hlt (fun e => by have := HI.out.gw; have := H0l.out.1; have := H0l.out.2.1; rcases e with e | e | e; exact hk.2 e; omega; omega))) (ok' := fun k => w.heap.size ≤ k) (fun k h => h.1))
        have NO := Aside0.mk (show ∀ k, (Value.slice AN dats.length cN).ownBlock = some k → k ≠ g' from fun k h => (HI.out.chk.1 k h).2)
        have SZ := Aside0.mk (show w.heap.size ≤ w1.heap.size ∧ dats.length ≤ 1000000000 ∧ nx ≤ 500000000 from ⟨Nat.le_trans HI.out.tch.size X2.out.2.2.size, by have := HI.out.few; have := LE.out; omega, by have := HI.out.nx2; have := LE.out; omega⟩)
        clear R5 lxs epc
        go_upto_region 22 with (fail)
        go_upto_region 23 with (((with_reducible refine gate_dst (N := 79) rfl ?_); go_loud (refine Kd.N_append (Kd.slice 5 (Kd.int .u8)) (w0 := w1) w.heap.size rfl (.tmp 76) (.tmp 78) 117 22 (.slice none 0 0) 24 rfl Tryd.underlying117 infoSS rfl (by decide) (by decide) _ dats pc [.slice (some ⟨g', 0, none⟩) (L + q) C] (fun j => w.heap.size ≤ j) (fun j => j = g') rfl rfl FKP.out ?hk ?hf HN.out (Below.refl _ _) ?hb ?hl ?_; (case hk => intro j e; subst e; exact ⟨HI.out.gw, fun e => NO.out _ e.symm rfl⟩); (case hf => intro j hj; exact Nat.le_trans SZ.out.1 hj); (case hb => exact SZ.out.1); (case hl => have := SZ.out.2.1; omega); intro v2 w2 hN hB hG hAt; have N2 := Aside0.mk hN; have B2 := Aside0.mk hB; have G2 := Aside0.mk (And.intro hG hAt); clear hN hB hG hAt)))
        obtain ⟨A2, cN2, e2, _, _⟩ := Kd.N_reads N2.out
        subst e2
        have wz : IntKind.i64.wrap ((fsz : Int) + ((L : Int) + (q : Int))) = (fsz : Int) + ((L : Int) + (q : Int)) := IntWalk.i64_in _ (by omega)
        go_upto_region 24 with (fail)
        have SZ2 := Aside0.mk (Nat.le_trans SZ.out.1 B2.out.size)
        go_upto_region 25 with (((with_reducible refine gate_dst (N := 85) rfl ?_); go_loud (refine growZ (w0 := w2) w.heap.size rfl rfl 22 3 5 (.const (.slice none 0 0)) (.tmp 84) rfl nx rfl rfl rfl ?h0 Tryd.underlying22 Tryd.underlying3 infoB ?hn (Below.refl _ _) ?hb ?_; (case h0 => have := HI.out.nx1; omega); (case hn => have := SZ.out.2.2; omega); (case hb => exact SZ2.out); intro g5 C5 w5 c1 c2 g1 g2 g3 hR hB hB'; have R5 := Aside0.mk hR; have B5 := Aside0.mk hB'; have G5 := Aside0.mk (And.intro g1 (And.intro g2 g3)); have CC := Aside0.mk (And.intro c1 c2); have c3 : (nx : Int) ≤ (C5 : Int) := (by omega); clear hR hB hB' g1 g2 g3)))
        have wn : IntKind.i64.wrap ((nx : Int) + (nx : Int) / 2) = (nx : Int) + (nx : Int) / 2 := IntWalk.i64_in _ (by have := SZ.out.2.2; omega)
        go_wp2_with fail
        go_roundw
        case rel =>
          have hG := Tch.of_grown G2.out.1
          have ob := HI.out.chk.1
          have HT5 : Tch (fun j => j = s ∨ j = b) w w5 := ((HI.out.tch.step X2.out.2.2 (fun k e hk => by have := HI.out.gw; rcases e with e | e | e; omega; exact .inl e; exact .inr e)).step hG (fun k e hk => by have := (ob k e).1; omega)).trans (Tch.of_below B5.out)
          have HB5 := (X2.out.1.kept hG (fun k e => by have := (ob k e).1; have := H0l.out.1; have := H0l.out.2.1; have := H0l.out.2.2; exact ⟨by omega, by omega, by omega⟩)).below B5.out
          have le := LE.out
          refine ⟨g5, C5, 0, nx + nx / 2, fsz + (L + q), A2, cN2, List.replicate C5 0, dats ++ [pc], rfl, by first | rfl | go_num, by rw [List.length_append]; rfl, by first | rfl | go_num, ⟨?_⟩⟩
          refine { bdy := by rw [Nat.add_zero, ← Nat.add_assoc]; exact HB5, le := by omega, room := by have := CC.out.1; have := HI.out.nx1; omega, c256 := by have := CC.out.1; have := HI.out.nx1; omega, nx1 := by have := HI.out.nx1; omega, nx2 := by have := CC.out.1; omega, cmax := CC.out.2, gw := G5.out.1, buf := R5.out, now := by simp, old := ?_, few := ?_, chk := ?_, tch := HT5 }
          · rw [List.flatten_append, HI.out.old, List.flatten_singleton, ← EPC.out, ← List.take_add]
          · rw [List.length_append, List.length_singleton]; have := HI.out.few; omega
          · have N2' := N2.out
            rw [List.length_append, List.length_singleton] at N2'
            exact Kd.N_below (Kd.N_mono (Kd.N_bound N2') (fun k hk => ⟨hk.1, by have := G5.out.2.1; omega⟩)) B5.out
        case measure => simp [intOf, lenV]; omega
    · have DL := Aside0.mk (show ¬ 0 < (bd.drop (fsz + L)).length by rw [List.length_drop]; omega)
      have fl : fsz + L = bd.length := by have := LE.out; omega
      by_cases hk : ok = true
      · subst hk
        have D0 := Aside0.mk (show (bd.drop (fsz + L)).length = 0 by rw [List.length_drop]; omega)
        go_wp2_with fail
        go_region_held3 (fun _ => True) (trivial) ((go_at_call 123; go_loud ((with_reducible refine (bdy_prt H1d.out E1d.out R1d.out (show L + (C - L) ≤ C by omega) (show 1 ≤ C - L by omega) (Nat.le_refl _) gs gd gb).mono ?_); rintro en w1 ⟨q, ok2, rest2, q1, q2, q3, q4, q5, q6, q7, q8⟩; rw [if_neg DL.out, if_pos rfl] at q5; subst q5; rw [D0.out] at q2; obtain rfl : q = 0 := (by omega); have X1 := Aside0.mk (And.intro ((q4 rfl).2.2 (List.eq_nil_of_length_eq_zero D0.out)) (And.intro q7 q8)); clear q6 q7 q8 q1 q2 q3 q4)))
        have hT1 := X1.out.2.2
        have HT9 : Aside0 (Tch (fun j => j = s ∨ j = b) w w1) := ⟨HI.out.tch.step (Tch.trans (Tch.of_below (below_drew (Below.refl _ _))) hT1) (fun k e hk => by have := HI.out.gw; rcases e with e | e | e; omega; exact .inl e; exact .inr e)⟩
        have E2 := E1d.out.kept hT1 (fun j q => by rcases q with q | q | q <;> subst q <;> assumption)
        have ee := eql_same aE
        have e0 := E2.e
        have nl := fun W : World => run_eql_iface_nil_left (P := Tryd.prog) W 206 (.pointer (some aE)) Tryd.underlying98
        by_cases hd : dats.length = 0
        · have I5 : (0 : Int) ≤ (L : Int) := by omega
          have L0 : ((L : Int) + 0) = (L : Int) := by omega
          have dn : dats = [] := List.eq_nil_of_length_eq_zero hd
          have hz : fsz = 0 := by
            have o := congrArg List.length HI.out.old
            rw [dn, List.length_take] at o
            simp at o
            have := LE.out; omega
          have R5 := short8 X1.out.2.1 (n := L + 0) (by omega)
          rw [now_step HI.out.now (by omega)] at R5
          have R6 := Aside0.mk R5
          have eL : L = bd.length := by omega
          clear R5 dn
          go_wp2_with fail
          go_ret2
          refine ⟨_, rfl, ?_, fun _ => X1.out.1, HT9.out, fun h => absurd h (by simp)⟩
          have r := R6.out
          rw [hz, List.drop_zero, Nat.add_zero, List.take_of_length_le (by omega), eL] at r
          exact r
        · have lo8 : ∀ k, (Value.slice AN dats.length cN).ownBlock = some k → w.heap.size ≤ k ∧ k ≠ g' := HI.out.chk.1
          have HN := Aside0.mk (Kd.N_bound (Kd.N_step HI.out.chk (fun k hk hlt => hT1.block k hlt (fun e => by have := HI.out.gw; have := H0l.out.1; have := H0l.out.2.1; rcases e with e | e | e; exact hk.2 e; omega; omega))))
          have R5 := short8 X1.out.2.1 (n := L + 0) (by omega)
          rw [now_step HI.out.now (by omega), Nat.add_zero] at R5
          have HB := Aside0.mk R5
          have dl : dats.length ≤ 1000000000 := by have := HI.out.few; omega
          have wf : IntKind.i64.wrap ((fsz : Int) + (L : Int)) = (fsz : Int) + (L : Int) := IntWalk.i64_in _ (by omega)
          have HS1 := Aside0.mk (show w.heap.size ≤ w1.heap.size from HT9.out.size)
          have GL := Aside0.mk (show g' < w1.heap.size from Kd.R_lt R5 g' rfl)
          clear R5 hT1
          go_upto_region 13 with (fail)
          go_upto_region 14 with (((with_reducible refine gate_dst (N := 50) rfl ?_); go_loud (refine growZ (w0 := w1) w1.heap.size rfl rfl 22 3 5 (.const (.slice none 0 0)) (.tmp 49) rfl (fsz + L) rfl rfl (by rw [Int.natCast_add]) ?h0 Tryd.underlying22 Tryd.underlying3 infoB ?hn (Below.refl _ _) (Nat.le_refl _) ?_; (case h0 => have := HI.out.few; omega); (case hn => omega); intro g5 C5 w5 c1 c2 g1 g2 g3 hR hB hB'; have R5 := Aside0.mk (short8 hR (n := 0) (Nat.zero_le _)); have B5 := Aside0.mk hB; have G5 := Aside0.mk (And.intro g1 g3); have c3 : (0 : Int) ≤ (C5 : Int) := (Int.natCast_nonneg _); clear hR hB hB' g1 g2 g3)))
          go_wp2_with fail
          go_loopw [10, 54] (fun fv iv wr => ∃ k : Nat, k ≤ dats.length ∧ iv = .int .i64 (k : Int) ∧ Aside0 (R8 5 wr w1.heap.size fv (dats.take k).flatten) ∧ Aside0 (Below w1.heap.size w1 wr)) (fun _ iv _ => dats.length - (intOf iv).toNat)
          case atStart =>
            refine ⟨0, Nat.zero_le _, rfl, ⟨?_⟩, B5⟩
            have r := R5.out
            rw [List.take_zero] at r
            exact r
          case round =>
            obtain ⟨k, hk, rfl, HF, HW⟩ := hrel
            by_cases hlt : k < dats.length
            · obtain ⟨ad, cs, rfl, _, hK, hcc, _⟩ := Kd.F_get (Kd.N_F (Kd.N_below HN.out HW.out)) [] (k : Int) (by omega) (by omega)
              obtain ⟨Ak, ck, rfl, hck, hFk⟩ := Kd.FK_slice_open hK
              have hx := hcc 0 _ rfl
              have ez : (k : Int).toNat * (Kd.slice 5 (Kd.int .u8)).sz + 0 = k := by show (k : Int).toNat * 1 + 0 = k; omega
              rw [ez] at hx
              rw [Int.toNat_natCast] at hx hFk
              obtain ⟨fs1, fs2⟩ := flat_step dats k hlt
              obtain ⟨l, el⟩ : ∃ l, dats.getD k [] = l := ⟨_, rfl⟩
              rw [el] at hx hFk fs1 fs2
              have FC := Aside0.mk (Kd.F_now hFk)
              have ol := HI.out.old
              have FS := Aside0.mk (show (dats.take (k + 1)).flatten = (dats.take k).flatten ++ l ∧ (dats.take k).flatten.length + l.length ≤ 140737488355328 from ⟨fs1, by rw [ol, List.length_take] at fs2; omega⟩)
              clear hK hcc hFk hck el ez fs1 fs2 ol
              go_upto_region 17 with (fail)
              go_upto_region 18 with (((with_reducible refine gate_dst (N := 60) rfl ?_); go_loud (refine append8 (w0 := w1) w1.heap.size rfl (.tmp 58) (.tmp 59) 22 5 rfl Tryd.underlying22 infoB _ (dats.take k).flatten l Ak ck rfl rfl rfl HF.out FC.out HW.out ?hb FS.out.2 ?_; (case hb => exact HW.out.size); intro v1 w2 hR hB _ _; have R9 := Aside0.mk hR; have B9 := Aside0.mk hB; clear hR hB)))
              go_wp2_with fail
              go_roundw
              case rel =>
                refine ⟨k + 1, hlt, by first | rfl | go_num, ⟨?_⟩, B9⟩
                rw [FS.out.1]
                exact R9.out
              case measure => simp [intOf]; omega
            · obtain rfl : k = dats.length := by omega
              have lz : L = ((bd.drop fsz).take L).length := by rw [List.length_take, List.length_drop]; omega
              have BC := Aside0.mk (Kd.R_reads' (Kd.R_below HB.out HW.out)).2.2
              have HF2 := HF.out
              rw [List.take_length, HI.out.old] at HF2
              have HF3 := Aside0.mk HF2
              have ZZ := Aside0.mk (show (bd.take fsz).length + ((bd.drop fsz).take L).length ≤ 140737488355328 by rw [← lz, List.length_take]; omega)
              have LZ := Aside0.mk lz
              clear HF2 lz
              go_upto_region 19 with (fail)
              go_upto_region 20 with (((with_reducible refine gate_dst (N := 64) rfl ?_); go_loud (refine append8 (w0 := w1) w1.heap.size rfl (.tmp 62) (.tmp 63) 22 5 rfl Tryd.underlying22 infoB _ (bd.take fsz) ((bd.drop fsz).take L) (some ⟨g', 0, none⟩) C rfl rfl LZ.out HF3.out BC.out HW.out ?hb ZZ.out ?_; (case hb => exact HW.out.size); intro v1 w2 hR hB _ _; have R9 := Aside0.mk hR; have B9 := Aside0.mk hB; clear hR hB)))
              go_wp2_with fail
              go_ret2
              refine ⟨_, rfl, ?_, fun _ => ?_, HT9.out.trans (Tch.of_below B9.out), fun h => absurd h (by simp)⟩
              · have r := R9.out
                have e1 : bd.take fsz ++ (bd.drop fsz).take L = bd := by rw [List.take_of_length_le (l := bd.drop fsz) (by rw [List.length_drop]; omega), List.take_append_drop]
                rw [e1] at r
                exact Kd.R_lower r HS1.out
              · obtain ⟨A, c, hs⟩ := X1.out.1
                exact ⟨A, c, hs.below B9.out⟩
      · obtain rfl : ok = false := by cases ok; rfl; exact absurd rfl hk
        have D0 := Aside0.mk (show (bd.drop (fsz + L)).length = 0 by rw [List.length_drop]; omega)
        go_wp2_with fail
        go_region_held3 (fun _ => True) (trivial) ((go_at_call 123; go_loud ((with_reducible refine (bdy_prt H1d.out E1d.out R1d.out (show L + (C - L) ≤ C by omega) (show 1 ≤ C - L by omega) (Nat.le_refl _) gs gd gb).mono ?_); rintro en w1 ⟨q, ok2, rest2, q1, q2, q3, q4, q5, q6, q7, q8⟩; rw [if_neg DL.out, if_neg (by simp)] at q5; subst q5; rw [D0.out] at q2; obtain rfl : q = 0 := (by omega); have X1 := Aside0.mk (And.intro (show ∃ ok' rest', Bdy w1 d s b split (.iface 200 (.pointer (some ⟨b, 0, none⟩))) [] ok' rest' from ⟨ok2, rest2, by have h := q6; rw [List.eq_nil_of_length_eq_zero D0.out] at h; exact h⟩) (And.intro q7 q8)); clear q6 q7 q8 q1 q2 q3 q4)))
        have hT1 := X1.out.2.2
        have HT9 : Aside0 (Tch (fun j => j = s ∨ j = b) w w1) := ⟨HI.out.tch.step (Tch.trans (Tch.of_below (below_drew (Below.refl _ _))) hT1) (fun k e hk => by have := HI.out.gw; rcases e with e | e | e; omega; exact .inl e; exact .inr e)⟩
        have E2 := E1d.out.kept hT1 (fun j q => by rcases q with q | q | q <;> subst q <;> assumption)
        have e0 := E2.e
        have u0 := E2.u
        have eo := eql_other (w := w1) (Ne.symm E2.ne) E2.hu E2.he
        by_cases hd : dats.length = 0
        · have I5 : (0 : Int) ≤ (L : Int) := by omega
          have L0 : ((L : Int) + 0) = (L : Int) := by omega
          have dn : dats = [] := List.eq_nil_of_length_eq_zero hd
          have hz : fsz = 0 := by
            have o := congrArg List.length HI.out.old
            rw [dn, List.length_take] at o
            simp at o
            have := LE.out; omega
          have R5 := short8 X1.out.2.1 (n := L + 0) (by omega)
          rw [now_step HI.out.now (by omega)] at R5
          have R6 := Aside0.mk R5
          have eL : L = bd.length := by omega
          clear R5 dn
          go_wp2_with fail
          go_ret2
          refine ⟨_, rfl, ?_, fun h => absurd h (by simp), HT9.out, fun _ => X1.out.1⟩
          have r := R6.out
          rw [hz, List.drop_zero, Nat.add_zero, List.take_of_length_le (by omega), eL] at r
          exact r
        · have lo8 : ∀ k, (Value.slice AN dats.length cN).ownBlock = some k → w.heap.size ≤ k ∧ k ≠ g' := HI.out.chk.1
          have HN := Aside0.mk (Kd.N_bound (Kd.N_step HI.out.chk (fun k hk hlt => hT1.block k hlt (fun e => by have := HI.out.gw; have := H0l.out.1; have := H0l.out.2.1; rcases e with e | e | e; exact hk.2 e; omega; omega))))
          have R5 := short8 X1.out.2.1 (n := L + 0) (by omega)
          rw [now_step HI.out.now (by omega), Nat.add_zero] at R5
          have HB := Aside0.mk R5
          have dl : dats.length ≤ 1000000000 := by have := HI.out.few; omega
          have wf : IntKind.i64.wrap ((fsz : Int) + (L : Int)) = (fsz : Int) + (L : Int) := IntWalk.i64_in _ (by omega)
          have HS1 := Aside0.mk (show w.heap.size ≤ w1.heap.size from HT9.out.size)
          have GL := Aside0.mk (show g' < w1.heap.size from Kd.R_lt R5 g' rfl)
          clear R5 hT1
          go_upto_region 13 with (fail)
          go_upto_region 14 with (((with_reducible refine gate_dst (N := 50) rfl ?_); go_loud (refine growZ (w0 := w1) w1.heap.size rfl rfl 22 3 5 (.const (.slice none 0 0)) (.tmp 49) rfl (fsz + L) rfl rfl (by rw [Int.natCast_add]) ?h0 Tryd.underlying22 Tryd.underlying3 infoB ?hn (Below.refl _ _) (Nat.le_refl _) ?_; (case h0 => have := HI.out.few; omega); (case hn => omega); intro g5 C5 w5 c1 c2 g1 g2 g3 hR hB hB'; have R5 := Aside0.mk (short8 hR (n := 0) (Nat.zero_le _)); have B5 := Aside0.mk hB; have G5 := Aside0.mk (And.intro g1 g3); have c3 : (0 : Int) ≤ (C5 : Int) := (Int.natCast_nonneg _); clear hR hB hB' g1 g2 g3)))
          go_wp2_with fail
          go_loopw [10, 54] (fun fv iv wr => ∃ k : Nat, k ≤ dats.length ∧ iv = .int .i64 (k : Int) ∧ Aside0 (R8 5 wr w1.heap.size fv (dats.take k).flatten) ∧ Aside0 (Below w1.heap.size w1 wr)) (fun _ iv _ => dats.length - (intOf iv).toNat)
          case atStart =>
            refine ⟨0, Nat.zero_le _, rfl, ⟨?_⟩, B5⟩
            have r := R5.out
            rw [List.take_zero] at r
            exact r
          case round =>
            obtain ⟨k, hk, rfl, HF, HW⟩ := hrel
            by_cases hlt : k < dats.length
            · obtain ⟨ad, cs, rfl, _, hK, hcc, _⟩ := Kd.F_get (Kd.N_F (Kd.N_below HN.out HW.out)) [] (k : Int) (by omega) (by omega)
              obtain ⟨Ak, ck, rfl, hck, hFk⟩ := Kd.FK_slice_open hK
              have hx := hcc 0 _ rfl
              have ez : (k : Int).toNat * (Kd.slice 5 (Kd.int .u8)).sz + 0 = k := by show (k : Int).toNat * 1 + 0 = k; omega
              rw [ez] at hx
              rw [Int.toNat_natCast] at hx hFk
              obtain ⟨fs1, fs2⟩ := flat_step dats k hlt
              obtain ⟨l, el⟩ : ∃ l, dats.getD k [] = l := ⟨_, rfl⟩
              rw [el] at hx hFk fs1 fs2
              have FC := Aside0.mk (Kd.F_now hFk)
              have ol := HI.out.old
              have FS := Aside0.mk (show (dats.take (k + 1)).flatten = (dats.take k).flatten ++ l ∧ (dats.take k).flatten.length + l.length ≤ 140737488355328 from ⟨fs1, by rw [ol, List.length_take] at fs2; omega⟩)
              clear hK hcc hFk hck el ez fs1 fs2 ol
              go_upto_region 17 with (fail)
              go_upto_region 18 with (((with_reducible refine gate_dst (N := 60) rfl ?_); go_loud (refine append8 (w0 := w1) w1.heap.size rfl (.tmp 58) (.tmp 59) 22 5 rfl Tryd.underlying22 infoB _ (dats.take k).flatten l Ak ck rfl rfl rfl HF.out FC.out HW.out ?hb FS.out.2 ?_; (case hb => exact HW.out.size); intro v1 w2 hR hB _ _; have R9 := Aside0.mk hR; have B9 := Aside0.mk hB; clear hR hB)))
              go_wp2_with fail
              go_roundw
              case rel =>
                refine ⟨k + 1, hlt, by first | rfl | go_num, ⟨?_⟩, B9⟩
                rw [FS.out.1]
                exact R9.out
              case measure => simp [intOf]; omega
            · obtain rfl : k = dats.length := by omega
              have lz : L = ((bd.drop fsz).take L).length := by rw [List.length_take, List.length_drop]; omega
              have BC := Aside0.mk (Kd.R_reads' (Kd.R_below HB.out HW.out)).2.2
              have HF2 := HF.out
              rw [List.take_length, HI.out.old] at HF2
              have HF3 := Aside0.mk HF2
              have ZZ := Aside0.mk (show (bd.take fsz).length + ((bd.drop fsz).take L).length ≤ 140737488355328 by rw [← lz, List.length_take]; omega)
              have LZ := Aside0.mk lz
              clear HF2 lz
              go_upto_region 19 with (fail)
              go_upto_region 20 with (((with_reducible refine gate_dst (N := 64) rfl ?_); go_loud (refine append8 (w0 := w1) w1.heap.size rfl (.tmp 62) (.tmp 63) 22 5 rfl Tryd.underlying22 infoB _ (bd.take fsz) ((bd.drop fsz).take L) (some ⟨g', 0, none⟩) C rfl rfl LZ.out HF3.out BC.out HW.out ?hb ZZ.out ?_; (case hb => exact HW.out.size); intro v1 w2 hR hB _ _; have R9 := Aside0.mk hR; have B9 := Aside0.mk hB; clear hR hB)))
              go_wp2_with fail
              go_ret2
              refine ⟨_, rfl, ?_, fun h => absurd h (by simp), HT9.out.trans (Tch.of_below B9.out), fun _ => by obtain ⟨a, r, h⟩ := X1.out.1; exact ⟨a, r, h.below B9.out⟩⟩
              · have r := R9.out
                have e1 : bd.take fsz ++ (bd.drop fsz).take L = bd := by rw [List.take_of_length_le (l := bd.drop fsz) (by rw [List.length_drop]; omega), List.take_append_drop]
                rw [e1] at r
                exact Kd.R_lower r HS1.out
end Go.Proofs.YtfhefoaieefnkaaDoor.Rd

/- io.ReadAll of any body; packet.OpaquePacket.parse, OpaqueReader.Next where all goes well. -/
set_option linter.unusedVariables false
set_option linter.unusedSimpArgs false
namespace Go.Proofs.YtfhefoaieefnkaaDoor.Rd
open Go.RowKit Go.Proofs.YtfhefoaieefnkaaDoorW.PrintWords Go.Proofs.YtfhefoaieefnkaaDoorW.PrintMore Go.Proofs.YtfhefoaieefnkaaDoor.Kit

theorem rall {w : World} {d s b : Nat} {split : Int} {v : Value} {bd rest : List Int} {ok : Bool} {aE aU : Addr} (h : Bdy w d s b split v bd ok rest) (hE : Env w d aE aU) (hbl : bd.length ≤ 100000000) :
    Calls Tryd.prog 86 #[v] w (RallOut w d s b split v ok rest aU bd) := by
  have h2 := h
  rcases h2 with ⟨rfl, rfl, _⟩ | ⟨rfl, _⟩ | ⟨rfl, _⟩
  · exact rall_src h hE hbl
  · exact rall_spn h hE hbl
  · exact rall_prt h hE hbl
set_option maxHeartbeats 1600000 in
set_option maxRecDepth 100000 in
theorem opq_parse {w : World} {d s b u : Nat} {split : Int} {v x0 x2 : Value} {bd rest : List Int} {aE aU : Addr} (h : Bdy w d s b split v bd true rest) (hE : Env w d aE aU) (hbl : bd.length ≤ 100000000) (h0 : w.cell? ⟨u, 0, none⟩ = some x0) (h2 : w.cell? ⟨u, 2, none⟩ = some x2) (hz : w.frozen? ⟨u, 2, none⟩ = false) (us : u ≠ s) (ub : u ≠ b) (ud : d ≤ u) :
    Calls Tryd.prog 80 #[.pointer (some ⟨u, 0, none⟩), v] w fun en w' => ∃ A c, en = .returned .nilIface ∧ w'.cell? ⟨u, 0, none⟩ = some x0 ∧ w'.cell? ⟨u, 2, none⟩ = some (.slice A bd.length c) ∧ C8 w' A bd ∧ (∃ A c, Src w' d s A c rest split) ∧ Tch (fun j => j = s ∨ j = b ∨ j = u) w w' := by
  have HC := Aside0.mk (rall h hE hbl)
  have X := Aside0.mk (And.intro h0 (And.intro h2 hz))
  have US := Aside0.mk (And.intro us (And.intro ub ud))
  have UL := Aside0.mk (World.block_lt_of_cell? w _ h0)
  clear h hE hbl h0 h2 hz us ub ud
  go_enter Tryd.func80, Tryd.ntmps80
  go_wp2_with fail
  refine HC.out.mono ?_
  rintro en w1 ⟨v', e1, hR, hS, hT, _⟩
  rw [if_pos rfl] at e1
  subst e1
  obtain ⟨A, c, rfl, hc, hC⟩ := Kd.R_reads hR
  obtain ⟨n, en⟩ : ∃ n, bd.length = n := ⟨_, rfl⟩
  rw [en]
  have EN := Aside0.mk en
  have nt : ¬ (u = s ∨ u = b) := fun q => by rcases q with q | q; exact US.out.1 q; exact US.out.2.1 q
  have y0 := Aside0.mk (hT.cell (p := ⟨u, 0, none⟩) X.out.1 nt)
  have y2 := hT.cell (p := ⟨u, 2, none⟩) X.out.2.1 nt
  have z2 := (hT.frozen (p := ⟨u, 2, none⟩) UL.out nt).trans X.out.2.2
  have T1 := Aside0.mk hT
  have S1 := Aside0.mk (hS rfl)
  have C1 := Aside0.mk hC
  have AB := Aside0.mk (show ∀ ad, A = some ad → w.heap.size ≤ ad.block from fun ad e => by subst e; exact Kd.R_base hR ad.block rfl)
  clear hR hS hT hC hc en nt
  go_wp2_with fail
  go_ret
  have hT2 : Tch (fun j => j = u) w1 (w1.setCell ⟨u, 2, none⟩ (.slice A n c)) := (Tch.refl (fun j => j = u) w1).setCell (p := ⟨u, 2, none⟩) (fun _ => rfl) _
  have ul := UL.out
  obtain ⟨A', c', hs⟩ := S1.out
  refine ⟨A, c, rfl, ?_, by rw [EN.out]; simp [go_sem, *], hT2.c8 C1.out (fun ad e _ q => by have := AB.out ad e; omega), ⟨A', c', hs.kept hT2 (fun k q => by subst q; exact ⟨US.out.2.2, US.out.1⟩)⟩, (T1.out.mono (fun j q => by rcases q with q | q; exact .inl q; exact .inr (.inl q))).trans (hT2.mono (fun j q => .inr (.inr q)))⟩
  have q := y0.out
  simp [go_sem, *]
set_option maxHeartbeats 1600000 in
set_option maxRecDepth 100000 in
theorem nxt_ok {w : World} {d s q : Nat} {split tg n : Int} {bd rest : List Int} {aE aU : Addr} (H : Calls Tryd.prog 79 #[(.iface 94 (.pointer (some ⟨s, 0, none⟩)))] w (HdOk w d s split tg n bd true rest)) (hE : Env w d aE aU) (hbl : bd.length ≤ 100000000) (hq : w.cell? ⟨q, 0, none⟩ = some (.iface 94 (.pointer (some ⟨s, 0, none⟩)))) (sl : s < w.heap.size) (ds : d ≤ s) :
    Calls Tryd.prog 68 #[.pointer (some ⟨q, 0, none⟩)] w fun en w' => ∃ g A c, en = .returned (.tuple #[.pointer (some ⟨g, 0, none⟩), .nilIface]) ∧ w.heap.size ≤ g ∧ w'.cell? ⟨g, 0, none⟩ = some (.int .u8 tg) ∧ w'.cell? ⟨g, 2, none⟩ = some (.slice A bd.length c) ∧ C8 w' A bd ∧ (∃ A c, Src w' d s A c rest split) ∧ Tch (fun j => j = s) w w' := by
  have HH := Aside0.mk H
  have HE := Aside0.mk hE
  have LB := Aside0.mk (And.intro hbl (And.intro sl ds))
  clear H hE hbl sl ds
  go_enter Tryd.func68, Tryd.ntmps68
  go_wp2_with fail
  refine HH.out.mono ?_
  rintro en w1 ⟨v, b, rfl, hb, hbs, hT⟩
  have B1 := Aside0.mk hb
  have T1 := Aside0.mk hT
  have BS := Aside0.mk hbs
  have w1l := hT.size
  have bl := hb.ltb
  have sl1 := hb.lts
  have HE1 := Aside0.mk (HE.out.kept hT (fun j q => by subst q; exact LB.out.2.2))
  obtain ⟨W, eW⟩ : ∃ W, w1.alloc (.cells #[.int .u8 tg, .nilIface, .slice none 0 0] 156) = W := ⟨_, rfl⟩
  have hrow := heap_alloc_new w1 (.cells #[.int .u8 tg, .nilIface, .slice none 0 0] 156)
  have BW : Below w1.heap.size w1 W := eW ▸ below_alloc (Below.refl _ _) _
  rw [eW] at hrow
  have P := Aside0.mk (opq_parse (u := w1.heap.size) (hb.below BW) (HE1.out.below BW) LB.out.1 ((cell_of_row _ _ 0 _ _ _ hrow).trans rfl) ((cell_of_row _ _ 2 _ _ _ hrow).trans rfl) (frozen_of_row _ _ 2 _ _ hrow) (by omega) (by omega) (by have := hb.ds; omega))
  have BW' := Aside0.mk BW
  clear hb hT hbs hrow BW bl sl1
  go_upto_region 4 with (fail)
  clear eW
  obtain ⟨g, eg⟩ : ∃ g, w1.heap.size = g := ⟨_, rfl⟩
  have EG := Aside0.mk eg
  rw [eg] at P w1l ⊢
  clear eg
  go_wp2_with fail
  refine P.out.mono ?_
  rintro en w2 ⟨A, c, rfl, y0, y2, hC, hS, hT2⟩
  have Y := Aside0.mk (And.intro y0 (And.intro y2 (And.intro hC (And.intro hS hT2))))
  clear y0 y2 hC hS hT2
  go_wp2_with fail
  go_ret2
  obtain ⟨y0, y2, hC, hS, hT2⟩ := Y.out
  refine ⟨g, A, c, rfl, w1l, y0, y2, hC, hS, ?_⟩
  refine Tch.step T1.out (Tch.step (Tch.of_below (S := fun j => j = s ∨ j = b ∨ j = g) BW'.out) hT2 (fun j q _ => q)) (fun j q hl => ?_)
  rcases q with q | q | q
  · exact q
  · rcases BS.out with e | e
    · exact q.trans e
    · omega
  · omega
end Go.Proofs.YtfhefoaieefnkaaDoor.Rd

/- impl.ReadOpaque. -/
set_option linter.unusedVariables false
set_option linter.unusedSimpArgs false
namespace Go.Proofs.YtfhefoaieefnkaaDoor.Rd
open Go.RowKit Go.Proofs.YtfhefoaieefnkaaDoorW.PrintWords Go.Proofs.YtfhefoaieefnkaaDoorW.PrintMore Go.Proofs.YtfhefoaieefnkaaDoor.Kit

/-- An opaque packet as data: its tag, its contents. -/
def kO : Kd (Int × List Int) := Kd.pair (Kd.int .u8) (Kd.slice 5 (Kd.int .u8))
theorem infoO : (Tryd.prog.info? 76).map (fun i => (i.zero, i.size, i.bytes)) = some (some (.agg #[.int .u8 0, .slice none 0 0]), 2, 32) := by kernel_rfl
/-- The errors that end a stream, and their numbers. -/
def EndOf (aE aU : Addr) (e : Int) (er : Value) : Prop := (e = 1 ∧ er = (.iface 206 (.pointer (some aE)))) ∨ (e = 2 ∧ er = (.iface 206 (.pointer (some aU)))) ∨ (e = 3 ∧ ∃ m, er = (.iface 168 (.string m)))
/-- Next finds a packet in l. -/
def NxOk (l : List Int) (tg : Int) (bd rest : List Int) : Prop := ∀ (w : World) (d s q : Nat) (A : Option Addr) (c : Nat) (split : Int) (aE aU : Addr), Src w d s A c l split → Env w d aE aU → w.cell? ⟨q, 0, none⟩ = some (.iface 94 (.pointer (some ⟨s, 0, none⟩))) →
  Calls Tryd.prog 68 #[.pointer (some ⟨q, 0, none⟩)] w fun en w' => ∃ g A c, en = .returned (.tuple #[.pointer (some ⟨g, 0, none⟩), .nilIface]) ∧ w.heap.size ≤ g ∧ w'.cell? ⟨g, 0, none⟩ = some (.int .u8 tg) ∧ w'.cell? ⟨g, 2, none⟩ = some (.slice A bd.length c) ∧ C8 w' A bd ∧ (∃ A c, Src w' d s A c rest split) ∧ Tch (fun j => j = s) w w'
/-- Next ends with an error. -/
def NxNo (l : List Int) (e : Int) : Prop := ∀ (w : World) (d s q : Nat) (A : Option Addr) (c : Nat) (split : Int) (aE aU : Addr), Src w d s A c l split → Env w d aE aU → w.cell? ⟨q, 0, none⟩ = some (.iface 94 (.pointer (some ⟨s, 0, none⟩))) →
  Calls Tryd.prog 68 #[.pointer (some ⟨q, 0, none⟩)] w fun en w' => ∃ p er, en = .returned (.tuple #[.pointer p, er]) ∧ EndOf aE aU e er ∧ Tch (fun j => j = s) w w'
/-- The packets of a stream, and how it ends. -/
inductive OpqR : List Int → List (Int × List Int) → Int → Prop
  | stop {l : List Int} {e : Int} : NxNo l e → OpqR l [] e
  | more {l bd rest : List Int} {tg e : Int} {ops : List (Int × List Int)} : NxOk l tg bd rest → bd.length ≤ 100000000 → OpqR rest ops e → OpqR l ((tg, bd) :: ops) e
set_option maxHeartbeats 1600000 in
set_option maxRecDepth 100000 in
theorem nxt_no {w : World} {d s q : Nat} {split : Int} {te : TypeId} {ve : Value} (H : Calls Tryd.prog 79 #[(.iface 94 (.pointer (some ⟨s, 0, none⟩)))] w (HdNo w d s split (.iface te ve))) (hq : w.cell? ⟨q, 0, none⟩ = some (.iface 94 (.pointer (some ⟨s, 0, none⟩)))) :
    Calls Tryd.prog 68 #[.pointer (some ⟨q, 0, none⟩)] w fun en w' => en = .returned (.tuple #[.pointer none, .iface te ve]) ∧ Tch (fun j => j = s) w w' := by
  have HH := Aside0.mk H
  have nl := fun W : World => run_eql_iface_nil_left (P := Tryd.prog) W te ve Tryd.underlying98
  clear H
  go_enter Tryd.func68, Tryd.ntmps68
  go_wp2_with fail
  refine HH.out.mono ?_
  rintro en w1 ⟨tg, n, rfl, _, hT⟩
  have T1 := Aside0.mk hT
  clear hT
  go_wp2_with fail
  go_ret2
  exact ⟨rfl, T1.out⟩
theorem nx_eof : NxNo [] 1 := fun w d s q A c split aE aU hS hE hq => (nxt_no (rh_eof hS hE) hq).mono fun en w' h => ⟨_, _, h.1, .inl ⟨rfl, rfl⟩, h.2⟩
theorem nx_ok {l bd rest : List Int} {tg n : Int} (hl : bd.length ≤ 100000000) (H : ∀ (w : World) (d s : Nat) (A : Option Addr) (c : Nat) (split : Int) (aE aU : Addr), Src w d s A c l split → Env w d aE aU → Calls Tryd.prog 79 #[(.iface 94 (.pointer (some ⟨s, 0, none⟩)))] w (HdOk w d s split tg n bd true rest)) : NxOk l tg bd rest :=
  fun w d s q A c split aE aU hS hE hq => nxt_ok (H w d s A c split aE aU hS hE) hE hl hq hS.lt hS.ds
set_option maxHeartbeats 1600000 in
set_option maxRecDepth 100000 in
theorem nor_calls (w : World) (s : Nat) : Calls Tryd.prog 67 #[(.iface 94 (.pointer (some ⟨s, 0, none⟩)))] w fun en w' => en = .returned (.pointer (some ⟨w.heap.size, 0, none⟩)) ∧ w'.cell? ⟨w.heap.size, 0, none⟩ = some (.iface 94 (.pointer (some ⟨s, 0, none⟩))) ∧ Below w.heap.size w w' := by
  go_enter Tryd.func67, Tryd.ntmps67
  go_wp2_with fail
  go_ret
  exact ⟨rfl, (cell_of_row _ _ 0 _ _ _ (heap_alloc_new w (.cells #[(.iface 94 (.pointer (some ⟨s, 0, none⟩)))] 191))).trans rfl, below_alloc (Below.refl _ _) _⟩
theorem cell_al {w : World} {p : Addr} {v : Value} (h : w.cell? p = some v) (o : Obj) : (w.alloc o).cell? p = some v := ((below_alloc (Below.refl _ _) o).cell (World.block_lt_of_cell? w _ h)).trans h
theorem blk_cell {w w1 : World} {g : Nat} (h : w1.heap[g]? = w.heap[g]?) (i : Nat) : w1.cell? ⟨g, i, none⟩ = w.cell? ⟨g, i, none⟩ := by simp [World.cell?, h]
theorem below_less {w w1 : World} {B : Nat} (h : Below w.heap.size w w1) (hB : B ≤ w.heap.size) : Below B w w1 := h.mono hB
def lenO : Value → Nat
  | .slice _ n _ => n
  | _ => 0
set_option maxHeartbeats 1600000 in
set_option maxRecDepth 100000 in
theorem rop_calls {w : World} {A : Option Addr} {c n : Nat} {l : List Int} {split e : Int} {aE aU : Addr} {ops : List (Int × List Int)} (hr : C8 w A l) (hc : l.length ≤ c) (hn : n = l.length) (hb : Bytes l) (hE : Env w w.heap.size aE aU) (hO : OpqR l ops e) (hops : ops.length ≤ 100000000) :
    Calls Tryd.prog 39 #[.slice A n c, .int .i64 split] w fun en w' => ∃ v, en = .returned (.tuple #[v, .int .i64 e]) ∧ kO.R 76 w' w.heap.size (fun _ => True) v ops ∧ Below w.heap.size w w' := by
  obtain ⟨W, eW, hS, hB⟩ := src_new split hr hc hb
  have S0 := Aside0.mk hS
  have B0 := Aside0.mk hB
  have E0 := Aside0.mk (hE.below hB)
  have HO := Aside0.mk hO
  have OL := Aside0.mk hops
  rw [← hn] at eW
  clear hr hc hn hb hE hO hS hB hops
  go_enter Tryd.func39, Tryd.ntmps39
  go_wp2_with fail
  clear eW
  obtain ⟨s, es⟩ : ∃ s, w.heap.size = s := ⟨_, rfl⟩
  have ES := Aside0.mk es
  rw [es] at S0 E0 ⊢
  clear es
  refine (nor_calls W s).mono ?_
  rintro en w0 ⟨rfl, hq, hB⟩
  obtain ⟨q, eq⟩ : ∃ q, W.heap.size = q := ⟨_, rfl⟩
  rw [eq] at hq ⊢
  have HQ := Aside0.mk hq
  have S1 := Aside0.mk (S0.out.below hB)
  have E1 := Aside0.mk (E0.out.below hB)
  have B1 := Aside0.mk (below_then B0.out B0.out.size hB)
  have QS := Aside0.mk (show q ≠ s by have := S0.out.lt; omega)
  have SL := Aside0.mk (Nat.lt_of_lt_of_le S0.out.lt hB.size)
  clear hq hB eq
  go_wp2_with fail
  go_loopw [7] (fun ov wr => ∃ (rv : Value) (l' : List Int) (ops1 ops2 : List (Int × List Int)), ov = rv ∧ Aside0 (ops = ops1 ++ ops2 ∧ OpqR l' ops2 e ∧ ∃ A' c', Src wr s s A' c' l' split) ∧ Aside0 (kO.R 76 wr w0.heap.size (fun _ => True) rv ops1) ∧ Aside0 (Tch (fun j => j = s) w0 wr)) (fun ov _ => ops.length - lenO ov)
  case atStart => exact ⟨_, l, [], ops, rfl, ⟨rfl, HO.out, _, _, S1.out⟩, ⟨Kd.R_nil _ _ _ _ _⟩, ⟨Tch.refl _ _⟩⟩
  case round =>
    obtain ⟨rv, l', ops1, ops2, erv, HS, HR, HT⟩ := hrel
    obtain rfl := erv.symm
    obtain ⟨eo, ho, A', c', hs⟩ := HS.out
    have hq1 := HT.out.cell (p := ⟨q, 0, none⟩) HQ.out (fun e => QS.out e)
    have HE1 := E1.out.kept HT.out (fun j q => by subst q; exact Nat.le_refl _)
    cases ho with
    | stop hno =>
      have CC := Aside0.mk (hno _ _ _ _ _ _ _ _ _ hs HE1 hq1)
      have EO := Aside0.mk eo
      have HE2 := Aside0.mk HE1
      clear hno eo hs hq1 HE1 HS
      go_wp2_with fail
      refine CC.out.mono ?_
      rintro en w1 ⟨p, er, rfl, her, hT⟩
      have HE3 := Aside0.mk (HE2.out.kept hT (fun j q => by subst q; exact Nat.le_refl _))
      have R1 := Aside0.mk (Kd.R_mono (Kd.R_step (Kd.R_bound HR.out) (w1 := w1) (fun k hk hlt => hT.block k hlt (fun e => by have := hk.2.1; have := SL.out; omega))) (ok' := fun _ => True) (fun _ _ => trivial))
      have T1 := Aside0.mk (HT.out.trans hT)
      clear hT
      have fin : ∀ w2, w2 = w1 → kO.R 76 w2 w.heap.size (fun _ => True) rv ops ∧ Below w.heap.size w w2 := by
        rintro w2 rfl
        have eo := EO.out
        rw [List.append_nil] at eo
        rw [eo]
        exact ⟨Kd.R_lower R1.out B1.out.size, T1.out.below B1.out B1.out.size (fun k q => by have := ES.out; omega)⟩
      have FIN := Aside0.mk fin
      clear fin
      rcases her with ⟨rfl, rfl⟩ | ⟨rfl, rfl⟩ | ⟨rfl, m, rfl⟩
      · have nl := fun W : World => run_eql_iface_nil_left (P := Tryd.prog) W 206 (.pointer (some aE)) Tryd.underlying98
        go_wp2_with fail
        refine (end_eof HE3.out).mono ?_
        rintro en w2 ⟨rfl, hw⟩
        have F := Aside0.mk (FIN.out w2 hw)
        clear hw
        go_wp2_with fail
        go_ret2
        exact ⟨_, rfl, F.out⟩
      · have nl := fun W : World => run_eql_iface_nil_left (P := Tryd.prog) W 206 (.pointer (some aU)) Tryd.underlying98
        go_wp2_with fail
        refine (end_cut HE3.out).mono ?_
        rintro en w2 ⟨rfl, hw⟩
        have F := Aside0.mk (FIN.out w2 hw)
        clear hw
        go_wp2_with fail
        go_ret2
        exact ⟨_, rfl, F.out⟩
      · have nl := fun W : World => run_eql_iface_nil_left (P := Tryd.prog) W 168 (.string m) Tryd.underlying98
        go_wp2_with fail
        refine (end_form HE3.out m).mono ?_
        rintro en w2 ⟨rfl, hw⟩
        have F := Aside0.mk (FIN.out w2 hw)
        clear hw
        go_wp2_with fail
        go_ret2
        exact ⟨_, rfl, F.out⟩
    | more hok hbl hrest =>
      rename_i bd rest tg ops3
      have CC := Aside0.mk (hok _ _ _ _ _ _ _ _ _ hs HE1 hq1)
      have EO := Aside0.mk eo
      have HRS := Aside0.mk (And.intro hrest hbl)
      have HRT := Aside0.mk (And.intro HR.out HT.out)
      have ol : ops1.length + (ops3.length + 1) = ops.length := by rw [eo, List.length_append, List.length_cons]
      have OL2 := Aside0.mk ol
      clear hok hbl hrest eo hs hq1 HE1 HS ol
      go_wp2_with fail
      refine CC.out.mono ?_
      rintro en w1 ⟨g, A1, c1, rfl, hg, y0, y2, hC, ⟨A2, c2, hs2⟩, hT⟩
      obtain ⟨n1, en1⟩ : ∃ n, bd.length = n := ⟨_, rfl⟩
      rw [en1] at y2
      have gl := World.block_lt_of_cell? w1 _ y0
      have RC := Aside0.mk (Kd.C_drew hC)
      have S2 := Aside0.mk hs2
      have T1 := Aside0.mk (HRT.out.2.trans hT)
      have LE := Aside0.mk (show n1 = bd.length ∧ bd.length ≤ 140737488355328 from ⟨en1.symm, by have := HRS.out.2; omega⟩)
      have HR1 := Aside0.mk (Kd.R_mono (Kd.R_step (Kd.R_bound HRT.out.1) (w1 := w1) (fun k hk hlt => hT.block k hlt (fun e => by have := hk.2.1; have := SL.out; omega))) (ok' := fun _ => True) (fun _ _ => trivial))
      have OWN := Aside0.mk (show ∀ k, rv.ownBlock = some k → k < g from fun k e => by have := Kd.R_lt HRT.out.1 k e; omega)
      have SZ := Aside0.mk (show w0.heap.size ≤ w1.heap.size ∧ g < w1.heap.size from ⟨T1.out.size, gl⟩)
      have Y := Aside0.mk (And.intro y0 y2)
      clear hC hs2 hT en1 hg gl
      go_upto_region 6 with (fail)
      go_region_held3 (fun w' => w'.cell? ⟨g, 0, none⟩ = some (.int .u8 tg) ∧ w'.cell? ⟨g, 2, none⟩ = some (.slice A1 n1 c1)) (first | (exact ⟨y0, y2⟩) | (exact ⟨by assumption, by assumption⟩) | (exact ⟨cell_al (by assumption) _, cell_al (by assumption) _⟩) | go_keep) ((first | (go_at_call 57; (with_reducible refine (own_calls RC.out LE.out.1 LE.out.2).mono ?_); rintro en w5 ⟨v5, rfl, hR, hB⟩; obtain ⟨A5, c5', e5, _, _⟩ := Kd.R_reads hR; rw [← LE.out.1] at e5; subst e5; have R5 := Aside0.mk (Kd.R_mono (Kd.R_lower (Kd.R_bound hR) SZ.out.1) (ok' := fun j => w1.heap.size ≤ j) (fun j q => q.2.1)); have T5 := Aside0.mk hB; have x0 := (hB.cell (p := ⟨g, 0, none⟩) SZ.out.2).trans Y.out.1; have x2 := (hB.cell (p := ⟨g, 2, none⟩) SZ.out.2).trans Y.out.2; have hB0 : w5.cell? ⟨g, 0, none⟩ = some (.int .u8 tg) ∧ w5.cell? ⟨g, 2, none⟩ = some (.slice A1 n1 c1) := ⟨x0, x2⟩; clear hR hB) | ((refine Kd.R_append_step kO (w0 := w1.drew) (W := w5) w0.heap.size (by rfl) (.tmp 26) (.tmp 37) 72 76 (.agg #[.int .u8 0, .slice none 0 0]) 32 rfl Tryd.underlying72 infoO rfl (by decide) (by decide) _ ops1 (tg, bd) [.int .u8 tg, .slice A5 n1 c5'] (fun _ => True) (fun j => w1.heap.size ≤ j) rfl rfl ?hp ?hk (fun _ _ => trivial) ?ho ?hb ?hz ?hl ?_; (case hp => exact ⟨[.int .u8 tg], [.slice A5 n1 c5'], rfl, rfl, ⟨_, rfl, R5.out⟩⟩); (case hk => intro j hj; exact ⟨trivial, fun e => by have := OWN.out j e.symm; have := SZ.out; omega⟩); (case ho => exact Kd.R_below (Kd.R_drew HR1.out) T5.out); (case hb => exact (below_less (T5.out) SZ.out.1)); (case hz => exact Nat.le_trans SZ.out.1 T5.out.size); (case hl => have := OL2.out; have := OL.out; omega); intro v1 w6 hR hB hG _; have R9 := Aside0.mk hR; have B9 := Aside0.mk hB; have x0 := (blk_cell (hG.block g (Nat.lt_of_lt_of_le SZ.out.2 T5.out.size) (fun e => by have := OWN.out g e.symm; omega)) 0).trans (show w5.cell? ⟨g, 0, none⟩ = some (.int .u8 tg) by assumption); have x2 := (blk_cell (hG.block g (Nat.lt_of_lt_of_le SZ.out.2 T5.out.size) (fun e => by have := OWN.out g e.symm; omega)) 2).trans (show w5.cell? ⟨g, 2, none⟩ = some (.slice A1 n1 c1) by assumption); have hB0 : w6.cell? ⟨g, 0, none⟩ = some (.int .u8 tg) ∧ w6.cell? ⟨g, 2, none⟩ = some (.slice A1 n1 c1) := ⟨x0, x2⟩; have G9 := Aside0.mk hG; clear hR hB hG))))
      go_wp2_with fail
      have obase : ∀ k, rv.ownBlock = some k → w0.heap.size ≤ k := fun k e => Kd.R_base HR1.out k e
      have hTT : Tch (fun j => rv.ownBlock = some j) w1 w6 := ((Tch.refl (fun j => rv.ownBlock = some j) w1).drew.trans (Tch.of_below T5.out)).trans (Tch.of_grown G9.out)
      have sl := SL.out
      refine ⟨⟨v1, rest, ops1 ++ [(tg, bd)], ops3, rfl, ⟨by rw [EO.out, List.append_assoc]; rfl, HRS.out.1, A2, c2, S2.out.kept hTT (fun k e => by have := obase k e; omega)⟩, ⟨R9.out⟩, ⟨T1.out.step hTT (fun k e hk => by have := obase k e; omega)⟩⟩, ?_⟩
      obtain ⟨_, _, e1⟩ := Kd.R_slice R9.out
      obtain ⟨_, _, e2⟩ := Kd.R_slice HR1.out
      rw [e1, e2]
      simp only [lenO, List.length_append, List.length_singleton]
      have := OL2.out
      omega
end Go.Proofs.YtfhefoaieefnkaaDoor.Rd

/- packet.consumeAll of a body of which nothing is left. -/
set_option linter.unusedVariables false
set_option linter.unusedSimpArgs false
namespace Go.Proofs.YtfhefoaieefnkaaDoor.Rd
open Go.RowKit Go.Proofs.YtfhefoaieefnkaaDoorW.PrintWords Go.Proofs.YtfhefoaieefnkaaDoorW.PrintMore Go.Proofs.YtfhefoaieefnkaaDoor.Kit

theorem zeros1k : Tryd.zeroCells205 = (nums .u8 (List.replicate 1024 0)).toArray := by kernel_rfl
theorem buf1k (w : World) : ∃ W, w.alloc (.cells Tryd.zeroCells205 205) = W ∧ R8 205 W w.heap.size (.slice (some ⟨w.heap.size, 0, none⟩) 1024 1024) (List.replicate 1024 0) ∧ Below w.heap.size w W := by
  refine ⟨_, rfl, ?_, below_alloc (Below.refl _ _) _⟩
  rw [zeros1k]
  have own := own_lit w w.heap.size 205 .u8 (List.replicate 1024 0) (Nat.le_refl _) (by rw [List.length_replicate]; decide)
  rw [List.length_replicate] at own
  refine Kd.R_of_own (v := .slice (some ⟨w.heap.size, 0, none⟩) 1024 1024) ?_ (fun _ _ => trivial)
  rw [List.length_replicate]
  exact own
set_option maxHeartbeats 1600000 in
set_option maxRecDepth 100000 in
theorem con_src {w : World} {d s b : Nat} {split : Int} {rest : List Int} {ok : Bool} {aE aU : Addr} (h : Bdy w d s b split (.iface 94 (.pointer (some ⟨b, 0, none⟩))) [] ok rest) (hE : Env w d aE aU) :
    Calls Tryd.prog 81 #[(.iface 94 (.pointer (some ⟨b, 0, none⟩)))] w fun en w' => ∃ v, en = .returned v ∧ Tch (fun j => j = s ∨ j = b) w w' := by
  obtain ⟨W, eW, hR, hB⟩ := buf1k w
  have H0 := Aside0.mk ((h.below hB).below (w1 := W.drew) (below_drew (Below.refl _ _)))
  have HE := Aside0.mk ((hE.below hB).below (w1 := W.drew) (below_drew (Below.refl _ _)))
  have R0 := Aside0.mk (Kd.R_drew hR)
  have B0 := Aside0.mk hB
  have gs : w.heap.size ≠ s := by have := h.lts; omega
  have gb : w.heap.size ≠ b := by have := h.ltb; omega
  have gd : d ≤ w.heap.size := by have := h.lts; have := h.ds; omega
  have ds := h.ds
  have db := h.db
  have ni := nil_read b
  clear h hE hR hB
  go_enter Tryd.func81, Tryd.ntmps81
  go_upto_region 3 with (fail)
  clear eW
  obtain ⟨g, eg⟩ : ∃ g, w.heap.size = g := ⟨_, rfl⟩
  have EG := Aside0.mk eg
  rw [eg] at gs gb gd R0 ⊢
  clear eg
  go_loopw [2, 3, 4] (fun nv ev mv wr => nv = .int .i64 0 ∧ ev = .nilIface ∧ mv = .int .i64 0 ∧ wr = W) (fun _ _ _ _ => 0)
  case atStart => exact ⟨rfl, rfl, rfl, rfl⟩
  case round =>
    obtain ⟨rfl, rfl, rfl, rfl⟩ := hrel
    obtain ⟨ve, hve⟩ : ∃ x : Value, (if ok = true then (.iface 206 (.pointer (some aE))) else (.iface 206 (.pointer (some aU)))) = x := ⟨_, rfl⟩
    have VE := Aside0.mk hve
    clear hve
    go_wp2_with fail
    go_region_held3 (fun _ => True) (trivial) ((go_at_call 102; go_loud ((with_reducible refine (bdy_src H0.out HE.out R0.out (show 0 + 1024 ≤ 1024 by omega) (show 1 ≤ 1024 by omega) (Nat.le_refl _) gs gd gb).mono ?_); rintro en w1 ⟨q, ok2, rest2, q1, q2, q3, q4, q5, q6, q7, q8⟩; rw [if_neg (by simp), VE.out] at q5; obtain rfl : q = 0 := (by simpa using q2); subst q5; have X1 := Aside0.mk q8; clear q1 q2 q3 q4 q6 q7 q8)))
    have hT1 := X1.out
    have E2 := HE.out.kept hT1 (fun j q => by rcases q with q | q | q <;> subst q <;> assumption)
    have fin : Aside0 (Tch (fun j => j = s ∨ j = b) w w1) := ⟨Tch.step (S := fun j => j = s ∨ j = b) (Tch.of_below B0.out) ((Tch.refl _ _).drew.trans hT1) (fun j q hl => by have := EG.out; rcases q with q | q | q; omega; exact .inl q; exact .inr q)⟩
    have e0 := E2.e
    have u0 := E2.u
    cases ok
    · have eve : ve = (.iface 206 (.pointer (some aU))) := VE.out.symm
      subst eve
      have eo := eql_other (w := w1) (Ne.symm E2.ne) E2.hu E2.he
      have nl := fun W : World => run_eql_iface_nil_left (P := Tryd.prog) W 206 (.pointer (some aU)) Tryd.underlying98
      clear hT1 X1
      go_wp2_with fail
      go_ret2
      first | exact ⟨_, rfl, fin.out⟩ | exact fin.out | exact ⟨⟨_, rfl⟩, fin.out⟩
    · have eve : ve = (.iface 206 (.pointer (some aE))) := VE.out.symm
      subst eve
      have ee := eql_same aE
      have nl := fun W : World => run_eql_iface_nil_left (P := Tryd.prog) W 206 (.pointer (some aE)) Tryd.underlying98
      clear hT1 X1
      go_wp2_with fail
      go_ret2
      first | exact ⟨_, rfl, fin.out⟩ | exact fin.out | exact ⟨⟨_, rfl⟩, fin.out⟩
set_option maxHeartbeats 1600000 in
set_option maxRecDepth 100000 in
theorem con_spn {w : World} {d s b : Nat} {split : Int} {rest : List Int} {ok : Bool} {aE aU : Addr} (h : Bdy w d s b split (.iface 197 (.pointer (some ⟨b, 0, none⟩))) [] ok rest) (hE : Env w d aE aU) :
    Calls Tryd.prog 81 #[(.iface 197 (.pointer (some ⟨b, 0, none⟩)))] w fun en w' => ∃ v, en = .returned v ∧ Tch (fun j => j = s ∨ j = b) w w' := by
  obtain ⟨W, eW, hR, hB⟩ := buf1k w
  have H0 := Aside0.mk ((h.below hB).below (w1 := W.drew) (below_drew (Below.refl _ _)))
  have HE := Aside0.mk ((hE.below hB).below (w1 := W.drew) (below_drew (Below.refl _ _)))
  have R0 := Aside0.mk (Kd.R_drew hR)
  have B0 := Aside0.mk hB
  have gs : w.heap.size ≠ s := by have := h.lts; omega
  have gb : w.heap.size ≠ b := by have := h.ltb; omega
  have gd : d ≤ w.heap.size := by have := h.lts; have := h.ds; omega
  have ds := h.ds
  have db := h.db
  have ni := nil_read_spn b
  clear h hE hR hB
  go_enter Tryd.func81, Tryd.ntmps81
  go_upto_region 3 with (fail)
  clear eW
  obtain ⟨g, eg⟩ : ∃ g, w.heap.size = g := ⟨_, rfl⟩
  have EG := Aside0.mk eg
  rw [eg] at gs gb gd R0 ⊢
  clear eg
  go_loopw [2, 3, 4] (fun nv ev mv wr => nv = .int .i64 0 ∧ ev = .nilIface ∧ mv = .int .i64 0 ∧ wr = W) (fun _ _ _ _ => 0)
  case atStart => exact ⟨rfl, rfl, rfl, rfl⟩
  case round =>
    obtain ⟨rfl, rfl, rfl, rfl⟩ := hrel
    obtain ⟨ve, hve⟩ : ∃ x : Value, (if ok = true then (.iface 206 (.pointer (some aE))) else (.iface 206 (.pointer (some aU)))) = x := ⟨_, rfl⟩
    have VE := Aside0.mk hve
    clear hve
    go_wp2_with fail
    go_region_held3 (fun _ => True) (trivial) ((go_at_call 122; go_loud ((with_reducible refine (bdy_spn H0.out HE.out R0.out (show 0 + 1024 ≤ 1024 by omega) (show 1 ≤ 1024 by omega) (Nat.le_refl _) gs gd gb).mono ?_); rintro en w1 ⟨q, ok2, rest2, q1, q2, q3, q4, q5, q6, q7, q8⟩; rw [if_neg (by simp), VE.out] at q5; obtain rfl : q = 0 := (by simpa using q2); subst q5; have X1 := Aside0.mk q8; clear q1 q2 q3 q4 q6 q7 q8)))
    have hT1 := X1.out
    have E2 := HE.out.kept hT1 (fun j q => by rcases q with q | q | q <;> subst q <;> assumption)
    have fin : Aside0 (Tch (fun j => j = s ∨ j = b) w w1) := ⟨Tch.step (S := fun j => j = s ∨ j = b) (Tch.of_below B0.out) ((Tch.refl _ _).drew.trans hT1) (fun j q hl => by have := EG.out; rcases q with q | q | q; omega; exact .inl q; exact .inr q)⟩
    have e0 := E2.e
    have u0 := E2.u
    cases ok
    · have eve : ve = (.iface 206 (.pointer (some aU))) := VE.out.symm
      subst eve
      have eo := eql_other (w := w1) (Ne.symm E2.ne) E2.hu E2.he
      have nl := fun W : World => run_eql_iface_nil_left (P := Tryd.prog) W 206 (.pointer (some aU)) Tryd.underlying98
      clear hT1 X1
      go_wp2_with fail
      go_ret2
      first | exact ⟨_, rfl, fin.out⟩ | exact fin.out | exact ⟨⟨_, rfl⟩, fin.out⟩
    · have eve : ve = (.iface 206 (.pointer (some aE))) := VE.out.symm
      subst eve
      have ee := eql_same aE
      have nl := fun W : World => run_eql_iface_nil_left (P := Tryd.prog) W 206 (.pointer (some aE)) Tryd.underlying98
      clear hT1 X1
      go_wp2_with fail
      go_ret2
      first | exact ⟨_, rfl, fin.out⟩ | exact fin.out | exact ⟨⟨_, rfl⟩, fin.out⟩
set_option maxHeartbeats 1600000 in
set_option maxRecDepth 100000 in
theorem con_prt {w : World} {d s b : Nat} {split : Int} {rest : List Int} {ok : Bool} {aE aU : Addr} (h : Bdy w d s b split (.iface 200 (.pointer (some ⟨b, 0, none⟩))) [] ok rest) (hE : Env w d aE aU) :
    Calls Tryd.prog 81 #[(.iface 200 (.pointer (some ⟨b, 0, none⟩)))] w fun en w' => ∃ v, en = .returned v ∧ Tch (fun j => j = s ∨ j = b) w w' := by
  obtain ⟨W, eW, hR, hB⟩ := buf1k w
  have H0 := Aside0.mk ((h.below hB).below (w1 := W.drew) (below_drew (Below.refl _ _)))
  have HE := Aside0.mk ((hE.below hB).below (w1 := W.drew) (below_drew (Below.refl _ _)))
  have R0 := Aside0.mk (Kd.R_drew hR)
  have B0 := Aside0.mk hB
  have gs : w.heap.size ≠ s := by have := h.lts; omega
  have gb : w.heap.size ≠ b := by have := h.ltb; omega
  have gd : d ≤ w.heap.size := by have := h.lts; have := h.ds; omega
  have ds := h.ds
  have db := h.db
  have ni := nil_read_prt b
  clear h hE hR hB
  go_enter Tryd.func81, Tryd.ntmps81
  go_upto_region 3 with (fail)
  clear eW
  obtain ⟨g, eg⟩ : ∃ g, w.heap.size = g := ⟨_, rfl⟩
  have EG := Aside0.mk eg
  rw [eg] at gs gb gd R0 ⊢
  clear eg
  go_loopw [2, 3, 4] (fun nv ev mv wr => nv = .int .i64 0 ∧ ev = .nilIface ∧ mv = .int .i64 0 ∧ wr = W) (fun _ _ _ _ => 0)
  case atStart => exact ⟨rfl, rfl, rfl, rfl⟩
  case round =>
    obtain ⟨rfl, rfl, rfl, rfl⟩ := hrel
    obtain ⟨ve, hve⟩ : ∃ x : Value, (if ok = true then (.iface 206 (.pointer (some aE))) else (.iface 206 (.pointer (some aU)))) = x := ⟨_, rfl⟩
    have VE := Aside0.mk hve
    clear hve
    go_wp2_with fail
    go_region_held3 (fun _ => True) (trivial) ((go_at_call 123; go_loud ((with_reducible refine (bdy_prt H0.out HE.out R0.out (show 0 + 1024 ≤ 1024 by omega) (show 1 ≤ 1024 by omega) (Nat.le_refl _) gs gd gb).mono ?_); rintro en w1 ⟨q, ok2, rest2, q1, q2, q3, q4, q5, q6, q7, q8⟩; rw [if_neg (by simp), VE.out] at q5; obtain rfl : q = 0 := (by simpa using q2); subst q5; have X1 := Aside0.mk q8; clear q1 q2 q3 q4 q6 q7 q8)))
    have hT1 := X1.out
    have E2 := HE.out.kept hT1 (fun j q => by rcases q with q | q | q <;> subst q <;> assumption)
    have fin : Aside0 (Tch (fun j => j = s ∨ j = b) w w1) := ⟨Tch.step (S := fun j => j = s ∨ j = b) (Tch.of_below B0.out) ((Tch.refl _ _).drew.trans hT1) (fun j q hl => by have := EG.out; rcases q with q | q | q; omega; exact .inl q; exact .inr q)⟩
    have e0 := E2.e
    have u0 := E2.u
    cases ok
    · have eve : ve = (.iface 206 (.pointer (some aU))) := VE.out.symm
      subst eve
      have eo := eql_other (w := w1) (Ne.symm E2.ne) E2.hu E2.he
      have nl := fun W : World => run_eql_iface_nil_left (P := Tryd.prog) W 206 (.pointer (some aU)) Tryd.underlying98
      clear hT1 X1
      go_wp2_with fail
      go_ret2
      first | exact ⟨_, rfl, fin.out⟩ | exact fin.out | exact ⟨⟨_, rfl⟩, fin.out⟩
    · have eve : ve = (.iface 206 (.pointer (some aE))) := VE.out.symm
      subst eve
      have ee := eql_same aE
      have nl := fun W : World => run_eql_iface_nil_left (P := Tryd.prog) W 206 (.pointer (some aE)) Tryd.underlying98
      clear hT1 X1
      go_wp2_with fail
      go_ret2
      first | exact ⟨_, rfl, fin.out⟩ | exact fin.out | exact ⟨⟨_, rfl⟩, fin.out⟩
theorem con_calls {w : World} {d s b : Nat} {split : Int} {v : Value} {rest : List Int} {ok : Bool} {aE aU : Addr} (h : Bdy w d s b split v [] ok rest) (hE : Env w d aE aU) :
    Calls Tryd.prog 81 #[v] w fun en w' => ∃ v, en = .returned v ∧ Tch (fun j => j = s ∨ j = b) w w' := by
  have h2 := h
  rcases h2 with ⟨rfl, rfl, _⟩ | ⟨rfl, _⟩ | ⟨rfl, _⟩
  · exact con_src h hE
  · exact con_spn h hE
  · exact con_prt h hE
end Go.Proofs.YtfhefoaieefnkaaDoor.Rd

/- packet.OpaqueReader.Next where the body is cut off. -/
set_option linter.unusedVariables false
set_option linter.unusedSimpArgs false
namespace Go.Proofs.YtfhefoaieefnkaaDoor.Rd
open Go.RowKit Go.Proofs.YtfhefoaieefnkaaDoorW.PrintWords Go.Proofs.YtfhefoaieefnkaaDoorW.PrintMore Go.Proofs.YtfhefoaieefnkaaDoor.Kit

set_option maxHeartbeats 1600000 in
set_option maxRecDepth 100000 in
theorem opq_cut {w : World} {d s b u : Nat} {split : Int} {v x0 x2 : Value} {bd rest : List Int} {aE aU : Addr} (h : Bdy w d s b split v bd false rest) (hE : Env w d aE aU) (hbl : bd.length ≤ 100000000) (h0 : w.cell? ⟨u, 0, none⟩ = some x0) (h2 : w.cell? ⟨u, 2, none⟩ = some x2) (hz : w.frozen? ⟨u, 2, none⟩ = false) (us : u ≠ s) (ub : u ≠ b) (ud : d ≤ u) :
    Calls Tryd.prog 80 #[.pointer (some ⟨u, 0, none⟩), v] w fun en w' => en = .returned (.iface 206 (.pointer (some aU))) ∧ (∃ ok' rest', Bdy w' d s b split v [] ok' rest') ∧ Tch (fun j => j = s ∨ j = b ∨ j = u) w w' := by
  have HC := Aside0.mk (rall h hE hbl)
  have X := Aside0.mk (And.intro h0 (And.intro h2 hz))
  have US := Aside0.mk (And.intro us (And.intro ub ud))
  have UL := Aside0.mk (World.block_lt_of_cell? w _ h0)
  clear h hE hbl h0 h2 hz us ub ud
  go_enter Tryd.func80, Tryd.ntmps80
  go_wp2_with fail
  refine HC.out.mono ?_
  rintro en w1 ⟨v', e1, hR, hS, hT, hB⟩
  rw [if_neg (by simp)] at e1
  subst e1
  obtain ⟨A, c, rfl, hc, hC⟩ := Kd.R_reads hR
  obtain ⟨n, en⟩ : ∃ n, bd.length = n := ⟨_, rfl⟩
  rw [en]
  have nt : ¬ (u = s ∨ u = b) := fun q => by rcases q with q | q; exact US.out.1 q; exact US.out.2.1 q
  have y2 := hT.cell (p := ⟨u, 2, none⟩) X.out.2.1 nt
  have z2 := (hT.frozen (p := ⟨u, 2, none⟩) UL.out nt).trans X.out.2.2
  have T1 := Aside0.mk hT
  have S1 := Aside0.mk (hB rfl)
  clear hR hS hT hC hc en nt hB
  go_wp2_with fail
  go_ret
  have hT2 : Tch (fun j => j = u) w1 (w1.setCell ⟨u, 2, none⟩ (.slice A n c)) := (Tch.refl (fun j => j = u) w1).setCell (p := ⟨u, 2, none⟩) (fun _ => rfl) _
  obtain ⟨ok', rest', hb⟩ := S1.out
  exact ⟨rfl, ⟨ok', rest', hb.kept hT2 (fun k q => by subst q; exact ⟨US.out.2.2, US.out.1, US.out.2.1⟩)⟩, (T1.out.mono (fun j q => by rcases q with q | q; exact .inl q; exact .inr (.inl q))).trans (hT2.mono (fun j q => .inr (.inr q)))⟩
set_option maxHeartbeats 1600000 in
set_option maxRecDepth 100000 in
theorem nxt_cut {w : World} {d s q : Nat} {split tg n : Int} {bd rest : List Int} {aE aU : Addr} (H : Calls Tryd.prog 79 #[(.iface 94 (.pointer (some ⟨s, 0, none⟩)))] w (HdOk w d s split tg n bd false rest)) (hE : Env w d aE aU) (hbl : bd.length ≤ 100000000) (hq : w.cell? ⟨q, 0, none⟩ = some (.iface 94 (.pointer (some ⟨s, 0, none⟩)))) (sl : s < w.heap.size) (ds : d ≤ s) :
    Calls Tryd.prog 68 #[.pointer (some ⟨q, 0, none⟩)] w fun en w' => ∃ p er, en = .returned (.tuple #[.pointer p, er]) ∧ EndOf aE aU 2 er ∧ Tch (fun j => j = s) w w' := by
  have HH := Aside0.mk H
  have HE := Aside0.mk hE
  have LB := Aside0.mk (And.intro hbl (And.intro sl ds))
  have nl := fun W : World => run_eql_iface_nil_left (P := Tryd.prog) W 206 (.pointer (some aU)) Tryd.underlying98
  clear H hE hbl sl ds
  go_enter Tryd.func68, Tryd.ntmps68
  go_wp2_with fail
  refine HH.out.mono ?_
  rintro en w1 ⟨v, b, rfl, hb, hbs, hT⟩
  have T1 := Aside0.mk hT
  have BS := Aside0.mk hbs
  have w1l := hT.size
  have bl := hb.ltb
  have sl1 := hb.lts
  have BD := Aside0.mk (And.intro hb.ds hb.db)
  have HE1 := Aside0.mk (HE.out.kept hT (fun j q => by subst q; exact LB.out.2.2))
  obtain ⟨W, eW⟩ : ∃ W, w1.alloc (.cells #[.int .u8 tg, .nilIface, .slice none 0 0] 156) = W := ⟨_, rfl⟩
  have hrow := heap_alloc_new w1 (.cells #[.int .u8 tg, .nilIface, .slice none 0 0] 156)
  have BW : Below w1.heap.size w1 W := eW ▸ below_alloc (Below.refl _ _) _
  rw [eW] at hrow
  have P := Aside0.mk (opq_cut (u := w1.heap.size) (hb.below BW) (HE1.out.below BW) LB.out.1 ((cell_of_row _ _ 0 _ _ _ hrow).trans rfl) ((cell_of_row _ _ 2 _ _ _ hrow).trans rfl) (frozen_of_row _ _ 2 _ _ hrow) (by omega) (by omega) (by have := hb.ds; omega))
  have BW' := Aside0.mk BW
  have HE2 := Aside0.mk (HE1.out.below BW)
  have GD := Aside0.mk (show d ≤ w1.heap.size by have := hb.ds; omega)
  clear hb hT hbs hrow BW bl sl1
  go_upto_region 4 with (fail)
  clear eW
  obtain ⟨g, eg⟩ : ∃ g, w1.heap.size = g := ⟨_, rfl⟩
  have EG := Aside0.mk eg
  rw [eg] at P w1l GD ⊢
  clear eg
  go_wp2_with fail
  refine P.out.mono ?_
  rintro en w2 ⟨rfl, ⟨ok', rest', hb2⟩, hT2⟩
  have CC := Aside0.mk (con_calls hb2 (HE2.out.kept hT2 (fun j q => by rcases q with q | q | q <;> subst q; exact BD.out.1; exact BD.out.2; exact GD.out)))
  have T2 := Aside0.mk hT2
  clear hb2 hT2
  go_wp2_with fail
  refine CC.out.mono ?_
  rintro en w3 ⟨v3, rfl, hT3⟩
  have T3 := Aside0.mk hT3
  clear hT3
  go_wp2_with fail
  go_ret2
  refine ⟨_, _, rfl, .inr (.inl ⟨rfl, rfl⟩), ?_⟩
  refine Tch.step T1.out (Tch.step (Tch.of_below (S := fun j => j = s ∨ j = b ∨ j = g) BW'.out) (T2.out.trans (T3.out.mono (fun j q => by rcases q with q | q; exact .inl q; exact .inr (.inl q)))) (fun j q _ => q)) (fun j q hl => ?_)
  rcases q with q | q | q
  · exact q
  · rcases BS.out with e | e
    · exact q.trans e
    · omega
  · omega
end Go.Proofs.YtfhefoaieefnkaaDoor.Rd

/- The law FnHeadsAgree. -/
set_option linter.unusedVariables false
set_option linter.unusedSimpArgs false
namespace Go.Proofs.YtfhefoaieefnkaaDoor.Rd
open Go.RowKit Go.Proofs.YtfhefoaieefnkaaDoorW.PrintWords Go.Proofs.YtfhefoaieefnkaaDoorW.PrintMore Go.Proofs.YtfhefoaieefnkaaDoor.Kit

def HdBad (w : World) (d s : Nat) (split : Int) (en : Ending) (w' : World) : Prop := ∃ m, HdNo w d s split (.iface 168 (.string m)) en w'
set_option maxRecDepth 100000 in
theorem zzh_bad {w : World} {d s : Nat} {split : Int} (H : Calls Tryd.prog 79 #[(.iface 94 (.pointer (some ⟨s, 0, none⟩)))] w (HdBad w d s split)) : Calls Tryd.prog 63 #[(.iface 94 (.pointer (some ⟨s, 0, none⟩)))] w (HdBad w d s split) := by
  have HH := Aside0.mk H
  clear H
  go_enter Tryd.func63, Tryd.ntmps63
  go_wp2_with fail
  refine HH.out.mono ?_
  rintro en w1 ⟨m, tg, n, rfl, hX⟩
  have X := Aside0.mk hX
  clear hX
  go_wp2_with fail
  refine bodyPost_ret (results_list (rs := [.tmp 2, .tmp 3, .tmp 4, .tmp 5]) rfl (by simp) (.tmp (.tmp (.tmp (.tmp .nil))))) rfl ?_
  exact ⟨m, tg, n, rfl, X.out⟩
set_option maxHeartbeats 1600000 in
set_option maxRecDepth 100000 in
theorem rhd_bad {w : World} {A : Option Addr} {c : Nat} {l : List Int} {split : Int} {aE aU : Addr} (hr : C8 w A l) (hc : l.length ≤ c) (hb : Bytes l) (hE : Env w w.heap.size aE aU)
    (hH : ∀ (W : World) (d s : Nat) (A : Option Addr) (c : Nat), Src W d s A c l split → Env W d aE aU → Calls Tryd.prog 79 #[(.iface 94 (.pointer (some ⟨s, 0, none⟩)))] W (HdBad W d s split)) :
    Calls Tryd.prog 43 #[.slice A l.length c, .int .i64 split] w fun en w' => en = .returned (.agg #[.int .u8 0, .int .i64 0, .slice none 0 0, .int .i64 0, .int .i64 0, .int .i64 3]) ∧ Below w.heap.size w w' := by
  have hB1 : Below w.heap.size w (w.alloc (.cells #[.int .u8 0, .int .i64 0, .slice none 0 0, .int .i64 0, .int .i64 0, .int .i64 0] 90)) := below_alloc (Below.refl _ _) _
  have hz1 : (w.alloc (.cells #[.int .u8 0, .int .i64 0, .slice none 0 0, .int .i64 0, .int .i64 0, .int .i64 0] 90)).heap.size = w.heap.size + 1 := by simp
  obtain ⟨W, eW, hS, hB2⟩ := src_new (w := w.alloc (.cells #[.int .u8 0, .int .i64 0, .slice none 0 0, .int .i64 0, .int .i64 0, .int .i64 0] 90)) split (Kd.C_below hr hB1) hc hb
  rw [hz1] at hS
  have hB := below_then hB1 hB1.size hB2
  have hfb : W.heap[w.heap.size]? = some (.cells #[.int .u8 0, .int .i64 0, .slice none 0 0, .int .i64 0, .int .i64 0, .int .i64 0] 90 (0, 0)) := (hB2.block _ (by rw [hz1]; omega)).trans (heap_alloc_new _ _)
  have hE1 : Env W (w.heap.size + 1) aE aU := (hE.below hB).up (Nat.le_succ _)
  have HC := Aside0.mk (hH _ _ _ _ _ hS hE1)
  have BB := Aside0.mk hB
  have GB0 := Aside0.mk hfb
  have HS0 := Aside0.mk hS
  have E0 := Aside0.mk hE1
  have WZ := Aside0.mk (show w.heap.size + 1 < W.heap.size from hS.lt)
  clear hr hb hE hH hB1 hz1 hS hB2 hB hfb hE1
  go_enter Tryd.func43, Tryd.ntmps43
  go_upto_region 2 with (fail)
  clear eW
  obtain ⟨g, eg⟩ : ∃ g, w.heap.size = g := ⟨_, rfl⟩
  have EG := Aside0.mk eg
  rw [eg] at HC GB0 HS0 E0 WZ ⊢
  clear eg
  go_wp2_with fail
  refine (zzh_bad HC.out).mono ?_
  rintro en w1 ⟨m, tg, n, rfl, _, hT⟩
  have E1 := Aside0.mk (E0.out.kept hT (fun j q => by subst q; exact Nat.le_refl _))
  have T1 := Aside0.mk hT
  have GB := Aside0.mk ((hT.block g (by have := WZ.out; omega) (fun q => by omega)).trans GB0.out)
  clear hT
  go_wp2_with fail
  refine (end_form E1.out m).mono ?_
  rintro en w2 ⟨rfl, rfl⟩
  go_wp2_with ((with_reducible refine gate_store (t := 90) (p := 4) (v := .tmp 28) rfl ?_); go_loud (refine wpList_store_rowTo rfl 90 (.tmp 4) (.tmp 28) rfl rfl g #[.int .u8 0, .int .i64 0, .slice none 0 0, .int .i64 0, .int .i64 0, .int .i64 3] rfl rfl 90 _ GB.out (by kernel_rfl) rfl (by simp [Value.oneCell']) ?_; have GX := Aside0.mk (row_set (cs := #[.int .u8 0, .int .i64 0, .slice none 0 0, .int .i64 0, .int .i64 0, .int .i64 3]) GB.out); have TX := Aside0.mk (tch_row (w := w2) (g := g) #[.int .u8 0, .int .i64 0, .slice none 0 0, .int .i64 0, .int .i64 0, .int .i64 3]); generalize w2.setRow g #[.int .u8 0, .int .i64 0, .slice none 0 0, .int .i64 0, .int .i64 0, .int .i64 3] = w7 at GX TX ⊢))
  refine bodyPost_ret (results_cell_row rfl _ _ g 90 #[.int .u8 0, .int .i64 0, .slice none 0 0, .int .i64 0, .int .i64 0, .int .i64 3] (0, 0) _ rfl GX.out Tryd.underlying90 rfl (by kernel_rfl)) rfl ?_
  have eg := EG.out
  have hB1 : Below w.heap.size w w2 := T1.out.below BB.out BB.out.size (fun k q => by omega)
  exact ⟨rfl, TX.out.below hB1 hB1.size (fun k q => by omega)⟩
/-- The number of the error of a header that cannot be read. -/
def ecode : Nat → Int
  | 0 => 1
  | 1 => 3
  | _ => 2
set_option maxHeartbeats 1600000 in
set_option maxRecDepth 100000 in
theorem nxt_hdno {w : World} {d s q e : Nat} {split : Int} {aE aU : Addr} (H : Calls Tryd.prog 79 #[(.iface 94 (.pointer (some ⟨s, 0, none⟩)))] w (fun en w' => ∃ er, hdEr aE aU e er ∧ HdNo w d s split er en w')) (hq : w.cell? ⟨q, 0, none⟩ = some (.iface 94 (.pointer (some ⟨s, 0, none⟩)))) :
    Calls Tryd.prog 68 #[.pointer (some ⟨q, 0, none⟩)] w fun en w' => ∃ p er, en = .returned (.tuple #[.pointer p, er]) ∧ EndOf aE aU (ecode e) er ∧ Tch (fun j => j = s) w w' := by
  have HH := Aside0.mk H
  clear H
  go_enter Tryd.func68, Tryd.ntmps68
  go_wp2_with fail
  refine HH.out.mono ?_
  rintro en w1 ⟨er, her, tg, n, rfl, _, hT⟩
  have T1 := Aside0.mk hT
  have eo : EndOf aE aU (ecode e) er := by
    match e, her with
    | 0, h => exact .inl ⟨rfl, h⟩
    | 1, h => exact .inr (.inr ⟨rfl, h⟩)
    | _ + 2, h => exact .inr (.inl ⟨rfl, h⟩)
  have EO := Aside0.mk eo
  clear hT her
  rcases eo with ⟨_, rfl⟩ | ⟨_, rfl⟩ | ⟨_, m, rfl⟩
  · have nl := fun W : World => run_eql_iface_nil_left (P := Tryd.prog) W 206 (.pointer (some aE)) Tryd.underlying98
    go_wp2_with fail
    go_ret2
    exact ⟨_, _, rfl, EO.out, T1.out⟩
  · have nl := fun W : World => run_eql_iface_nil_left (P := Tryd.prog) W 206 (.pointer (some aU)) Tryd.underlying98
    go_wp2_with fail
    go_ret2
    exact ⟨_, _, rfl, EO.out, T1.out⟩
  · have nl := fun W : World => run_eql_iface_nil_left (P := Tryd.prog) W 168 (.string m) Tryd.underlying98
    go_wp2_with fail
    go_ret2
    exact ⟨_, _, rfl, EO.out, T1.out⟩
/-- The packets of a stream by their headers, how it ends, and where. -/
inductive HdrR : List Int → List (Int × List Int) → Int → Prop
  | no {l : List Int} {e : Nat} : HdrNo l e → HdrR l [] (ecode e)
  | cut {l bd rest : List Int} {tg n : Int} : Hdr l tg n bd false rest → HdrR l [] 2
  | more {l bd rest : List Int} {tg n e : Int} {ops : List (Int × List Int)} : Hdr l tg n bd true rest → HdrR rest ops e → HdrR l ((tg, bd) :: ops) e
theorem hdrR_total : ∀ (k : Nat) (l : List Int), l.length ≤ k → Bytes l → ∃ ops e, HdrR l ops e ∧ ops.length ≤ l.length := by
  intro k
  induction k with
  | zero =>
    intro l h hb
    obtain rfl := List.eq_nil_of_length_eq_zero (Nat.le_zero.1 h)
    exact ⟨[], _, .no .eof, Nat.le_refl _⟩
  | succ k ih =>
    intro l h hb
    rcases hdr_total hb with ⟨e, he⟩ | ⟨tg, n, bd, ok, rest, hh⟩
    · exact ⟨[], _, .no he, Nat.zero_le _⟩
    · cases ok
      · exact ⟨[], 2, .cut hh, Nat.zero_le _⟩
      · have hl := hh.le
        obtain ⟨ops, e, h1, h2⟩ := ih rest (by omega) (hh.bytes hb).2
        exact ⟨(tg, bd) :: ops, e, .more hh h1, by rw [List.length_cons]; omega⟩
theorem hdrR_opq {l : List Int} {ops : List (Int × List Int)} {e : Int} (h : HdrR l ops e) (hl : l.length ≤ 100000000) : OpqR l ops e := by
  induction h with
  | no hh => exact .stop (fun w d s q A c split aE aU hS hE hq => nxt_hdno (rdh_no hh hS hE) hq)
  | cut hh => exact .stop (fun w d s q A c split aE aU hS hE hq => nxt_cut (rdh_ok hh hS hE) hE (by have := hh.le; omega) hq hS.lt hS.ds)
  | more hh _ ih => exact .more (nx_ok (by have := hh.le; omega) (fun w d s A c split aE aU hS hE => rdh_ok hh hS hE)) (by have := hh.le; omega) (ih (by have := hh.le; omega))
theorem parts_suffix {n : Nat} {p : Bool} {L bd rest : List Int} {ok : Bool} (h : Parts n p L bd ok rest) : rest <:+ L := by
  induction h with
  | short _ => exact List.nil_suffix
  | last _ => exact List.drop_suffix _ _
  | cut _ _ => exact List.nil_suffix
  | more h1 h2 _ ih =>
    have q := rdl_rest h2
    exact (ih.trans (q ▸ List.drop_suffix _ _)).trans (List.drop_suffix _ _)
theorem hdr_suffix {l bd rest : List Int} {tg n : Int} {ok : Bool} (h : Hdr l tg n bd ok rest) : rest <:+ l := by
  cases h with
  | all _ _ _ => exact List.nil_suffix
  | old _ _ _ _ => exact ((List.drop_suffix _ _).trans (List.drop_suffix _ _)).trans (List.suffix_cons _ _)
  | new _ h2 =>
    have q := rdl_rest h2
    exact ((List.drop_suffix _ _).trans (q ▸ List.drop_suffix _ _)).trans (List.suffix_cons _ _)
  | part _ h2 h3 =>
    have q := rdl_rest h2
    exact ((parts_suffix h3).trans (q ▸ List.drop_suffix _ _)).trans (List.suffix_cons _ _)
theorem hdr_drop {l bd rest : List Int} {tg n : Int} {ok : Bool} (h : Hdr l tg n bd ok rest) : l.drop (l.length - rest.length) = rest := by
  obtain ⟨pre, rfl⟩ := hdr_suffix h
  exact drop_pre pre rest
theorem hdrR_more {l : List Int} {tg e : Int} {bd : List Int} {ops : List (Int × List Int)} (h : HdrR l ((tg, bd) :: ops) e) : ∃ n rest, Hdr l tg n bd true rest ∧ HdrR rest ops e := by
  cases h with
  | more a b => exact ⟨_, _, a, b⟩
theorem hdrR_stop {l : List Int} {e : Int} (h : HdrR l [] e) : (∃ k, HdrNo l k ∧ e = ecode k) ∨ (e = 2 ∧ ∃ tg n bd rest, Hdr l tg n bd false rest) := by
  cases h with
  | no a => exact .inl ⟨_, a, rfl⟩
  | cut a => exact .inr ⟨rfl, _, _, _, _, a⟩
theorem kO_openH {W : World} {x : Int} {C : List Int} {cs : List Value} (h : kO.K W (x, C) cs) : ∃ A1 c1, cs = [.int .u8 x, .slice A1 C.length c1] ∧ C8 W A1 C := by
  obtain ⟨cs0, cs1, e, e0, A1, c1, e1, l1, r1⟩ := h
  have e0' : cs0 = [.int .u8 x] := e0
  have e1' : cs1 = [.slice A1 C.length c1] := e1
  subst e0' e1' e
  exact ⟨A1, c1, rfl, r1⟩
/-- ReadHead of what cannot be read: one of its ends is an error. -/
def RhBad (w : World) (en : Ending) (w' : World) : Prop := ∃ (tg n : Int) (A : Option Addr) (m c : Nat) (b L e : Int), en = .returned (.agg #[.int .u8 tg, .int .i64 n, .slice A m c, .int .i64 b, .int .i64 L, .int .i64 e]) ∧ ((e ≠ 0) ∨ (e = 0 ∧ b ≠ 0)) ∧ Below w.heap.size w w'
theorem rh_badB {w : World} {A : Option Addr} {c : Nat} {l : List Int} {split e : Int} {aE aU : Addr} (hr : C8 w A l) (hc : l.length ≤ c) (hb : Bytes l) (hl : l.length ≤ 100000000) (hE : Env w w.heap.size aE aU) (h : HdrR l [] e) :
    Calls Tryd.prog 43 #[.slice A l.length c, .int .i64 split] w (RhBad w) := by
  rcases hdrR_stop h with ⟨k, hn, _⟩ | ⟨_, tg, n, bd, rest, hh⟩
  · cases hn with
    | eof => exact (rhd_no hr hc hb hE (code := 1) (fun W d s A c hS hE => rh_eof hS hE) (fun W d hE => end_eof hE)).mono fun en w' h => ⟨_, _, _, _, _, _, _, _, h.1, .inl (by decide), h.2⟩
    | bad h1 => exact (rhd_bad hr hc hb hE (fun W d s A c hS hE => rh_bad hS hE h1)).mono fun en w' h => ⟨_, _, _, _, _, _, _, _, h.1, .inl (by decide), h.2⟩
    | cuto h1 h2 h3 h4 =>
      rcases h3 with ⟨h3, rfl⟩ | ⟨h3, rfl⟩ | ⟨h3, rfl⟩
      · exact (rhd_no hr hc hb hE (code := 2) (fun W d s A c hS hE => rh_oldno1 hS hE h1 h2 h3 h4) (fun W d hE => end_cut hE)).mono fun en w' h => ⟨_, _, _, _, _, _, _, _, h.1, .inl (by decide), h.2⟩
      · exact (rhd_no hr hc hb hE (code := 2) (fun W d s A c hS hE => rh_oldno2 hS hE h1 h2 h3 h4) (fun W d hE => end_cut hE)).mono fun en w' h => ⟨_, _, _, _, _, _, _, _, h.1, .inl (by decide), h.2⟩
      · exact (rhd_no hr hc hb hE (code := 2) (fun W d s A c hS hE => rh_oldno4 hS hE h1 h2 h3 h4) (fun W d hE => end_cut hE)).mono fun en w' h => ⟨_, _, _, _, _, _, _, _, h.1, .inl (by decide), h.2⟩
    | cutn h1 h2 => exact (rhd_no hr hc hb hE (code := 2) (fun W d s A c hS hE => rh_newno hS hE h1 h2) (fun W d hE => end_cut hE)).mono fun en w' h => ⟨_, _, _, _, _, _, _, _, h.1, .inl (by decide), h.2⟩
  · refine (rhd_ok hr hc hb hE (by have := hh.le; omega) (fun W d s A c hS hE => rdh_ok hh hS hE)).mono ?_
    rintro en w' ⟨vo, L, rfl, _, hR, hB⟩
    obtain ⟨A5, c5, rfl, _⟩ := Kd.R_reads hR
    exact ⟨_, _, _, _, _, _, _, _, rfl, .inr ⟨rfl, by simp⟩, hB⟩
set_option maxHeartbeats 1600000 in
set_option maxRecDepth 100000 in
theorem ha_big {A : Option Addr} {c n : Nat} {split : Int} {w : World} (hz : 2147483647 < n) : Calls Tryd.prog 14 #[.slice A n c, .int .i64 split] w fun e w' => e = .returned (.bool true) ∧ Below w.heap.size w w' := by
  have i1 : (2147483647 : Int) < (n : Int) := by omega
  go_enter Tryd.func14, Tryd.ntmps14
  go_wp2_with fail
  go_ret
  exact ⟨rfl, Below.refl _ _⟩
set_option maxHeartbeats 1600000 in
set_option maxRecDepth 100000 in
theorem ha_mid {A : Option Addr} {c n : Nat} {split : Int} {w : World} (hz : ¬ 2147483647 < n) (hy : 1048576 < n) : Calls Tryd.prog 14 #[.slice A n c, .int .i64 split] w fun e w' => e = .returned (.bool true) ∧ Below w.heap.size w w' := by
  have i1 : ¬ (2147483647 : Int) < (n : Int) := by omega
  have i2 : (1048576 : Int) < (n : Int) := by omega
  go_enter Tryd.func14, Tryd.ntmps14
  go_wp2_with fail
  go_ret
  exact ⟨rfl, Below.refl _ _⟩
set_option maxHeartbeats 3200000 in
set_option maxRecDepth 100000 in
theorem law_ha (A : Option Addr) (c : Nat) (l : List Int) (split : Int) (w : World) (hr : C8 w A l) (hc : l.length ≤ c) (hm : l.length ≤ maxLen) (hw : ∀ x ∈ l, (Lit.int .u8 x).wf = true) (hs : (Lit.int .i64 split).wf = true) {aE aU : Addr} (hE : Env w w.heap.size aE aU) :
    Calls Tryd.prog 14 #[.slice A l.length c, .int .i64 split] w fun e w' => e = .returned (.bool true) ∧ Below w.heap.size w w' := by
  by_cases hz : 2147483647 < l.length
  · exact ha_big hz
  by_cases hy : 1048576 < l.length
  · exact ha_mid hz hy
  have hb : Bytes l := bytes_of hw
  obtain ⟨ops, e, hR, hops⟩ := hdrR_total l.length l (Nat.le_refl _) hb
  obtain ⟨n, en⟩ : ∃ n, l.length = n := ⟨_, rfl⟩
  have RO := Aside0.mk (rop_calls (n := n) (split := split) hr hc en.symm hb hE (hdrR_opq hR (by omega)) (by omega))
  have HL := Aside0.mk (And.intro hr (And.intro hc (And.intro hb (And.intro hR (show n ≤ 1048576 by omega)))))
  have HE := Aside0.mk hE
  have i1 : ¬ (2147483647 : Int) < (n : Int) := by omega
  have i2 : ¬ (1048576 : Int) < (n : Int) := by omega
  have nc : n ≤ c := by omega
  have EN := Aside0.mk en
  rw [en]
  clear hr hc hm hw hs hE hb hR hops hz hy en
  go_enter Tryd.func14, Tryd.ntmps14
  go_wp2_with fail
  refine RO.out.mono ?_
  rintro en w1 ⟨v, rfl, hV, hB⟩
  obtain ⟨AO, cO, rfl, _, hCO⟩ := Kd.R_reads hV
  obtain ⟨mo, emo⟩ : ∃ m, ops.length = m := ⟨_, rfl⟩
  have CO := Aside0.mk hCO
  have B1 := Aside0.mk hB
  have EMO := Aside0.mk emo
  have mo9 : mo ≤ 9223372036854775807 := by have := Kd.C_max hCO; omega
  rw [emo]
  clear hV hB hCO emo
  go_wp2_with fail
  go_loopw [0, 25] (fun dv iv wr => ∃ (k nk ck : Nat) (Ak : Option Addr) (dk : List Int), dv = .slice Ak nk ck ∧ iv = .int .i64 (k : Int) ∧ k ≤ mo ∧ nk ≤ ck ∧ nk ≤ 1048576 ∧ Aside0 (nk = dk.length ∧ C8 w Ak dk ∧ Bytes dk ∧ HdrR dk (ops.drop k) e) ∧ Aside0 (Below w1.heap.size w1 wr)) (fun _ iv _ => mo - (intOf iv).toNat)
  case atStart => exact ⟨0, n, c, A, l, rfl, rfl, Nat.zero_le _, nc, HL.out.2.2.2.2, ⟨EN.out.symm, HL.out.1, HL.out.2.2.1, by rw [List.drop_zero]; exact HL.out.2.2.2.1⟩, ⟨Below.refl _ _⟩⟩
  case round =>
    obtain ⟨k, nk, ck, Ak, dk, rfl, rfl, hk, hnc, hn9, HD, HW⟩ := hrel
    have BW := Aside0.mk (below_then B1.out B1.out.size HW.out)
    by_cases hlt : k < mo
    · obtain ⟨⟨tg, bd⟩, es⟩ : ∃ p, ops[k]? = some p := ⟨ops[k]'(by have := EMO.out; omega), List.getElem?_eq_getElem _⟩
      obtain ⟨e1, hCd, hbd, hRd⟩ := HD.out
      have ed : ops.drop k = (tg, bd) :: ops.drop (k + 1) := by
        rw [List.drop_eq_getElem_cons (by have := EMO.out; omega)]
        rw [List.getElem?_eq_getElem (by have := EMO.out; omega)] at es
        injection es with es
        rw [es]
      rw [ed] at hRd
      obtain ⟨tn, rest, hh, hRr⟩ := hdrR_more hRd
      obtain ⟨ad, cs, eA, _, hK, hcc⟩ := Kd.C_get (Kd.C_below CO.out HW.out) (0, []) (k : Int) (by omega) (by have := EMO.out; omega)
      subst eA
      rw [Int.toNat_natCast, List.getD_eq_getElem?_getD, es, Option.getD_some] at hK
      rw [Int.toNat_natCast] at hcc
      obtain ⟨A2, c2, rfl, r2⟩ := kO_openH hK
      obtain ⟨nb, enb⟩ : ∃ m, bd.length = m := ⟨_, rfl⟩
      rw [enb] at hcc
      have y0 : wr.cell? (ad.add (k * 2)) = some (.int .u8 tg) := hcc 0 _ rfl
      have y1 : wr.cell? ⟨(ad.add (k * 2)).block, (ad.add (k * 2)).off + 1, none⟩ = some (.slice A2 nb c2) := by rw [← add_field _ _ 1 (by omega)]; exact hcc 1 _ rfl
      obtain ⟨rl, erl⟩ : ∃ m, rest.length = m := ⟨_, rfl⟩
      have hle := hh.le
      have iklt : (k : Int) < (mo : Int) := by omega
      have ik0 : (0 : Int) ≤ (k : Int) := by omega
      have r1 : ¬ (nk : Int) ≤ (rl : Int) := by omega
      have r0 : ¬ (rl : Int) < 0 := by omega
      have rlt : rl < nk := by omega
      have wz : IntKind.i64.wrap ((nk : Int) - (rl : Int)) = (nk : Int) - (rl : Int) := IntWalk.i64_in _ (by omega)
      obtain ⟨A3, q1, q2, _⟩ := drop8 (P := Tryd.prog) Tryd.underlying22 infoB Ak ck dk (nk - rl) (by omega) (by omega) e1
      have q3 := q2 w hCd
      rw [show nk - rl = dk.length - rest.length by omega, hdr_drop hh] at q3
      have q4 : ∀ W : World, (Instr.slice 22 (.slice Ak nk ck) (some (.int .i64 ((nk : Int) - (rl : Int)))) none none).run Tryd.prog W = .ok (.slice A3 rl (ck - (nk - rl))) W := by
        intro W
        have q := q1 W
        rw [show ((nk - rl : Nat) : Int) = (nk : Int) - (rl : Int) by omega, show nk - (nk - rl) = rl by omega] at q
        exact q
      obtain ⟨W, eW⟩ : ∃ W, wr.alloc (.cells #[.int .u8 tg, .slice A2 nb c2] 76) = W := ⟨_, rfl⟩
      have hrow := heap_alloc_new wr (.cells #[.int .u8 tg, .slice A2 nb c2] 76)
      have BA : Below wr.heap.size wr W := eW ▸ below_alloc (Below.refl _ _) _
      rw [eW] at hrow
      have BWW := below_then BW.out BW.out.size BA
      have RHC := rhd_ok (w := W) (split := split) (Kd.C_below hCd BWW) (show dk.length ≤ ck by omega) hbd ((HE.out.below BWW).up BWW.size) (by omega) (fun W d s A c hS hE => rdh_ok hh hS hE)
      rw [← e1] at RHC
      have RHC' := Aside0.mk RHC
      have NX := Aside0.mk (And.intro erl.symm (And.intro q3 (And.intro (hh.bytes hbd).2 hRr)))
      have BB := Aside0.mk BWW
      have BAA := Aside0.mk BA
      have ROW := Aside0.mk hrow
      have R2 := Aside0.mk (Kd.C_below r2 BA)
      have ENB := Aside0.mk enb
      have I3 := Aside0.mk (show rl ≤ ck - (nk - rl) ∧ rl ≤ 1048576 by omega)
      clear es e1 hCd hbd hRd ed hh hRr hK hcc r2 enb hle q1 q2 q3 BA hrow BWW RHC
      go_wp2_with fail
      clear eW
      refine RHC'.out.mono ?_
      rintro en w2 ⟨vo, L, rfl, hL, hR8, hB2⟩
      obtain rfl := hL rfl
      rw [if_pos rfl]
      obtain ⟨A5, c5, rfl, _, hC5⟩ := Kd.R_reads hR8
      rw [ENB.out, ← NX.out.1]
      obtain ⟨g, eg⟩ : ∃ g, wr.heap.size = g := ⟨_, rfl⟩
      rw [eg] at ROW ⊢
      have row2 := (hB2.block g (blk_lt ROW.out)).trans ROW.out
      obtain ⟨W3, eW3⟩ : ∃ W3, w2.alloc (.cells #[.int .u8 tg, .int .i64 tn, .slice A5 nb c5, .int .i64 0, .int .i64 (rl : Int), .int .i64 0] 90) = W3 := ⟨_, rfl⟩
      have hrow3 := heap_alloc_new w2 (.cells #[.int .u8 tg, .int .i64 tn, .slice A5 nb c5, .int .i64 0, .int .i64 (rl : Int), .int .i64 0] 90)
      have B23 : Below w2.heap.size w2 W3 := eW3 ▸ below_alloc (Below.refl _ _) _
      rw [eW3] at hrow3
      have row3 := (B23.block g (blk_lt row2)).trans row2
      obtain ⟨g9, eg9⟩ : ∃ g, w2.heap.size = g := ⟨_, rfl⟩
      rw [eg9] at hrow3
      have fW := frozen_of_row _ _ 5 _ _ hrow3
      have hW := (cell_of_row _ _ 5 _ _ _ hrow3).trans rfl
      obtain ⟨W4, eW4⟩ : ∃ W4, W3.setCell ⟨g9, 5, none⟩ (.int .i64 0) = W4 := ⟨_, rfl⟩
      have B24 : Below w2.heap.size w2 W4 := eW4 ▸ below_set B23 (Nat.le_of_eq eg9)
      have row3 := (B24.block g (blk_lt row2)).trans row2
      have hrow3 : W4.heap[g9]? = some (.cells #[.int .u8 tg, .int .i64 tn, .slice A5 nb c5, .int .i64 0, .int .i64 (rl : Int), .int .i64 0] 90 (0, 0)) := by
        rw [← eW4]
        exact blk_put hrow3 5 _ rfl
      have B23 := B24
      have SB := Aside0.mk (same_calls (w := W4) (c := c5) (d := c2) (n := nb) (m := nb) (Kd.C_below hC5 B23) (Kd.C_below (Kd.C_below R2.out hB2) B23) rfl ENB.out.symm ENB.out.symm)
      have HW3 := Aside0.mk (below_then HW.out HW.out.size (below_then BAA.out BAA.out.size (below_then hB2 hB2.size B23)))
      have ROW3 := Aside0.mk (And.intro row3 hrow3)
      have x0 := (cell_of_row _ _ 0 _ _ _ row3).trans rfl
      have x1 := (cell_of_row _ _ 1 _ _ _ row3).trans rfl
      have h0 := (cell_of_row _ _ 0 _ _ _ hrow3).trans rfl
      have h2 := (cell_of_row _ _ 2 _ _ _ hrow3).trans rfl
      have h3 := (cell_of_row _ _ 3 _ _ _ hrow3).trans rfl
      have h4 := (cell_of_row _ _ 4 _ _ _ hrow3).trans rfl
      have h5 := (cell_of_row _ _ 5 _ _ _ hrow3).trans rfl
      have H49 := Aside0.mk hrow3
      have f0 := frozen_of_row _ _ 0 _ _ hrow3
      have f1 := frozen_of_row _ _ 1 _ _ hrow3
      have f2 := frozen_of_row _ _ 2 _ _ hrow3
      have f3 := frozen_of_row _ _ 3 _ _ hrow3
      have f4 := frozen_of_row _ _ 4 _ _ hrow3
      have f5 := frozen_of_row _ _ 5 _ _ hrow3
      clear hL hR8 hB2 hC5 eg row2 hrow3 B23 B24 row3 y0 y1
      go_upto_region 10 with (fail)
      try rw [eW4]
      clear eW3 eg9 eW4 fW hW
      go_wp2_with fail
      refine SB.out.mono ?_
      rintro en w4 ⟨rfl, hB4⟩
      have h4 := (hB4.cell (p := ⟨g9, 4, none⟩) (blk_lt H49.out)).trans h4
      have HW4 := Aside0.mk (below_then HW3.out HW3.out.size hB4)
      clear hB4
      go_wp2_with fail
      go_roundw
      case rel => exact ⟨k + 1, rl, ck - (nk - rl), A3, L, rfl, by first | rfl | go_num, hlt, I3.out.1, I3.out.2, ⟨NX.out.1, NX.out.2.1, NX.out.2.2.1, NX.out.2.2.2⟩, HW4⟩
      case measure => simp [intOf]; omega
    · obtain rfl : k = mo := by omega
      obtain ⟨e1, hCd, hbd, hRd⟩ := HD.out
      rw [List.drop_of_length_le (by have := EMO.out; omega)] at hRd
      have hEr := (HE.out.below BW.out).up BW.out.size
      by_cases hef : e = 1 ∧ nk = 0
      · obtain ⟨rfl, rfl⟩ := hef
        have dn : dk = [] := List.eq_nil_of_length_eq_zero e1.symm
        by_cases k0 : k = 0
        · subst k0
          have C := (rhd_no (w := wr) (A := none) (c := 0) (l := []) (split := split) (Kd.C_nil _ _) (Nat.le_refl _) (fun i => by simp) hEr (code := 1) (fun W d s A c hS hE => rh_eof hS hE) (fun W d hE => end_eof hE))
          have fd : ∀ W : World, (Instr.field 90 (.agg #[.int .u8 0, .int .i64 0, .slice none 0 0, .int .i64 0, .int .i64 0, .int .i64 1]) 5).run Tryd.prog W = .ok (.int .i64 1) W := fun W => by kernel_rfl
          have CC := Aside0.mk C
          clear C e1 hCd hbd hRd hEr dn
          go_wp2_with fail
          refine CC.out.mono ?_
          rintro en w2 ⟨rfl, hB2⟩
          have B2 := Aside0.mk (below_then BW.out BW.out.size hB2)
          clear hB2
          go_wp2_with fail
          go_ret
          exact ⟨rfl, B2.out⟩
        · have kp : (0 : Int) < (k : Int) := by omega
          clear e1 hCd hbd hRd hEr dn
          go_wp2_with fail
          go_ret
          exact ⟨rfl, BW.out⟩
      · have C := rh_badB (w := wr) (c := ck) (split := split) (Kd.C_below hCd BW.out) (by omega) hbd (by omega) hEr hRd
        rw [← e1] at C
        have CC := Aside0.mk C
        have HEF := Aside0.mk hef
        have ne1 : e = 1 → ¬ (nk : Int) = 0 := fun h q => hef ⟨h, by omega⟩
        clear C e1 hCd hbd hRd hEr hef
        by_cases he1 : e = 1
        · subst he1
          have nk0 := ne1 rfl
          clear ne1
          go_wp2_with fail
          refine CC.out.mono ?_
          rintro en w2 ⟨tg, tn, A5, m5, c5, b5, L5, e5, rfl, hbad, hB2⟩
          obtain ⟨W3, eW3⟩ : ∃ W3, w2.alloc (.cells #[.int .u8 tg, .int .i64 tn, .slice A5 m5 c5, .int .i64 b5, .int .i64 L5, .int .i64 e5] 90) = W3 := ⟨_, rfl⟩
          have hrow3 := heap_alloc_new w2 (.cells #[.int .u8 tg, .int .i64 tn, .slice A5 m5 c5, .int .i64 b5, .int .i64 L5, .int .i64 e5] 90)
          have B23 : Below w2.heap.size w2 W3 := eW3 ▸ below_alloc (Below.refl _ _) _
          rw [eW3] at hrow3
          have FIN := Aside0.mk (below_then BW.out BW.out.size (below_then hB2 hB2.size B23))
          have hB9 := Aside0.mk hB2
          obtain ⟨g9, eg9⟩ : ∃ g, w2.heap.size = g := ⟨_, rfl⟩
          have eg8 := Aside0.mk eg9
          rw [eg9] at hrow3
          have h3 := (cell_of_row _ _ 3 _ _ _ hrow3).trans rfl
          have h5 := (cell_of_row _ _ 5 _ _ _ hrow3).trans rfl
          have f5 := frozen_of_row _ _ 5 _ _ hrow3
          clear hB2 B23 hrow3
          rcases hbad with he5 | ⟨he5, hb5⟩
          · go_upto_region 17 with (fail)
            try rw [eW3]
            try rw [eg9]
            clear eW3 eg9
            go_wp2_with fail
            go_ret
            exact ⟨rfl, FIN.out⟩
          · subst he5
            go_upto_region 17 with (fail)
            try rw [eW3]
            try rw [eg9]
            clear eW3 eg9
            go_wp2_with fail
            go_ret
            exact ⟨show Ending.returned (.bool (b5 != 0)) = .returned (.bool true) by rw [show (b5 != 0) = true by simpa using hb5], below_set FIN.out (Nat.le_trans (below_then BW.out BW.out.size hB9.out).size (Nat.le_of_eq eg8.out))⟩
        · clear ne1
          go_wp2_with fail
          refine CC.out.mono ?_
          rintro en w2 ⟨tg, tn, A5, m5, c5, b5, L5, e5, rfl, hbad, hB2⟩
          obtain ⟨W3, eW3⟩ : ∃ W3, w2.alloc (.cells #[.int .u8 tg, .int .i64 tn, .slice A5 m5 c5, .int .i64 b5, .int .i64 L5, .int .i64 e5] 90) = W3 := ⟨_, rfl⟩
          have hrow3 := heap_alloc_new w2 (.cells #[.int .u8 tg, .int .i64 tn, .slice A5 m5 c5, .int .i64 b5, .int .i64 L5, .int .i64 e5] 90)
          have B23 : Below w2.heap.size w2 W3 := eW3 ▸ below_alloc (Below.refl _ _) _
          rw [eW3] at hrow3
          have FIN := Aside0.mk (below_then BW.out BW.out.size (below_then hB2 hB2.size B23))
          have hB9 := Aside0.mk hB2
          obtain ⟨g9, eg9⟩ : ∃ g, w2.heap.size = g := ⟨_, rfl⟩
          have eg8 := Aside0.mk eg9
          rw [eg9] at hrow3
          have h3 := (cell_of_row _ _ 3 _ _ _ hrow3).trans rfl
          have h5 := (cell_of_row _ _ 5 _ _ _ hrow3).trans rfl
          have f5 := frozen_of_row _ _ 5 _ _ hrow3
          clear hB2 B23 hrow3
          rcases hbad with he5 | ⟨he5, hb5⟩
          · go_upto_region 17 with (fail)
            try rw [eW3]
            try rw [eg9]
            clear eW3 eg9
            go_wp2_with fail
            go_ret
            exact ⟨rfl, FIN.out⟩
          · subst he5
            go_upto_region 17 with (fail)
            try rw [eW3]
            try rw [eg9]
            clear eW3 eg9
            go_wp2_with fail
            go_ret
            exact ⟨show Ending.returned (.bool (b5 != 0)) = .returned (.bool true) by rw [show (b5 != 0) = true by simpa using hb5], below_set FIN.out (Nat.le_trans (below_then BW.out BW.out.size hB9.out).size (Nat.le_of_eq eg8.out))⟩
end Go.Proofs.YtfhefoaieefnkaaDoor.Rd
