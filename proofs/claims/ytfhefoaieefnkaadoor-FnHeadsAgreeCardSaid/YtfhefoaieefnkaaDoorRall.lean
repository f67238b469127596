/- io.ReadAll over any reader of a body. -/
import Derived.Test.YtfhefoaieefnkaaDoorRgr
set_option linter.unusedVariables false
set_option linter.unusedSimpArgs false
namespace Go.Proofs.YtfhefoaieefnkaaDoor.Rd
open Go.RowKit Go.Proofs.YtfhefoaieefnkaaDoorW.PrintWords Go.Proofs.YtfhefoaieefnkaaDoorW.PrintMore Go.Proofs.YtfhefoaieefnkaaDoor.Kit

theorem infoSS : (Tryd.prog.info? 22).map (fun i => (i.zero, i.size, i.bytes)) = some (some (.slice none 0 0), 1, 24) := by kernel_rfl
theorem now_step {xs bd : List Int} {fsz L q : Nat} (h : xs.take L = (bd.drop fsz).take L) (hl : fsz + L + q ≤ bd.length) : (xs.take L ++ ((bd.drop (fsz + L)).take q ++ xs.drop (L + q))).take (L + q) = (bd.drop fsz).take (L + q) := by
  rw [h, ← List.drop_drop, ← List.append_assoc, ← List.take_add]
  exact List.take_left' (by rw [List.length_take, List.length_drop]; omega)
/-- What ReadAll comes to: all the bytes, and whether they end well. -/
def RallOut (w : World) (d s b : Nat) (split : Int) (v : Value) (ok : Bool) (rest : List Int) (aU : Addr) (bd : List Int) (en : Ending) (w' : World) : Prop := ∃ v', en = .returned (.tuple #[v', if ok = true then .nilIface else (.iface 206 (.pointer (some aU)))]) ∧ R8 5 w' w.heap.size v' bd ∧ (ok = true → ∃ A c, Src w' d s A c rest split) ∧ Tch (fun j => j = s ∨ j = b) w w' ∧ (ok = false → ∃ ok' rest', Bdy w' d s b split v [] ok' rest')
def lenV : Value → Nat
  | .slice _ n _ => n
  | _ => 0
/-- What stands at the head of ReadAll's loop: the buffer in block g (capacity C, L of it read), the full chunks before it. -/
structure RInv (w : World) (d s b : Nat) (split : Int) (v : Value) (bd : List Int) (ok : Bool) (rest : List Int) (wr : World) (g C L nx fsz : Nat) (cv : Value) (xs : List Int) (dats : List (List Int)) : Prop where
  bdy : Bdy wr d s b split v (bd.drop (fsz + L)) ok rest
  le : fsz + L ≤ bd.length
  room : L < C
  c256 : 256 ≤ C
  nx1 : 256 ≤ nx
  nx2 : nx ≤ 2 * C
  cmax : C ≤ 9223372036854775807
  gw : w.heap.size ≤ g
  buf : R8 5 wr w.heap.size (.slice (some ⟨g, 0, none⟩) C C) xs
  now : xs.take L = (bd.drop fsz).take L
  old : dats.flatten = bd.take fsz
  few : dats.length ≤ fsz
  chk : Kd.N (Kd.slice 5 (Kd.int .u8)) 22 wr w.heap.size (fun k => w.heap.size ≤ k ∧ k ≠ g) cv dats
  tch : Tch (fun j => j = s ∨ j = b) w wr
theorem flat_step (dats : List (List Int)) (k : Nat) (hlt : k < dats.length) : (dats.take (k + 1)).flatten = (dats.take k).flatten ++ dats.getD k [] ∧ (dats.take k).flatten.length + (dats.getD k []).length ≤ dats.flatten.length := by
  have e1 : (dats.take (k + 1)).flatten = (dats.take k).flatten ++ dats.getD k [] := by
    rw [List.take_succ_eq_append_getElem hlt, List.flatten_append, List.flatten_singleton, List.getD_eq_getElem?_getD, List.getElem?_eq_getElem hlt]; rfl
  refine ⟨e1, ?_⟩
  have e2 := congrArg List.length (congrArg List.flatten (List.take_append_drop (k + 1) dats))
  rw [List.flatten_append, e1] at e2
  simp only [List.length_append] at e2
  omega
set_option maxHeartbeats 1600000 in
set_option maxRecDepth 100000 in
theorem rall_src {w : World} {d s b : Nat} {split : Int} {bd rest : List Int} {ok : Bool} {aE aU : Addr} (h : Bdy w d s b split (.iface 94 (.pointer (some ⟨b, 0, none⟩))) bd ok rest) (hE : Env w d aE aU) (hbl : bd.length ≤ 100000000) :
    Calls Tryd.prog 86 #[(.iface 94 (.pointer (some ⟨b, 0, none⟩)))] w (RallOut w d s b split (.iface 94 (.pointer (some ⟨b, 0, none⟩))) ok rest aU bd) := by
  have H0 := Aside0.mk h
  have HE := Aside0.mk hE
  have H0l := Aside0.mk (And.intro h.lts (And.intro h.ltb (Nat.le_of_lt (Nat.lt_of_le_of_lt h.ds h.lts))))
  have ds := h.ds
  have db := h.db
  clear h hE
  go_enter Tryd.func86, Tryd.ntmps86
  go_wp2_with (first | ((with_reducible refine gate_dst (N := 13) rfl ?_); refine makeC (w0 := w) w.heap.size rfl rfl 22 5 (.const (.int .i64 0)) (.const (.int .i64 512)) rfl 512 rfl rfl rfl Tryd.underlying22 infoB (by decide) (Below.refl _ _) (Nat.le_refl _) ?_; intro g w1 g1 g2 g3 hR hB hB'; have R1 := Aside0.mk hR; have B1 := Aside0.mk hB; have G1 := Aside0.mk (And.intro g1 g3); clear hR hB hB' g1 g2 g3) | ((with_reducible refine gate_dst (N := 14) rfl ?_); refine makeN0 (Kd.slice 5 (Kd.int .u8)) (ok := fun k => w.heap.size ≤ k ∧ k ≠ g) (w0 := w) w.heap.size rfl rfl 117 22 (.const (.int .i64 0)) (.const (.int .i64 4)) rfl 4 rfl rfl rfl Tryd.underlying117 infoSS rfl (by decide) (by decide) ?hok B1.out ?hb ?_; (case hok => exact ⟨B1.out.size, fun e => by have := G1.out.2; omega⟩); (case hb => exact B1.out.size); intro gN w2 q1 q2 q3 hN hB hB'; have N2 := Aside0.mk hN; have R2 := Aside0.mk (Kd.R_below R1.out hB'); have B2 := Aside0.mk hB; have G2 := Aside0.mk (And.intro q1 q3); clear hN hB hB' q1 q2 q3))
  go_loopw [4, 5, 6, 7] (fun bv nv cv fv wr => ∃ (g C L nx fsz : Nat) (AN : Option Addr) (cN : Nat) (xs : List Int) (dats : List (List Int)), bv = .slice (some ⟨g, 0, none⟩) L C ∧ nv = .int .i64 (nx : Int) ∧ cv = .slice AN dats.length cN ∧ fv = .int .i64 (fsz : Int) ∧ Aside0 (RInv w d s b split (.iface 94 (.pointer (some ⟨b, 0, none⟩))) bd ok rest wr g C L nx fsz cv xs dats)) (fun bv _ _ fv _ => bd.length - (lenV bv + (intOf fv).toNat))
  case atStart =>
    refine ⟨g, 512, 0, 256, 0, some ⟨gN, 0, none⟩, 4, List.replicate 512 0, [], rfl, rfl, rfl, rfl, ⟨?_⟩⟩
    exact { bdy := H0.out.below B2.out, le := by omega, room := by decide, c256 := by decide, nx1 := by decide, nx2 := by decide, cmax := by decide, gw := G1.out.1, buf := R2.out, now := by simp, old := by simp, few := by simp, chk := N2.out, tch := Tch.of_below B2.out }
  case round =>
    clear H0 R1 R2 B1 B2 G1 G2 N2
    obtain ⟨g', C, L, nx, fsz, AN, cN, xs, dats, rfl, rfl, rfl, rfl, HI⟩ := hrel
    have HI' := HI.out
    have LC := HI'.room
    have C256 := HI'.c256
    have CM := HI'.cmax
    have lg := Kd.R_lt HI'.buf g' rfl
    have gs : g' ≠ s := fun e => by have := H0l.out.1; have := HI'.gw; omega
    have gb : g' ≠ b := fun e => by have := H0l.out.2.1; have := HI'.gw; omega
    have gd : d ≤ g' := by have := H0l.out.2.2; have := HI'.gw; omega
    have d1 : ∀ W : World, (Instr.slice 22 (.slice (some ⟨g', 0, none⟩) L C) (some (.int .i64 (L : Int))) (some (.int .i64 (C : Int))) none).run Tryd.prog W = .ok (.slice (some ⟨g', L, none⟩) (C - L) (C - L)) W := by
      obtain ⟨i, hi, _, hsz, _⟩ := info_partsC infoB
      intro W
      have hel : Tryd.prog.elem 22 = 5 := by simp [Program.elem, Tryd.underlying22]
      have hu : Tryd.prog.underlying 22 = some (.slice (Tryd.prog.elem 22)) := by rw [hel]; exact Tryd.underlying22
      have cl : ¬ C = L := by omega
      rw [run_slice_lh W 22 (some ⟨g', 0, none⟩) L C hu .i64 .i64 (L : Int) (C : Int) (Int.natCast_nonneg _) (by omega) (by omega), hel]
      simp [sizeOf, typeInfo, hi, hsz, sliced, Result.andThen, cl, Addr.add]
      omega
    have HE1 := Aside0.mk (HE.out.kept HI'.tch (fun j q => by rcases q with q | q <;> subst q <;> assumption))
    have H1d := Aside0.mk (HI'.bdy.below (below_drew (Below.refl _ _)))
    have R1d := Aside0.mk (Kd.R_drew HI'.buf)
    have E1d := Aside0.mk (HE1.out.below (below_drew (Below.refl _ _)))
    have I1 : (L : Int) ≤ (C : Int) := by omega
    have I2 : (0 : Int) ≤ (L : Int) := by omega
    have ni := nil_read b
    have LE := Aside0.mk HI'.le
    clear HI'
    by_cases hne : fsz + L < bd.length
    · have DL := Aside0.mk (show 0 < (bd.drop (fsz + L)).length by rw [List.length_drop]; omega)
      go_wp2_with fail
      go_region_held3 (fun _ => True) (trivial) ((go_at_call 102; go_loud ((with_reducible refine (bdy_src H1d.out E1d.out R1d.out (show L + (C - L) ≤ C by omega) (show 1 ≤ C - L by omega) (Nat.le_refl _) gs gd gb).mono ?_); rintro en w1 ⟨q, ok2, rest2, q1, q2, q3, q4, q5, q6, q7, q8⟩; rw [if_pos DL.out] at q5; subst q5; obtain ⟨q30, rfl, rfl⟩ := q3 DL.out; have X1 := Aside0.mk (And.intro q6 (And.intro q7 q8)); have Q1 := Aside0.mk (And.intro q30 (And.intro q1 q2)); clear q6 q7 q8 q1 q2 q3 q4 q30)))
      obtain ⟨hq6, hR1, hT1⟩ := X1.out
      obtain ⟨q30, q1, q2⟩ := Q1.out
      rw [List.length_drop] at q2
      rw [List.drop_drop] at hq6
      have hTT : Tch (fun j => j = g' ∨ j = s ∨ j = b) wr w1 := Tch.trans (Tch.of_below (below_drew (Below.refl _ _))) hT1
      have d2 : ∀ W : World, (Instr.slice 22 (.slice (some ⟨g', 0, none⟩) L C) none (some (.int .i64 ((L : Int) + (q : Int)))) none).run Tryd.prog W = .ok (.slice (some ⟨g', 0, none⟩) (L + q) C) W := by
        obtain ⟨i, hi, _, hsz, _⟩ := info_partsC infoB
        intro W
        have hel : Tryd.prog.elem 22 = 5 := by simp [Program.elem, Tryd.underlying22]
        have hu : Tryd.prog.underlying 22 = some (.slice (Tryd.prog.elem 22)) := by rw [hel]; exact Tryd.underlying22
        rw [run_slice_h W 22 (some ⟨g', 0, none⟩) L C hu .i64 ((L : Int) + (q : Int)) (by omega) (by omega), hel]
        have e1 : ((L : Int) + (q : Int)).toNat = L + q := by omega
        simp [sizeOf, typeInfo, hi, hsz, sliced, Result.andThen, e1, Addr.add]
      have wl : IntKind.i64.wrap ((L : Int) + (q : Int)) = (L : Int) + (q : Int) := IntWalk.i64_in _ (by omega)
      have I3 : (0 : Int) ≤ (L : Int) + (q : Int) := by omega
      have I4 : (L : Int) + (q : Int) ≤ (C : Int) := by omega
      have X2 := Aside0.mk (And.intro hq6 (And.intro hR1 hTT))
      clear hq6 hR1 hTT hT1 X1
      by_cases hf : (C : Int) / 16 ≤ (C : Int) - ((L : Int) + (q : Int))
      · go_wp2_with fail
        go_roundw
        case rel =>
          obtain ⟨hq6, hR1, hTT⟩ := X2.out
          have HI' := HI.out
          refine ⟨g', C, L + q, nx, fsz, AN, cN, xs.take L ++ ((bd.drop (fsz + L)).take q ++ xs.drop (L + q)), dats, rfl, rfl, rfl, rfl, ⟨?_⟩⟩
          refine { bdy := by rw [← Nat.add_assoc]; exact hq6, le := by omega, room := by omega, c256 := C256, nx1 := HI'.nx1, nx2 := HI'.nx2, cmax := CM, gw := HI'.gw, buf := hR1, now := now_step HI'.now (by omega), old := HI'.old, few := HI'.few, chk := Kd.N_step HI'.chk (fun k hk hlt => hTT.block k hlt (fun e => by have := HI'.gw; have := H0l.out.1; have := H0l.out.2.1; rcases e with e | e | e; exact hk.2 e; omega; omega)), tch := HI'.tch.step hTT (fun k e hk => by have := HI'.gw; rcases e with e | e | e; omega; exact .inl e; exact .inr e) }
        case measure => simp [intOf, lenV]; omega
      · have lxs : xs.length = C := (Kd.R_reads' HI.out.buf).1.symm
        obtain ⟨pc, epc⟩ : ∃ pc : List Int, (bd.drop fsz).take (L + q) = pc := ⟨_, rfl⟩
        have EPC := Aside0.mk epc
        have lpc : pc.length = L + q := by rw [← epc, List.length_take, List.length_drop]; have := LE.out; omega
        have R5 := short8 X2.out.2.1 (n := L + q) (by omega)
        rw [now_step HI.out.now (by omega), epc] at R5
        have FKP := Aside0.mk (Kd.FK_slice_mk (e := 5) (d := Kd.int .u8) (W := w1) (ok := fun j => j = g') (A := some ⟨g', 0, none⟩) (c := C) (l := pc) (by omega) (by rw [lpc]; exact Kd.R_F (Kd.R_mono (Kd.R_tight rfl R5) (ok' := fun j => j = g') (fun j e => by simp [Value.ownBlock] at e; exact e))))
        rw [lpc] at FKP
        have HN := Aside0.mk (Kd.N_mono (Kd.N_step HI.out.chk (fun k hk hlt => X2.out.2.2.block k hlt (fun e => by have := HI.out.gw; have := H0l.out.1; have := H0l.out.2.1; rcases e with e | e | e; exact hk.2 e; omega; omega))) (ok' := fun k => w.heap.size ≤ k) (fun k h => h.1))
        have NO := Aside0.mk (show ∀ k, (Value.slice AN dats.length cN).ownBlock = some k → k ≠ g' from fun k h => (HI.out.chk.1 k h).2)
        have SZ := Aside0.mk (show w.heap.size ≤ w1.heap.size ∧ dats.length ≤ 1000000000 ∧ nx ≤ 500000000 from ⟨Nat.le_trans HI.out.tch.size X2.out.2.2.size, by have := HI.out.few; have := LE.out; omega, by have := HI.out.nx2; have := LE.out; omega⟩)
        clear R5 lxs epc
        go_upto_region 22 with (fail)
        go_upto_region 23 with (((with_reducible refine gate_dst (N := 79) rfl ?_); go_loud (refine Kd.N_append (Kd.slice 5 (Kd.int .u8)) (w0 := w1) w.heap.size rfl (.tmp 76) (.tmp 78) 117 22 (.slice none 0 0) 24 rfl Tryd.underlying117 infoSS rfl (by decide) (by decide) _ dats pc [.slice (some ⟨g', 0, none⟩) (L + q) C] (fun j => w.heap.size ≤ j) (fun j => j = g') rfl rfl FKP.out ?hk ?hf HN.out (Below.refl _ _) ?hb ?hl ?_; (case hk => intro j e; subst e; exact ⟨HI.out.gw, fun e => NO.out _ e.symm rfl⟩); (case hf => intro j hj; exact Nat.le_trans SZ.out.1 hj); (case hb => exact SZ.out.1); (case hl => have := SZ.out.2.1; omega); intro v2 w2 hN hB hG hAt; have N2 := Aside0.mk hN; have B2 := Aside0.mk hB; have G2 := Aside0.mk (And.intro hG hAt); clear hN hB hG hAt)))
        obtain ⟨A2, cN2, e2, _, _⟩ := Kd.N_reads N2.out
        subst e2
        have wz : IntKind.i64.wrap ((fsz : Int) + ((L : Int) + (q : Int))) = (fsz : Int) + ((L : Int) + (q : Int)) := IntWalk.i64_in _ (by omega)
        go_upto_region 24 with (fail)
        have SZ2 := Aside0.mk (Nat.le_trans SZ.out.1 B2.out.size)
        go_upto_region 25 with (((with_reducible refine gate_dst (N := 85) rfl ?_); go_loud (refine growZ (w0 := w2) w.heap.size rfl rfl 22 3 5 (.const (.slice none 0 0)) (.tmp 84) rfl nx rfl rfl rfl ?h0 Tryd.underlying22 Tryd.underlying3 infoB ?hn (Below.refl _ _) ?hb ?_; (case h0 => have := HI.out.nx1; omega); (case hn => have := SZ.out.2.2; omega); (case hb => exact SZ2.out); intro g5 C5 w5 c1 c2 g1 g2 g3 hR hB hB'; have R5 := Aside0.mk hR; have B5 := Aside0.mk hB'; have G5 := Aside0.mk (And.intro g1 (And.intro g2 g3)); have CC := Aside0.mk (And.intro c1 c2); have c3 : (nx : Int) ≤ (C5 : Int) := (by omega); clear hR hB hB' g1 g2 g3)))
        have wn : IntKind.i64.wrap ((nx : Int) + (nx : Int) / 2) = (nx : Int) + (nx : Int) / 2 := IntWalk.i64_in _ (by have := SZ.out.2.2; omega)
        go_wp2_with fail
        go_roundw
        case rel =>
          have hG := Tch.of_grown G2.out.1
          have ob := HI.out.chk.1
          have HT5 : Tch (fun j => j = s ∨ j = b) w w5 := ((HI.out.tch.step X2.out.2.2 (fun k e hk => by have := HI.out.gw; rcases e with e | e | e; omega; exact .inl e; exact .inr e)).step hG (fun k e hk => by have := (ob k e).1; omega)).trans (Tch.of_below B5.out)
          have HB5 := (X2.out.1.kept hG (fun k e => by have := (ob k e).1; have := H0l.out.1; have := H0l.out.2.1; have := H0l.out.2.2; exact ⟨by omega, by omega, by omega⟩)).below B5.out
          have le := LE.out
          refine ⟨g5, C5, 0, nx + nx / 2, fsz + (L + q), A2, cN2, List.replicate C5 0, dats ++ [pc], rfl, by first | rfl | go_num, by rw [List.length_append]; rfl, by first | rfl | go_num, ⟨?_⟩⟩
          refine { bdy := by rw [Nat.add_zero, ← Nat.add_assoc]; exact HB5, le := by omega, room := by have := CC.out.1; have := HI.out.nx1; omega, c256 := by have := CC.out.1; have := HI.out.nx1; omega, nx1 := by have := HI.out.nx1; omega, nx2 := by have := CC.out.1; omega, cmax := CC.out.2, gw := G5.out.1, buf := R5.out, now := by simp, old := ?_, few := ?_, chk := ?_, tch := HT5 }
          · rw [List.flatten_append, HI.out.old, List.flatten_singleton, ← EPC.out, ← List.take_add]
          · rw [List.length_append, List.length_singleton]; have := HI.out.few; omega
          · have N2' := N2.out
            rw [List.length_append, List.length_singleton] at N2'
            exact Kd.N_below (Kd.N_mono (Kd.N_bound N2') (fun k hk => ⟨hk.1, by have := G5.out.2.1; omega⟩)) B5.out
        case measure => simp [intOf, lenV]; omega
    · have DL := Aside0.mk (show ¬ 0 < (bd.drop (fsz + L)).length by rw [List.length_drop]; omega)
      have fl : fsz + L = bd.length := by have := LE.out; omega
      by_cases hk : ok = true
      · subst hk
        have D0 := Aside0.mk (show (bd.drop (fsz + L)).length = 0 by rw [List.length_drop]; omega)
        go_wp2_with fail
        go_region_held3 (fun _ => True) (trivial) ((go_at_call 102; go_loud ((with_reducible refine (bdy_src H1d.out E1d.out R1d.out (show L + (C - L) ≤ C by omega) (show 1 ≤ C - L by omega) (Nat.le_refl _) gs gd gb).mono ?_); rintro en w1 ⟨q, ok2, rest2, q1, q2, q3, q4, q5, q6, q7, q8⟩; rw [if_neg DL.out, if_pos rfl] at q5; subst q5; rw [D0.out] at q2; obtain rfl : q = 0 := (by omega); have X1 := Aside0.mk (And.intro ((q4 rfl).2.2 (List.eq_nil_of_length_eq_zero D0.out)) (And.intro q7 q8)); clear q6 q7 q8 q1 q2 q3 q4)))
        have hT1 := X1.out.2.2
        have HT9 : Aside0 (Tch (fun j => j = s ∨ j = b) w w1) := ⟨HI.out.tch.step (Tch.trans (Tch.of_below (below_drew (Below.refl _ _))) hT1) (fun k e hk => by have := HI.out.gw; rcases e with e | e | e; omega; exact .inl e; exact .inr e)⟩
        have E2 := E1d.out.kept hT1 (fun j q => by rcases q with q | q | q <;> subst q <;> assumption)
        have ee := eql_same aE
        have e0 := E2.e
        have nl := fun W : World => run_eql_iface_nil_left (P := Tryd.prog) W 206 (.pointer (some aE)) Tryd.underlying98
        by_cases hd : dats.length = 0
        · have I5 : (0 : Int) ≤ (L : Int) := by omega
          have L0 : ((L : Int) + 0) = (L : Int) := by omega
          have dn : dats = [] := List.eq_nil_of_length_eq_zero hd
          have hz : fsz = 0 := by
            have o := congrArg List.length HI.out.old
            rw [dn, List.length_take] at o
            simp at o
            have := LE.out; omega
          have R5 := short8 X1.out.2.1 (n := L + 0) (by omega)
          rw [now_step HI.out.now (by omega)] at R5
          have R6 := Aside0.mk R5
          have eL : L = bd.length := by omega
          clear R5 dn
          go_wp2_with fail
          go_ret2
          refine ⟨_, rfl, ?_, fun _ => X1.out.1, HT9.out, fun h => absurd h (by simp)⟩
          have r := R6.out
          rw [hz, List.drop_zero, Nat.add_zero, List.take_of_length_le (by omega), eL] at r
          exact r
        · have lo8 : ∀ k, (Value.slice AN dats.length cN).ownBlock = some k → w.heap.size ≤ k ∧ k ≠ g' := HI.out.chk.1
          have HN := Aside0.mk (Kd.N_bound (Kd.N_step HI.out.chk (fun k hk hlt => hT1.block k hlt (fun e => by have := HI.out.gw; have := H0l.out.1; have := H0l.out.2.1; rcases e with e | e | e; exact hk.2 e; omega; omega))))
          have R5 := short8 X1.out.2.1 (n := L + 0) (by omega)
          rw [now_step HI.out.now (by omega), Nat.add_zero] at R5
          have HB := Aside0.mk R5
          have dl : dats.length ≤ 1000000000 := by have := HI.out.few; omega
          have wf : IntKind.i64.wrap ((fsz : Int) + (L : Int)) = (fsz : Int) + (L : Int) := IntWalk.i64_in _ (by omega)
          have HS1 := Aside0.mk (show w.heap.size ≤ w1.heap.size from HT9.out.size)
          have GL := Aside0.mk (show g' < w1.heap.size from Kd.R_lt R5 g' rfl)
          clear R5 hT1
          go_upto_region 13 with (fail)
          go_upto_region 14 with (((with_reducible refine gate_dst (N := 50) rfl ?_); go_loud (refine growZ (w0 := w1) w1.heap.size rfl rfl 22 3 5 (.const (.slice none 0 0)) (.tmp 49) rfl (fsz + L) rfl rfl (by rw [Int.natCast_add]) ?h0 Tryd.underlying22 Tryd.underlying3 infoB ?hn (Below.refl _ _) (Nat.le_refl _) ?_; (case h0 => have := HI.out.few; omega); (case hn => omega); intro g5 C5 w5 c1 c2 g1 g2 g3 hR hB hB'; have R5 := Aside0.mk (short8 hR (n := 0) (Nat.zero_le _)); have B5 := Aside0.mk hB; have G5 := Aside0.mk (And.intro g1 g3); have c3 : (0 : Int) ≤ (C5 : Int) := (Int.natCast_nonneg _); clear hR hB hB' g1 g2 g3)))
          go_wp2_with fail
          go_loopw [10, 54] (fun fv iv wr => ∃ k : Nat, k ≤ dats.length ∧ iv = .int .i64 (k : Int) ∧ Aside0 (R8 5 wr w1.heap.size fv (dats.take k).flatten) ∧ Aside0 (Below w1.heap.size w1 wr)) (fun _ iv _ => dats.length - (intOf iv).toNat)
          case atStart =>
            refine ⟨0, Nat.zero_le _, rfl, ⟨?_⟩, B5⟩
            have r := R5.out
            rw [List.take_zero] at r
            exact r
          case round =>
            obtain ⟨k, hk, rfl, HF, HW⟩ := hrel
            by_cases hlt : k < dats.length
            · obtain ⟨ad, cs, rfl, _, hK, hcc, _⟩ := Kd.F_get (Kd.N_F (Kd.N_below HN.out HW.out)) [] (k : Int) (by omega) (by omega)
              obtain ⟨Ak, ck, rfl, hck, hFk⟩ := Kd.FK_slice_open hK
              have hx := hcc 0 _ rfl
              have ez : (k : Int).toNat * (Kd.slice 5 (Kd.int .u8)).sz + 0 = k := by show (k : Int).toNat * 1 + 0 = k; omega
              rw [ez] at hx
              rw [Int.toNat_natCast] at hx hFk
              obtain ⟨fs1, fs2⟩ := flat_step dats k hlt
              obtain ⟨l, el⟩ : ∃ l, dats.getD k [] = l := ⟨_, rfl⟩
              rw [el] at hx hFk fs1 fs2
              have FC := Aside0.mk (Kd.F_now hFk)
              have ol := HI.out.old
              have FS := Aside0.mk (show (dats.take (k + 1)).flatten = (dats.take k).flatten ++ l ∧ (dats.take k).flatten.length + l.length ≤ 140737488355328 from ⟨fs1, by rw [ol, List.length_take] at fs2; omega⟩)
              clear hK hcc hFk hck el ez fs1 fs2 ol
              go_upto_region 17 with (fail)
              go_upto_region 18 with (((with_reducible refine gate_dst (N := 60) rfl ?_); go_loud (refine append8 (w0 := w1) w1.heap.size rfl (.tmp 58) (.tmp 59) 22 5 rfl Tryd.underlying22 infoB _ (dats.take k).flatten l Ak ck rfl rfl rfl HF.out FC.out HW.out ?hb FS.out.2 ?_; (case hb => exact HW.out.size); intro v1 w2 hR hB _ _; have R9 := Aside0.mk hR; have B9 := Aside0.mk hB; clear hR hB)))
              go_wp2_with fail
              go_roundw
              case rel =>
                refine ⟨k + 1, hlt, by first | rfl | go_num, ⟨?_⟩, B9⟩
                rw [FS.out.1]
                exact R9.out
              case measure => simp [intOf]; omega
            · obtain rfl : k = dats.length := by omega
              have lz : L = ((bd.drop fsz).take L).length := by rw [List.length_take, List.length_drop]; omega
              have BC := Aside0.mk (Kd.R_reads' (Kd.R_below HB.out HW.out)).2.2
              have HF2 := HF.out
              rw [List.take_length, HI.out.old] at HF2
              have HF3 := Aside0.mk HF2
              have ZZ := Aside0.mk (show (bd.take fsz).length + ((bd.drop fsz).take L).length ≤ 140737488355328 by rw [← lz, List.length_take]; omega)
              have LZ := Aside0.mk lz
              clear HF2 lz
              go_upto_region 19 with (fail)
              go_upto_region 20 with (((with_reducible refine gate_dst (N := 64) rfl ?_); go_loud (refine append8 (w0 := w1) w1.heap.size rfl (.tmp 62) (.tmp 63) 22 5 rfl Tryd.underlying22 infoB _ (bd.take fsz) ((bd.drop fsz).take L) (some ⟨g', 0, none⟩) C rfl rfl LZ.out HF3.out BC.out HW.out ?hb ZZ.out ?_; (case hb => exact HW.out.size); intro v1 w2 hR hB _ _; have R9 := Aside0.mk hR; have B9 := Aside0.mk hB; clear hR hB)))
              go_wp2_with fail
              go_ret2
              refine ⟨_, rfl, ?_, fun _ => ?_, HT9.out.trans (Tch.of_below B9.out), fun h => absurd h (by simp)⟩
              · have r := R9.out
                have e1 : bd.take fsz ++ (bd.drop fsz).take L = bd := by rw [List.take_of_length_le (l := bd.drop fsz) (by rw [List.length_drop]; omega), List.take_append_drop]
                rw [e1] at r
                exact Kd.R_lower r HS1.out
              · obtain ⟨A, c, hs⟩ := X1.out.1
                exact ⟨A, c, hs.below B9.out⟩
      · exact absurd (HI.out.bdy.v_src).2.1 hk
end Go.Proofs.YtfhefoaieefnkaaDoor.Rd
