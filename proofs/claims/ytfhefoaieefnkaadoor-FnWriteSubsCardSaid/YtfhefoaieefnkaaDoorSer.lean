/- packet.OpaqueSubpacket.Serialize into impl.sink. -/
import Derived.Test.YtfhefoaieefnkaaDoorNsp
import Derived.Test.YtfhefoaieefnkaaDoorHdr
set_option linter.unusedVariables false
set_option linter.unusedSimpArgs false
namespace Go.Proofs.YtfhefoaieefnkaaDoor.Rd
open Go.RowKit Go.Proofs.YtfhefoaieefnkaaDoorW.PrintWords Go.Proofs.YtfhefoaieefnkaaDoorW.PrintMore Go.Proofs.YtfhefoaieefnkaaDoor.Kit

/-- A row of the call's own, cut to its first n elements: the capacity stays. -/
theorem short8s {e : TypeId} {w : World} {base g C n : Nat} {xs : List Int} (h : R8 e w base (.slice (some ⟨g, 0, none⟩) C C) xs) (hn : n ≤ C) : R8 e w base (.slice (some ⟨g, 0, none⟩) n C) (xs.take n) := by
  have hlen := (Kd.R_reads' h).1
  obtain ⟨h1, h2⟩ := Kd.own_of_R h
  have ln : (xs.take n).length = n := by rw [List.length_take]; omega
  rcases h2 with ⟨h2, _⟩ | ⟨g2, cap, cur, hv, hb, hg, hc, hm, hs, ht⟩
  · cases h2
  · have e1 : g = g2 := by injection hv with hv; injection hv with hv; injection hv
    have e2 : C = cap := by injection hv
    subst e1 e2
    have own : w.ownsRow base e 1 (.slice (some ⟨g, 0, none⟩) n C) n (encs (Value.int .u8) (xs.take n)) := by
      refine ⟨by simp only [encs, List.length_map, ln, Nat.mul_one], .inr ⟨g, C, cur, rfl, hb, hg, hn, hm, hs, ?_⟩⟩
      have t1 : (encs (Value.int .u8) (xs.take n)) = (encs (Value.int .u8) xs).take n := by simp [encs, List.map_take]
      rw [t1, ← ht, List.take_take, Nat.mul_one, Nat.mul_one, Nat.min_eq_left (by omega)]
    exact Kd.R_of_own (v := .slice (some ⟨g, 0, none⟩) n C) (by rw [ln]; exact own) (fun _ _ => trivial)
theorem r8_int1 {e : TypeId} {w : World} {base : Nat} {v : Value} {l : List Int} (h : R8 e w base v l) (hl : 2 ≤ l.length) {g : Nat} (e : v.ownBlock = some g) : ∃ z, w.cell? ⟨g, 1, none⟩ = some (.int .u8 z) := by
  obtain ⟨g', cap, rfl, _⟩ := Kd.R_form h (by omega)
  have eg : g' = g := by injection e
  subst eg
  have q := cell_at (Kd.R_reads' h).2.2 (k := 1) (by omega) (by omega)
  rw [Nat.zero_add] at q
  exact ⟨_, q⟩
set_option maxHeartbeats 1600000 in
set_option maxRecDepth 100000 in
theorem ser_calls {base : Nat} {w : World} {s : Nat} {v : Value} {l : List Int} (h : Snk base w s v l) {Q : World → Prop} {g : Nat} {x : Int} {E C : List Int} (hs : SbAt Q w g x E C) (hQ : ∀ W, Tch (fun j => j = s ∨ v.ownBlock = some j) w W → Q W) (gs : g ≠ s) (gv : v.ownBlock ≠ some g) (hE : E.length ≤ 5) (hE1 : 1 ≤ E.length) (hC : C.length ≤ 100000000) (hl : l.length ≤ 10000000000) :
    Calls Tryd.prog 55 #[.pointer (some ⟨g, 0, none⟩), (.iface 113 (.pointer (some ⟨s, 0, none⟩)))] w fun en w' => en = .returned .nilIface ∧ (∃ v', Snk base w' s v' (l ++ (E ++ x :: C))) ∧ Tch (fun j => base ≤ j) w w' := by
  obtain ⟨A1, c1, A2, c2, x0, x1, l1, r1, x2, l2, r2⟩ := hs
  obtain ⟨nE, eE⟩ : ∃ n, E.length = n := ⟨_, rfl⟩
  obtain ⟨nC, eC⟩ : ∃ n, C.length = n := ⟨_, rfl⟩
  rw [eE] at x1 l1 hE hE1
  rw [eC] at x2 l2 hC
  have X := Aside0.mk (And.intro x0 (And.intro x1 x2))
  have H0 := Aside0.mk h
  have RE := Aside0.mk (r1 w (hQ w (Tch.refl _ _)))
  have RQ := Aside0.mk (fun W hW => r2 W (hQ W hW))
  have gl := Aside0.mk (World.block_lt_of_cell? w _ x0)
  have LE := Aside0.mk (show nE = E.length ∧ nC = C.length ∧ l.length ≤ 10000000000 from ⟨eE.symm, eC.symm, hl⟩)
  have GS := Aside0.mk (And.intro gs gv)
  have sl := Aside0.mk h.lt
  clear h hQ r1 r2 x0 x1 x2 eE eC gs gv hl
  go_enter Tryd.func55, Tryd.ntmps55
  go_upto_region 2 with (((with_reducible refine gate_dst (N := 7) rfl ?_); go_loud (refine make8 w.heap.size (w0 := w) rfl (N := 7) rfl 22 5 (.const (.int .i64 6)) (.const (.int .i64 6)) rfl 6 rfl rfl rfl Tryd.underlying22 infoB (by decide) (Below.refl _ _) (Nat.le_refl _) ?_; intro gb w1 hg1 _ hl1 hR hB _; have R1 := Aside0.mk hR; have B1 := Aside0.mk hB; have G1 := Aside0.mk (And.intro hg1 hl1); clear hR hB hg1 hl1)))
  have y1 := (B1.out.cell (p := ⟨g, 1, none⟩) gl.out).trans X.out.2.1
  go_upto_region 3 with (((with_reducible refine gate_dst (N := 13) rfl ?_); go_loud (refine copy8 w.heap.size (w0 := w) rfl (.tmp 8) (.tmp 12) 22 22 5 rfl Tryd.underlying22 infoB gb 6 6 0 6 6 (List.replicate 6 0) E A1 (some ⟨gb, 0, none⟩) c1 rfl (fun _ => rfl) rfl LE.out.1 R1.out (Kd.C_below RE.out B1.out) (by omega) B1.out B1.out.size ?_; intro w2 hR hB hG; have R2 := Aside0.mk hR; have B2 := Aside0.mk hB; clear hR hB hG)))
  have y1 := (B2.out.cell (p := ⟨g, 1, none⟩) gl.out).trans X.out.2.1
  have y0 := (B2.out.cell (p := ⟨g, 0, none⟩) gl.out).trans X.out.1
  have i0 : (nE : Int) < 6 := by omega
  have i1 : nE < 6 := by omega
  have XE : ((List.replicate 6 (0 : Int)).take 0 ++ (E.take (min E.length 6) ++ (List.replicate 6 (0 : Int)).drop (0 + min E.length 6))) = E ++ List.replicate (6 - nE) 0 := by
    rw [← LE.out.1, Nat.min_eq_left (by omega), List.take_zero, List.nil_append, List.take_of_length_le (by rw [← LE.out.1]; exact Nat.le_refl _), List.drop_replicate, Nat.zero_add]
  have R2' := Aside0.mk (show R8 5 w2 w.heap.size (.slice (some ⟨gb, 0, none⟩) 6 6) (E ++ List.replicate (6 - nE) 0) by have q := R2.out; rw [XE] at q; exact q)
  clear XE R2 R1
  go_upto_region 5 with (((with_reducible refine gate_store (t := 5) (p := 25) rfl ?_); go_loud (refine store8 w.heap.size (w0 := w) rfl rfl 5 (.tmp 25) (.tmp 24) rfl 5 gb 6 6 nE _ _ rfl rfl infoB1 R2'.out i1 B2.out ?_; intro w3 hR hB hG; have R3 := Aside0.mk hR; have B3 := Aside0.mk hB; clear hR hB hG)))
  have lx : ((E ++ List.replicate (6 - nE) 0).set nE x).take (nE + 1) = E ++ [x] := by
    obtain ⟨k, ek⟩ : ∃ k, 6 - nE = k + 1 := ⟨5 - nE, by omega⟩
    rw [ek, List.replicate_succ, LE.out.1, List.set_append_right _ _ (Nat.le_refl _), Nat.sub_self, List.set_cons_zero, List.take_append, List.take_of_length_le (by omega), show E.length + 1 - E.length = 1 by omega]
    rfl
  have CW := Kd.R_drew (short8s R3.out (n := nE + 1) (by omega))
  rw [lx] at CW
  have CW' := Aside0.mk (Kd.R_reads' CW).2.2
  have HD := Aside0.mk (H0.out.below (w1 := w3.drew) (below_drew B3.out))
  have LX := Aside0.mk (show nE + 1 = (E ++ [x]).length by rw [List.length_append, ← LE.out.1]; rfl)
  clear CW lx R2' R3
  have ni := nil_write s
  have wz : IntKind.i64.wrap ((nE : Int) + 1) = (nE : Int) + 1 := IntWalk.i64_in _ (by omega)
  have d1 : ∀ W : World, (Instr.slice 22 (.slice (some ⟨gb, 0, none⟩) 6 6) none (some (.int .i64 ((nE : Int) + 1))) none).run Tryd.prog W = .ok (.slice (some ⟨gb, 0, none⟩) (nE + 1) 6) W := by
    obtain ⟨i, hi, _, hsz, _⟩ := info_partsC infoB
    intro W
    have hel : Tryd.prog.elem 22 = 5 := by simp [Program.elem, Tryd.underlying22]
    have hu : Tryd.prog.underlying 22 = some (.slice (Tryd.prog.elem 22)) := by rw [hel]; exact Tryd.underlying22
    rw [run_slice_h W 22 (some ⟨gb, 0, none⟩) 6 6 hu .i64 ((nE : Int) + 1) (by omega) (by omega), hel]
    have e1 : ((nE : Int) + 1).toNat = nE + 1 := by omega
    simp [sizeOf, typeInfo, hi, hsz, sliced, Result.andThen, e1, Addr.add]
  have i2 : (0 : Int) ≤ (nE : Int) + 1 := by omega
  have i3 : (nE : Int) + 1 ≤ 6 := by omega
  go_wp2_with fail
  go_region_held3 (fun _ => True) (trivial) ((go_at_call 112; go_loud ((with_reducible refine (snk_write HD.out CW'.out LX.out ?hl).mono ?_); (case hl => have := LE.out; have := LX.out; omega); rintro en w4 ⟨rfl, hS, hT⟩; have S4 := Aside0.mk hS; have T4 := Aside0.mk hT; clear hS hT)))
  obtain ⟨v4, s4⟩ := S4.out
  have TT := Aside0.mk (Tch.trans (Tch.of_below (S := fun j => j = s ∨ v.ownBlock = some j) (below_drew B3.out)) T4.out)
  have y2 := TT.out.cell (p := ⟨g, 2, none⟩) X.out.2.2 (fun q => by rcases q with q | q; exact GS.out.1 q; exact GS.out.2 q)
  have RC := Aside0.mk (RQ.out w4.drew TT.out.drew)
  have y1' := TT.out.cell (p := ⟨g, 1, none⟩) X.out.2.1 (fun q => by rcases q with q | q; exact GS.out.1 q; exact GS.out.2 q)
  have G4 := Aside0.mk (show v4.ownBlock ≠ some g from fun e => by
    obtain ⟨z, hz⟩ := r8_int1 s4.rd (by rw [List.length_append, ← LX.out]; omega) e
    rw [y1'] at hz
    cases hz)
  clear y1'
  have S4' := Aside0.mk (s4.below (w1 := w4.drew) (below_drew (Below.refl _ _)))
  have LL := Aside0.mk (show (l ++ (E ++ [x])).length + C.length ≤ 140737488355328 by have := LE.out; have := LX.out; rw [List.length_append]; omega)
  have T5 := Aside0.mk ((H0.out.tch TT.out).drew)
  clear s4
  go_wp2_with fail
  go_region_held3 (fun w' => w'.cell? ⟨g, 2, none⟩ = some (.slice A2 nC c2)) (first | assumption | go_keep) ((go_at_call 112; go_loud ((with_reducible refine (snk_write S4'.out RC.out LE.out.2.1 LL.out).mono ?_); rintro en w5 ⟨rfl, hS, hT⟩; have S5 := Aside0.mk hS; have T6 := Aside0.mk hT; have hB0 : w5.cell? ⟨g, 2, none⟩ = some (.slice A2 nC c2) := T6.out.cell (p := ⟨g, 2, none⟩) (by assumption) (fun q => by rcases q with q | q; exact GS.out.1 q; exact G4.out q); clear hS hT)))
  go_wp2_with fail
  go_ret
  obtain ⟨v5, s5⟩ := S5.out
  refine ⟨rfl, ⟨v5, ?_⟩, T5.out.trans (S4'.out.tch T6.out)⟩
  rw [List.append_assoc, List.append_assoc] at s5
  exact s5
end Go.Proofs.YtfhefoaieefnkaaDoor.Rd
