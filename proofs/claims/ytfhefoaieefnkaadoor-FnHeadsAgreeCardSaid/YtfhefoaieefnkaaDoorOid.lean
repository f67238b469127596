/- encoding.OID.ReadFrom over impl.source. -/
import Derived.Test.YtfhefoaieefnkaaDoorRl
set_option linter.unusedVariables false
set_option linter.unusedSimpArgs false
namespace Go.Proofs.YtfhefoaieefnkaaDoor.Rd
open Go.RowKit Go.Proofs.YtfhefoaieefnkaaDoorW.PrintWords Go.Proofs.YtfhefoaieefnkaaDoorW.PrintMore Go.Proofs.YtfhefoaieefnkaaDoor.Kit

theorem obuf (w : World) : ∃ W, w.alloc (.cells #[.int .u8 0] 170) = W ∧ R8 170 W w.heap.size (.slice (some ⟨w.heap.size, 0, none⟩) 1 1) [0] ∧ Below w.heap.size w W :=
  ⟨_, rfl, Kd.R_of_own (own_lit w w.heap.size 170 .u8 [0] (Nat.le_refl _) (by simp)) (fun _ _ => trivial), below_alloc (Below.refl _ _) _⟩
/-- make([]byte, n) at a byte n. -/
theorem makeU {P : Program} {ops : Array Oper} {rest : List Oper} {o : Oper} {a : Act} {Q : Exit → Act → World → Prop} {w0 W : World} (base : Nat) (hgd : o.guard = none) {N : Tmp} (hd : o.dst = some N) (t e : TypeId) (x y : Operand) (ho : o.op = .makeSlice t x y) (n : Nat) {m : Int} (hx : a.eval x = .int .u8 m) (hy : a.eval y = .int .u8 m) (hmn : m = (n : Int))
    (ht : P.underlying t = some (.slice e)) (hinfo : (P.info? e).map (fun i => (i.zero, i.size, i.bytes)) = some (some (.int .u8 0), 1, 1)) (hn : n ≤ 255) (HB : Below base w0 W) (hbase : base ≤ W.heap.size)
    (h : ∀ g w1, base ≤ g → W.heap.size ≤ g → g < w1.heap.size → R8 e w1 base (.slice (some ⟨g, 0, none⟩) n n) (List.replicate n 0) → Below base w0 w1 → Below W.heap.size W w1 → wpList P ops Q rest (a.put o.dst (.slice (some ⟨g, 0, none⟩) n n)) w1) :
    wpList P ops Q (o :: rest) a W := by
  subst hmn
  obtain ⟨i0, hi, hzz⟩ := Option.map_eq_some_iff.1 hinfo
  simp only [Prod.mk.injEq] at hzz
  obtain ⟨hz0, hz1, hz2⟩ := hzz
  have hr := run_make (P := P) W t e i0 (.int .u8 0) ht hi hz0 .u8 .u8 (n : Int) (n : Int) (by omega) (by omega) (by rw [hz2]; omega) (by omega)
  simp only [Int.toNat_natCast] at hr
  rw [hz1, Nat.mul_one] at hr
  refine Kd.event_run hgd (v := .slice (some ⟨W.heap.size, 0, none⟩) n n) (w1 := W.alloc (.cells (madeCells (Value.int IntKind.u8 0).cells n) e)) ?_ (h W.heap.size _ hbase (Nat.le_refl _) (by simp) ?_ (HB.alloc hbase _) (below_alloc (Below.refl _ _) _))
  · simp [execOp, ho, hx, hy, hr]
  · refine Kd.R_of_own (v := .slice (some ⟨W.heap.size, 0, none⟩) n n) ?_ (fun _ _ => trivial)
    rw [List.length_replicate]
    exact own_made W base e .u8 n hbase (by omega)
set_option maxHeartbeats 1600000 in
set_option maxRecDepth 100000 in
theorem rf_nil {w : World} {d s : Nat} {A : Option Addr} {c : Nat} {split : Int} {aE aU : Addr}  (h : Src w d s A c ([]) split) (hE : Env w d aE aU) {o : Nat} (ho : w.cell? ⟨o, 0, none⟩ = some (.slice none 0 0)) (hf : w.frozen? ⟨o, 0, none⟩ = false) (od : d ≤ o) (os : o ≠ s)  :
    Calls Tryd.prog 48 #[.pointer (some ⟨o, 0, none⟩), (.iface 94 (.pointer (some ⟨s, 0, none⟩)))] w fun en w' => en = .returned (.tuple #[.int .i64 0, (.iface 206 (.pointer (some aU)))]) ∧ Tch (fun j => j = s ∨ j = o) w w' := by
  obtain ⟨W, eW, hR0, hB0⟩ := obuf w
  have H0 := Aside0.mk (h.below hB0)
  have E0 := Aside0.mk (hE.below hB0)
  have R0 := Aside0.mk hR0
  have B0 := Aside0.mk hB0
  have OL := Aside0.mk (World.block_lt_of_cell? w _ ho)
  have O0 := Aside0.mk ((hB0.cell (World.block_lt_of_cell? w _ ho)).trans ho)
  have Z0 := Aside0.mk ((hB0.frozen (World.block_lt_of_cell? w _ ho)).trans hf)
  have gs : w.heap.size ≠ s := by have := h.lt; omega
  have gd : d ≤ w.heap.size := by have := h.lt; have := h.ds; omega
  have go : w.heap.size ≠ o := by have := OL.out; have : o < w.heap.size := this; omega
  have LT := Aside0.mk h.lt
  clear h hE hR0 hB0 ho hf
  go_enter Tryd.func48, Tryd.ntmps48
  go_upto_region 2 with (fail)
  clear eW
  obtain ⟨g, eg⟩ : ∃ g, w.heap.size = g := ⟨_, rfl⟩
  have EG := Aside0.mk eg
  rw [eg] at gs gd go LT R0 OL ⊢
  clear eg
  go_wp2_with ((go_at_call 73; (with_reducible refine (full_calls H0.out E0.out R0.out (show 0 + 1 ≤ 1 by omega) (show 1 ≤ 1 by omega) (by omega) gs gd).mono ?_); rintro en w1 ⟨k, e1, rfl, hS, hR, hT⟩; have hE1 := E0.out.kept hT (fun j q => by have := H0.out.ds; rcases q with q | q <;> subst q <;> assumption); have e0 := hE1.e; have u0 := hE1.u; have ek : k = 0 := (by rw [e1]; simp); subst ek; rw [if_neg (show ¬ (0 : Nat) = 1 by omega), if_pos rfl]; have ee := eql_same aE w1; have T1 := Aside0.mk hT; clear hS hR hT e1 hE1))
  go_ret2
  have TB : Tch (fun j => j = g ∨ j = s) w W := Tch.of_below (by have := B0.out; exact this)
  exact ⟨rfl, (tch_drop0 (TB.trans T1.out) EG.out).mono (fun _ q => .inl q)⟩

set_option maxHeartbeats 1600000 in
set_option maxRecDepth 100000 in
theorem rf_res {w : World} {d s : Nat} {A : Option Addr} {c : Nat} {split : Int} {aE aU : Addr} {b : Int} {t : List Int} (h : Src w d s A c (b :: t) split) (hE : Env w d aE aU) {o : Nat} (ho : w.cell? ⟨o, 0, none⟩ = some (.slice none 0 0)) (hf : w.frozen? ⟨o, 0, none⟩ = false) (od : d ≤ o) (os : o ≠ s) (hb : b = 0 ∨ b = 255) :
    Calls Tryd.prog 48 #[.pointer (some ⟨o, 0, none⟩), (.iface 94 (.pointer (some ⟨s, 0, none⟩)))] w fun en w' => (∃ m, en = .returned (.tuple #[.int .i64 1, .iface 169 (.string m)])) ∧ Tch (fun j => j = s ∨ j = o) w w' := by
  have ba : 0 ≤ b := (h.by_ 0).1
  have bz : b ≤ 255 := (h.by_ 0).2
  obtain ⟨W, eW, hR0, hB0⟩ := obuf w
  have H0 := Aside0.mk (h.below hB0)
  have E0 := Aside0.mk (hE.below hB0)
  have R0 := Aside0.mk hR0
  have B0 := Aside0.mk hB0
  have OL := Aside0.mk (World.block_lt_of_cell? w _ ho)
  have O0 := Aside0.mk ((hB0.cell (World.block_lt_of_cell? w _ ho)).trans ho)
  have Z0 := Aside0.mk ((hB0.frozen (World.block_lt_of_cell? w _ ho)).trans hf)
  have gs : w.heap.size ≠ s := by have := h.lt; omega
  have gd : d ≤ w.heap.size := by have := h.lt; have := h.ds; omega
  have go : w.heap.size ≠ o := by have := OL.out; have : o < w.heap.size := this; omega
  have LT := Aside0.mk h.lt
  clear h hE hR0 hB0 ho hf
  go_enter Tryd.func48, Tryd.ntmps48
  go_upto_region 2 with (fail)
  clear eW
  obtain ⟨g, eg⟩ : ∃ g, w.heap.size = g := ⟨_, rfl⟩
  have EG := Aside0.mk eg
  rw [eg] at gs gd go LT R0 OL ⊢
  clear eg
  go_wp2_with ((go_at_call 73; (with_reducible refine (full_calls H0.out E0.out R0.out (show 0 + 1 ≤ 1 by omega) (show 1 ≤ 1 by omega) (by omega) gs gd).mono ?_); rintro en w1 ⟨k, e1, rfl, hS, hR, hT⟩; have hE1 := E0.out.kept hT (fun j q => by have := H0.out.ds; rcases q with q | q <;> subst q <;> assumption); have e0 := hE1.e; have u0 := hE1.u; have ek : k = 1 := (by rw [e1]; simp); subst ek; rw [if_pos rfl]; have fy : w1.cell? ⟨g, 0, none⟩ = some (.int .u8 b) := (Kd.R_celln (0 : Int) (h1 := fun _ => rfl) (enc := Value.int .u8) hR (0 : Int) (by decide) (by decide)).1; have T1 := Aside0.mk hT; clear hS hR hT e1 hE1))
  rcases hb with rfl | rfl <;> go_wp2
  all_goals (go_ret2; have TB : Tch (fun j => j = g ∨ j = s) w W := Tch.of_below (by have := B0.out; exact this); exact ⟨⟨_, rfl⟩, (tch_drop0 (TB.trans T1.out) EG.out).mono (fun _ q => .inl q)⟩)

set_option maxHeartbeats 1600000 in
set_option maxRecDepth 100000 in
theorem rf_ok {w : World} {d s : Nat} {A : Option Addr} {c : Nat} {split : Int} {aE aU : Addr} {m : Nat} {t : List Int} (h : Src w d s A c ((m : Int) :: t) split) (hE : Env w d aE aU) {o : Nat} (ho : w.cell? ⟨o, 0, none⟩ = some (.slice none 0 0)) (hf : w.frozen? ⟨o, 0, none⟩ = false) (od : d ≤ o) (os : o ≠ s) (hm1 : 1 ≤ m) (hm2 : m ≤ 254) (ht : m ≤ t.length) :
    Calls Tryd.prog 48 #[.pointer (some ⟨o, 0, none⟩), (.iface 94 (.pointer (some ⟨s, 0, none⟩)))] w fun en w' => en = .returned (.tuple #[.int .i64 (1 + (m : Int)), .nilIface]) ∧ (∃ g2, w'.cell? ⟨o, 0, none⟩ = some (.slice (some ⟨g2, 0, none⟩) m m) ∧ C8 w' (some ⟨g2, 0, none⟩) (t.take m)) ∧ Tch (fun j => j = s ∨ j = o) w w' := by
  obtain ⟨W, eW, hR0, hB0⟩ := obuf w
  have H0 := Aside0.mk (h.below hB0)
  have E0 := Aside0.mk (hE.below hB0)
  have R0 := Aside0.mk hR0
  have B0 := Aside0.mk hB0
  have OL := Aside0.mk (World.block_lt_of_cell? w _ ho)
  have O0 := Aside0.mk ((hB0.cell (World.block_lt_of_cell? w _ ho)).trans ho)
  have Z0 := Aside0.mk ((hB0.frozen (World.block_lt_of_cell? w _ ho)).trans hf)
  have gs : w.heap.size ≠ s := by have := h.lt; omega
  have gd : d ≤ w.heap.size := by have := h.lt; have := h.ds; omega
  have go : w.heap.size ≠ o := by have := OL.out; have : o < w.heap.size := this; omega
  have LT := Aside0.mk h.lt
  clear h hE hR0 hB0 ho hf
  go_enter Tryd.func48, Tryd.ntmps48
  go_upto_region 2 with (fail)
  clear eW
  obtain ⟨g, eg⟩ : ∃ g, w.heap.size = g := ⟨_, rfl⟩
  have EG := Aside0.mk eg
  rw [eg] at gs gd go LT R0 OL ⊢
  clear eg
  go_wp2_with (first | (go_at_call 73; (with_reducible refine (full_calls H0.out E0.out R0.out (show 0 + 1 ≤ 1 by omega) (show 1 ≤ 1 by omega) (by omega) gs gd).mono ?_); rintro en w1 ⟨k, e1, rfl, hS, hR, hT⟩; have hE1 := E0.out.kept hT (fun j q => by have := H0.out.ds; rcases q with q | q <;> subst q <;> assumption); have e0 := hE1.e; have u0 := hE1.u; have ek : k = 1 := (by rw [e1]; simp); subst ek; rw [if_pos rfl]; have fy : w1.cell? ⟨g, 0, none⟩ = some (.int .u8 (m : Int)) := (Kd.R_celln (0 : Int) (h1 := fun _ => rfl) (enc := Value.int .u8) hR (0 : Int) (by decide) (by decide)).1; have T1 := Aside0.mk hT; obtain ⟨A1, c1, hs⟩ := hS; have S1 := Aside0.mk (show Src w1 d s A1 c1 t split from hs); have E1 := Aside0.mk hE1; have O1 := Aside0.mk (hT.cell O0.out (p := ⟨o, 0, none⟩) (fun q => q.elim (fun q => go q.symm) os)); have Z1 := Aside0.mk ((hT.frozen (p := ⟨o, 0, none⟩) (World.block_lt_of_cell? _ _ O0.out) (fun q => q.elim (fun q => go q.symm) os)).trans Z0.out); clear hs hR hT e1 hE1 e0 u0) | ((with_reducible refine gate_dst (N := 34) rfl ?_); refine makeU w1.heap.size (w0 := w1) rfl (N := 34) rfl 22 5 (.tmp 33) (.tmp 33) rfl m rfl rfl rfl Tryd.underlying22 infoB (by omega) (Below.refl _ _) (Nat.le_refl _) ?_; intro g2 w2 hg1 _ _ hR2 hB2 _; have ol1 : o < w1.heap.size := World.block_lt_of_cell? _ _ O1.out; have G2 := Aside0.mk hg1; have go2 : g2 ≠ o := (by omega); have gs2 : g2 ≠ s := (by have := S1.out.lt; omega); have gd2 : d ≤ g2 := (by have := S1.out.lt; have := S1.out.ds; omega); have f2 := (hB2.cell (p := ⟨o, 0, none⟩) ol1).trans O1.out; have z2 := (hB2.frozen (p := ⟨o, 0, none⟩) ol1).trans Z1.out; have hT3 : Tch (fun j => j = o) w2 (w2.setCell ⟨o, 0, none⟩ (.slice (some ⟨g2, 0, none⟩) m m)) := (Tch.refl (fun j => j = o) w2).setCell (p := ⟨o, 0, none⟩) (fun _ => rfl) _; have S3 := Aside0.mk ((S1.out.below hB2).kept hT3 (fun k e => by subst e; exact ⟨od, os⟩)); have E3 := Aside0.mk ((E1.out.below hB2).kept hT3 (fun k e => by subst e; exact od)); have R3 := Aside0.mk (hT3.r8 hR2 (fun k e => by simp [Value.ownBlock] at e; subst e; exact go2)); have F3 := Aside0.mk (show ((w2.setCell ⟨o, 0, none⟩ (.slice (some ⟨g2, 0, none⟩) m m))).cell? ⟨o, 0, none⟩ = some (.slice (some ⟨g2, 0, none⟩) m m) from by simp [go_sem, f2, z2]); have T3 := Aside0.mk ((Tch.of_below (S := fun j => j = o) hB2).trans hT3); clear hT3 hR2 hB2 hg1 ol1) | (go_at_call 73; (with_reducible refine (full_calls S3.out E3.out R3.out (show 0 + m ≤ m by omega) (Nat.le_refl m) (by omega) gs2 gd2).mono ?_); rintro en w4 ⟨k4, e4, rfl, hS4, hR4, hT4⟩; have hE4 := E3.out.kept hT4 (fun j q => by have := S1.out.ds; rcases q with q | q <;> subst q <;> assumption); have e0 := hE4.e; have u0 := hE4.u; have ek4 : m = k4 := (by rw [e4]; omega); subst ek4; rw [if_pos rfl]; have nl := run_eql_iface_nil_left (P := Tryd.prog) w4 206 (.pointer (some aE)) Tryd.underlying98; have T4 := Aside0.mk hT4; have R4 := Aside0.mk hR4; clear hS4 hR4 hT4 hE4 e4))
  go_ret2
  have TB : Tch (fun j => j = g ∨ j = g2 ∨ j = s ∨ j = o) w W := Tch.of_below (by have := B0.out; exact this)
  have l1 : w.heap.size ≤ w1.heap.size := Nat.le_trans B0.out.size T1.out.size
  have hTT : Tch (fun j => j = s ∨ j = o) w w4 := (Tch.refl _ w).step (((TB.trans (T1.out.mono (fun j q => q.elim .inl (fun q => .inr (.inr (.inl q)))))).trans (T3.out.mono (fun j q => .inr (.inr (.inr q))))).trans (T4.out.mono (fun j q => q.elim (fun q => .inr (.inl q)) (fun q => .inr (.inr (.inl q)))))) (fun j q hj => by
    have := EG.out
    have := G2.out
    rcases q with q | q | q
    · omega
    · omega
    · exact q)
  have F4 := T4.out.cell F3.out (p := ⟨o, 0, none⟩) (fun q => q.elim (fun q => go2 q.symm) os)
  have hR := R4.out
  have ez : (List.replicate m (0 : Int)).take 0 ++ (t.take m ++ (List.replicate m (0 : Int)).drop (0 + m)) = t.take m := by simp
  rw [ez] at hR
  obtain ⟨A9, c9, e9, _, hC9⟩ := r8_reads hR
  injection e9 with e91 e92 e93
  subst e91
  exact ⟨rfl, ⟨g2, F4, hC9⟩, hTT⟩

set_option maxHeartbeats 1600000 in
set_option maxRecDepth 100000 in
theorem rf_cut0 {w : World} {d s : Nat} {A : Option Addr} {c : Nat} {split : Int} {aE aU : Addr} {m : Nat} {t : List Int} (h : Src w d s A c ((m : Int) :: t) split) (hE : Env w d aE aU) {o : Nat} (ho : w.cell? ⟨o, 0, none⟩ = some (.slice none 0 0)) (hf : w.frozen? ⟨o, 0, none⟩ = false) (od : d ≤ o) (os : o ≠ s) (hm1 : 1 ≤ m) (hm2 : m ≤ 254) (ht : t = []) :
    Calls Tryd.prog 48 #[.pointer (some ⟨o, 0, none⟩), (.iface 94 (.pointer (some ⟨s, 0, none⟩)))] w fun en w' => (∃ n, en = .returned (.tuple #[.int .i64 n, (.iface 206 (.pointer (some aU)))])) ∧ Tch (fun j => j = s ∨ j = o) w w' := by
  obtain ⟨W, eW, hR0, hB0⟩ := obuf w
  have H0 := Aside0.mk (h.below hB0)
  have E0 := Aside0.mk (hE.below hB0)
  have R0 := Aside0.mk hR0
  have B0 := Aside0.mk hB0
  have OL := Aside0.mk (World.block_lt_of_cell? w _ ho)
  have O0 := Aside0.mk ((hB0.cell (World.block_lt_of_cell? w _ ho)).trans ho)
  have Z0 := Aside0.mk ((hB0.frozen (World.block_lt_of_cell? w _ ho)).trans hf)
  have gs : w.heap.size ≠ s := by have := h.lt; omega
  have gd : d ≤ w.heap.size := by have := h.lt; have := h.ds; omega
  have go : w.heap.size ≠ o := by have := OL.out; have : o < w.heap.size := this; omega
  have LT := Aside0.mk h.lt
  clear h hE hR0 hB0 ho hf
  go_enter Tryd.func48, Tryd.ntmps48
  go_upto_region 2 with (fail)
  clear eW
  obtain ⟨g, eg⟩ : ∃ g, w.heap.size = g := ⟨_, rfl⟩
  have EG := Aside0.mk eg
  rw [eg] at gs gd go LT R0 OL ⊢
  clear eg
  go_wp2_with (first | (go_at_call 73; (with_reducible refine (full_calls H0.out E0.out R0.out (show 0 + 1 ≤ 1 by omega) (show 1 ≤ 1 by omega) (by omega) gs gd).mono ?_); rintro en w1 ⟨k, e1, rfl, hS, hR, hT⟩; have hE1 := E0.out.kept hT (fun j q => by have := H0.out.ds; rcases q with q | q <;> subst q <;> assumption); have e0 := hE1.e; have u0 := hE1.u; have ek : k = 1 := (by rw [e1]; simp); subst ek; rw [if_pos rfl]; have fy : w1.cell? ⟨g, 0, none⟩ = some (.int .u8 (m : Int)) := (Kd.R_celln (0 : Int) (h1 := fun _ => rfl) (enc := Value.int .u8) hR (0 : Int) (by decide) (by decide)).1; have T1 := Aside0.mk hT; obtain ⟨A1, c1, hs⟩ := hS; have S1 := Aside0.mk (show Src w1 d s A1 c1 t split from hs); have E1 := Aside0.mk hE1; have O1 := Aside0.mk (hT.cell O0.out (p := ⟨o, 0, none⟩) (fun q => q.elim (fun q => go q.symm) os)); have Z1 := Aside0.mk ((hT.frozen (p := ⟨o, 0, none⟩) (World.block_lt_of_cell? _ _ O0.out) (fun q => q.elim (fun q => go q.symm) os)).trans Z0.out); clear hs hR hT e1 hE1 e0 u0) | ((with_reducible refine gate_dst (N := 34) rfl ?_); refine makeU w1.heap.size (w0 := w1) rfl (N := 34) rfl 22 5 (.tmp 33) (.tmp 33) rfl m rfl rfl rfl Tryd.underlying22 infoB (by omega) (Below.refl _ _) (Nat.le_refl _) ?_; intro g2 w2 hg1 _ _ hR2 hB2 _; have ol1 : o < w1.heap.size := World.block_lt_of_cell? _ _ O1.out; have G2 := Aside0.mk hg1; have go2 : g2 ≠ o := (by omega); have gs2 : g2 ≠ s := (by have := S1.out.lt; omega); have gd2 : d ≤ g2 := (by have := S1.out.lt; have := S1.out.ds; omega); have f2 := (hB2.cell (p := ⟨o, 0, none⟩) ol1).trans O1.out; have z2 := (hB2.frozen (p := ⟨o, 0, none⟩) ol1).trans Z1.out; have hT3 : Tch (fun j => j = o) w2 (w2.setCell ⟨o, 0, none⟩ (.slice (some ⟨g2, 0, none⟩) m m)) := (Tch.refl (fun j => j = o) w2).setCell (p := ⟨o, 0, none⟩) (fun _ => rfl) _; have S3 := Aside0.mk ((S1.out.below hB2).kept hT3 (fun k e => by subst e; exact ⟨od, os⟩)); have E3 := Aside0.mk ((E1.out.below hB2).kept hT3 (fun k e => by subst e; exact od)); have R3 := Aside0.mk (hT3.r8 hR2 (fun k e => by simp [Value.ownBlock] at e; subst e; exact go2)); have F3 := Aside0.mk (show ((w2.setCell ⟨o, 0, none⟩ (.slice (some ⟨g2, 0, none⟩) m m))).cell? ⟨o, 0, none⟩ = some (.slice (some ⟨g2, 0, none⟩) m m) from by simp [go_sem, f2, z2]); have T3 := Aside0.mk ((Tch.of_below (S := fun j => j = o) hB2).trans hT3); clear hT3 hR2 hB2 hg1 ol1) | (go_at_call 73; (with_reducible refine (full_calls S3.out E3.out R3.out (show 0 + m ≤ m by omega) (Nat.le_refl m) (by omega) gs2 gd2).mono ?_); rintro en w4 ⟨k4, e4, rfl, hS4, hR4, hT4⟩; have hE4 := E3.out.kept hT4 (fun j q => by have := S1.out.ds; rcases q with q | q <;> subst q <;> assumption); have e0 := hE4.e; have u0 := hE4.u; have ek4 : k4 = 0 := (by rw [e4, ht]; simp); subst ek4; rw [if_neg (show ¬ 0 = m by omega), if_pos rfl]; have ee := eql_same aE w4; have T4 := Aside0.mk hT4; have R4 := Aside0.mk hR4; clear hS4 hR4 hT4 hE4 e4))
  go_ret2
  have TB : Tch (fun j => j = g ∨ j = g2 ∨ j = s ∨ j = o) w W := Tch.of_below (by have := B0.out; exact this)
  have l1 : w.heap.size ≤ w1.heap.size := Nat.le_trans B0.out.size T1.out.size
  have hTT : Tch (fun j => j = s ∨ j = o) w w4 := (Tch.refl _ w).step (((TB.trans (T1.out.mono (fun j q => q.elim .inl (fun q => .inr (.inr (.inl q)))))).trans (T3.out.mono (fun j q => .inr (.inr (.inr q))))).trans (T4.out.mono (fun j q => q.elim (fun q => .inr (.inl q)) (fun q => .inr (.inr (.inl q)))))) (fun j q hj => by
    have := EG.out
    have := G2.out
    rcases q with q | q | q
    · omega
    · omega
    · exact q)
  exact ⟨⟨_, rfl⟩, hTT⟩

set_option maxHeartbeats 1600000 in
set_option maxRecDepth 100000 in
theorem rf_cut1 {w : World} {d s : Nat} {A : Option Addr} {c : Nat} {split : Int} {aE aU : Addr} {m : Nat} {t : List Int} (h : Src w d s A c ((m : Int) :: t) split) (hE : Env w d aE aU) {o : Nat} (ho : w.cell? ⟨o, 0, none⟩ = some (.slice none 0 0)) (hf : w.frozen? ⟨o, 0, none⟩ = false) (od : d ≤ o) (os : o ≠ s) (hm1 : 1 ≤ m) (hm2 : m ≤ 254) (ht0 : 0 < t.length) (ht : t.length < m) :
    Calls Tryd.prog 48 #[.pointer (some ⟨o, 0, none⟩), (.iface 94 (.pointer (some ⟨s, 0, none⟩)))] w fun en w' => (∃ n, en = .returned (.tuple #[.int .i64 n, (.iface 206 (.pointer (some aU)))])) ∧ Tch (fun j => j = s ∨ j = o) w w' := by
  obtain ⟨W, eW, hR0, hB0⟩ := obuf w
  have H0 := Aside0.mk (h.below hB0)
  have E0 := Aside0.mk (hE.below hB0)
  have R0 := Aside0.mk hR0
  have B0 := Aside0.mk hB0
  have OL := Aside0.mk (World.block_lt_of_cell? w _ ho)
  have O0 := Aside0.mk ((hB0.cell (World.block_lt_of_cell? w _ ho)).trans ho)
  have Z0 := Aside0.mk ((hB0.frozen (World.block_lt_of_cell? w _ ho)).trans hf)
  have gs : w.heap.size ≠ s := by have := h.lt; omega
  have gd : d ≤ w.heap.size := by have := h.lt; have := h.ds; omega
  have go : w.heap.size ≠ o := by have := OL.out; have : o < w.heap.size := this; omega
  have LT := Aside0.mk h.lt
  clear h hE hR0 hB0 ho hf
  go_enter Tryd.func48, Tryd.ntmps48
  go_upto_region 2 with (fail)
  clear eW
  obtain ⟨g, eg⟩ : ∃ g, w.heap.size = g := ⟨_, rfl⟩
  have EG := Aside0.mk eg
  rw [eg] at gs gd go LT R0 OL ⊢
  clear eg
  go_wp2_with (first | (go_at_call 73; (with_reducible refine (full_calls H0.out E0.out R0.out (show 0 + 1 ≤ 1 by omega) (show 1 ≤ 1 by omega) (by omega) gs gd).mono ?_); rintro en w1 ⟨k, e1, rfl, hS, hR, hT⟩; have hE1 := E0.out.kept hT (fun j q => by have := H0.out.ds; rcases q with q | q <;> subst q <;> assumption); have e0 := hE1.e; have u0 := hE1.u; have ek : k = 1 := (by rw [e1]; simp); subst ek; rw [if_pos rfl]; have fy : w1.cell? ⟨g, 0, none⟩ = some (.int .u8 (m : Int)) := (Kd.R_celln (0 : Int) (h1 := fun _ => rfl) (enc := Value.int .u8) hR (0 : Int) (by decide) (by decide)).1; have T1 := Aside0.mk hT; obtain ⟨A1, c1, hs⟩ := hS; have S1 := Aside0.mk (show Src w1 d s A1 c1 t split from hs); have E1 := Aside0.mk hE1; have O1 := Aside0.mk (hT.cell O0.out (p := ⟨o, 0, none⟩) (fun q => q.elim (fun q => go q.symm) os)); have Z1 := Aside0.mk ((hT.frozen (p := ⟨o, 0, none⟩) (World.block_lt_of_cell? _ _ O0.out) (fun q => q.elim (fun q => go q.symm) os)).trans Z0.out); clear hs hR hT e1 hE1 e0 u0) | ((with_reducible refine gate_dst (N := 34) rfl ?_); refine makeU w1.heap.size (w0 := w1) rfl (N := 34) rfl 22 5 (.tmp 33) (.tmp 33) rfl m rfl rfl rfl Tryd.underlying22 infoB (by omega) (Below.refl _ _) (Nat.le_refl _) ?_; intro g2 w2 hg1 _ _ hR2 hB2 _; have ol1 : o < w1.heap.size := World.block_lt_of_cell? _ _ O1.out; have G2 := Aside0.mk hg1; have go2 : g2 ≠ o := (by omega); have gs2 : g2 ≠ s := (by have := S1.out.lt; omega); have gd2 : d ≤ g2 := (by have := S1.out.lt; have := S1.out.ds; omega); have f2 := (hB2.cell (p := ⟨o, 0, none⟩) ol1).trans O1.out; have z2 := (hB2.frozen (p := ⟨o, 0, none⟩) ol1).trans Z1.out; have hT3 : Tch (fun j => j = o) w2 (w2.setCell ⟨o, 0, none⟩ (.slice (some ⟨g2, 0, none⟩) m m)) := (Tch.refl (fun j => j = o) w2).setCell (p := ⟨o, 0, none⟩) (fun _ => rfl) _; have S3 := Aside0.mk ((S1.out.below hB2).kept hT3 (fun k e => by subst e; exact ⟨od, os⟩)); have E3 := Aside0.mk ((E1.out.below hB2).kept hT3 (fun k e => by subst e; exact od)); have R3 := Aside0.mk (hT3.r8 hR2 (fun k e => by simp [Value.ownBlock] at e; subst e; exact go2)); have F3 := Aside0.mk (show ((w2.setCell ⟨o, 0, none⟩ (.slice (some ⟨g2, 0, none⟩) m m))).cell? ⟨o, 0, none⟩ = some (.slice (some ⟨g2, 0, none⟩) m m) from by simp [go_sem, f2, z2]); have T3 := Aside0.mk ((Tch.of_below (S := fun j => j = o) hB2).trans hT3); clear hT3 hR2 hB2 hg1 ol1) | (go_at_call 73; (with_reducible refine (full_calls S3.out E3.out R3.out (show 0 + m ≤ m by omega) (Nat.le_refl m) (by omega) gs2 gd2).mono ?_); rintro en w4 ⟨k4, e4, rfl, hS4, hR4, hT4⟩; have hE4 := E3.out.kept hT4 (fun j q => by have := S1.out.ds; rcases q with q | q <;> subst q <;> assumption); have e0 := hE4.e; have u0 := hE4.u; have ek4 : k4 = t.length := (by rw [e4]; omega); subst ek4; rw [if_neg (show ¬ t.length = m by omega), if_neg (show ¬ t.length = 0 by omega)]; have ee := eql_other (w := w4) (Ne.symm hE4.ne) hE4.hu hE4.he; have T4 := Aside0.mk hT4; have R4 := Aside0.mk hR4; clear hS4 hR4 hT4 hE4 e4))
  go_ret2
  have TB : Tch (fun j => j = g ∨ j = g2 ∨ j = s ∨ j = o) w W := Tch.of_below (by have := B0.out; exact this)
  have l1 : w.heap.size ≤ w1.heap.size := Nat.le_trans B0.out.size T1.out.size
  have hTT : Tch (fun j => j = s ∨ j = o) w w4 := (Tch.refl _ w).step (((TB.trans (T1.out.mono (fun j q => q.elim .inl (fun q => .inr (.inr (.inl q)))))).trans (T3.out.mono (fun j q => .inr (.inr (.inr q))))).trans (T4.out.mono (fun j q => q.elim (fun q => .inr (.inl q)) (fun q => .inr (.inr (.inl q)))))) (fun j q hj => by
    have := EG.out
    have := G2.out
    rcases q with q | q | q
    · omega
    · omega
    · exact q)
  exact ⟨⟨_, rfl⟩, hTT⟩

end Go.Proofs.YtfhefoaieefnkaaDoor.Rd
