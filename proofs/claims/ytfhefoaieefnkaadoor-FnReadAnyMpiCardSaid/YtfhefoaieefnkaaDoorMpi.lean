/- encoding.MPI over impl.source: ReadFrom (the fine case), the methods, impl.field, impl.ReadMpi. -/
import Derived.Test.YtfhefoaieefnkaaDoorOidF
import Derived.Test.YtfhefoaieefnkaaDoorMkr
set_option linter.unusedVariables false
set_option linter.unusedSimpArgs false
namespace Go.Proofs.YtfhefoaieefnkaaDoor.Rd
open Go.RowKit Go.Proofs.YtfhefoaieefnkaaDoorW.PrintWords Go.Proofs.YtfhefoaieefnkaaDoorW.PrintMore Go.Proofs.YtfhefoaieefnkaaDoor.Kit

theorem mbuf (w : World) : ∃ W, w.alloc (.cells #[.int .u8 0, .int .u8 0] 175) = W ∧ R8 175 W w.heap.size (.slice (some ⟨w.heap.size, 0, none⟩) 2 2) [0, 0] ∧ Below w.heap.size w W :=
  ⟨_, rfl, Kd.R_of_own (own_lit w w.heap.size 175 .u8 [0, 0] (Nat.le_refl _) (by simp)) (fun _ _ => trivial), below_alloc (Below.refl _ _) _⟩
theorem ofInt_u16 (a : Nat) (ha : a < 65536) : (BitVec.ofInt 16 (a : Int)).toNat = a := by
  rw [BitVec.ofInt_natCast, BitVec.toNat_ofNat]; exact Nat.mod_eq_of_lt (by omega)
theorem or16 (a b : Nat) (ha : a < 256) (hb : b < 256) : Go.bits .or .u16 ((a : Int) * 256) (b : Int) = (a : Int) * 256 + (b : Int) := by
  have hj := nat_join 8 (a * 256) b (by omega) (by omega)
  have e1 : (a : Int) * 256 = ((a * 256 : Nat) : Int) := by omega
  rw [e1]
  show IntKind.u16.wrap ((BitVec.ofInt 16 ((a * 256 : Nat) : Int) ||| BitVec.ofInt 16 (b : Int)).toNat : Int) = _
  rw [BitVec.toNat_or, ofInt_u16 (a * 256) (by omega), ofInt_u16 b (by omega), hj]
  exact (IntWalk.u16_in _ (by omega)).trans (by omega)
/-- An MPI at block o. -/
structure Mpi (w : World) (o m bn : Nat) (B : Option Addr) (cb : Nat) : Prop where
  c0 : w.cell? ⟨o, 0, none⟩ = some (.slice B m cb)
  c1 : w.cell? ⟨o, 1, none⟩ = some (.int .u16 (bn : Int))
  z0 : w.frozen? ⟨o, 0, none⟩ = false
  z1 : w.frozen? ⟨o, 1, none⟩ = false
theorem Mpi.kept {w w1 : World} {o m bn : Nat} {B : Option Addr} {cb : Nat} {T : Nat → Prop} (h : Mpi w o m bn B cb) (hT : Tch T w w1) (hn : ¬ T o) : Mpi w1 o m bn B cb :=
  ⟨hT.cell h.c0 hn, hT.cell h.c1 hn, (hT.frozen (p := ⟨o, 0, none⟩) (World.block_lt_of_cell? w _ h.c0) hn).trans h.z0, (hT.frozen (p := ⟨o, 1, none⟩) (World.block_lt_of_cell? w _ h.c1) hn).trans h.z1⟩
theorem Mpi.lt {w : World} {o m bn : Nat} {B : Option Addr} {cb : Nat} (h : Mpi w o m bn B cb) : o < w.heap.size := World.block_lt_of_cell? w _ h.c0
theorem Mpi.put1 {w : World} {o m bn : Nat} {B : Option Addr} {cb : Nat} (h : Mpi w o m bn B cb) (k : Nat) : Mpi (w.setCell ⟨o, 1, none⟩ (.int .u16 (k : Int))) o m k B cb := by
  have c0 := h.c0
  have c1 := h.c1
  have z0 := h.z0
  have z1 := h.z1
  exact ⟨by simp [go_sem, *], by simp [go_sem, *], by simp [go_sem, *], by simp [go_sem, *]⟩
theorem Mpi.put0 {w : World} {o m bn : Nat} {B : Option Addr} {cb : Nat} (h : Mpi w o m bn B cb) (B' : Option Addr) (m' cb' : Nat) : Mpi (w.setCell ⟨o, 0, none⟩ (.slice B' m' cb')) o m' bn B' cb' := by
  have c0 := h.c0
  have c1 := h.c1
  have z0 := h.z0
  have z1 := h.z1
  exact ⟨by simp [go_sem, *], by simp [go_sem, *], by simp [go_sem, *], by simp [go_sem, *]⟩
set_option maxHeartbeats 1600000 in
set_option maxRecDepth 100000 in
theorem mf_ok {w : World} {d s : Nat} {A : Option Addr} {c : Nat} {split : Int} {aE aU : Addr} {a0 a1 bn m : Nat} {t : List Int} (h : Src w d s A c ((a0 : Int) :: (a1 : Int) :: t) split) (hE : Env w d aE aU) {o : Nat} (ho : Mpi w o 0 0 none 0) (od : d ≤ o) (os : o ≠ s) (ha0 : a0 < 256) (ha1 : a1 < 256) (hbn : bn = a0 * 256 + a1) (hm : m = (bn + 7) / 8) (ht : m ≤ t.length) :
    Calls Tryd.prog 50 #[.pointer (some ⟨o, 0, none⟩), (.iface 94 (.pointer (some ⟨s, 0, none⟩)))] w fun en w' => en = .returned (.tuple #[.int .i64 (2 + (m : Int)), .nilIface]) ∧ (∃ g2, Mpi w' o m bn (some ⟨g2, 0, none⟩) m ∧ C8 w' (some ⟨g2, 0, none⟩) (t.take m)) ∧ Tch (fun j => j = s ∨ j = o) w w' := by
  obtain ⟨W, eW, hR0, hB0⟩ := mbuf w
  have H0 := Aside0.mk (h.below hB0)
  have E0 := Aside0.mk (hE.below hB0)
  have R0 := Aside0.mk hR0
  have B0 := Aside0.mk hB0
  have ol := ho.lt
  have O0 := Aside0.mk (ho.kept (Tch.of_below (S := fun _ => False) hB0) id)
  have gs : w.heap.size ≠ s := by have := h.lt; omega
  have gd : d ≤ w.heap.size := by have := h.lt; have := h.ds; omega
  have go : w.heap.size ≠ o := by omega
  have ds := h.ds
  have b1 : bn < 65536 := by omega
  have m1 : m ≤ 8192 := by omega
  have hor : Go.bits .or .u16 ((a0 : Int) * 256) (a1 : Int) = (bn : Int) := (or16 a0 a1 ha0 ha1).trans (by omega)
  have HM := Aside0.mk hm
  have mi : ((bn : Int) + 7) / 8 = (m : Int) := by omega
  have MI := Aside0.mk mi
  have g0 : ¬ o = 0 := by have := hE.ge; omega
  have g2 : ¬ 0 = o := by have := hE.ge; omega
  clear h hE hR0 hB0 ho hm hbn mi
  go_enter Tryd.func50, Tryd.ntmps50
  go_upto_region 2 with (fail)
  clear eW
  obtain ⟨g, eg⟩ : ∃ g, w.heap.size = g := ⟨_, rfl⟩
  have EG := Aside0.mk eg
  rw [eg] at gs gd go ol R0 ⊢
  clear eg
  go_wp2_with fail
  refine (full_calls H0.out E0.out R0.out (show 0 + 2 ≤ 2 by omega) (show 2 ≤ 2 by omega) (by omega) gs gd).mono ?_
  rintro en w1 ⟨k, e1, rfl, ⟨A1, c1, hS⟩, hR, hT⟩
  have ek : k = 2 := by have : ((a0 : Int) :: (a1 : Int) :: t).length = t.length + 2 := rfl; omega
  subst ek
  rw [if_pos rfl]
  have hE1 := E0.out.kept hT (fun j q => by rcases q with q | q <;> subst q <;> assumption)
  have ho1 := O0.out.kept hT (fun q => by rcases q with q | q <;> omega)
  have fy0 : w1.cell? ⟨g, 0, none⟩ = some (.int .u8 (a0 : Int)) := (Kd.R_celln (0 : Int) (h1 := fun _ => rfl) (enc := Value.int .u8) hR (0 : Int) (by decide) (by decide)).1
  have fy1 : w1.cell? ⟨g, 1, none⟩ = some (.int .u8 (a1 : Int)) := (Kd.R_celln (0 : Int) (h1 := fun _ => rfl) (enc := Value.int .u8) hR (1 : Int) (by decide) (by decide)).1
  have o1 := ho1.c1
  have z1 := ho1.z1
  have T1 := Aside0.mk hT
  have S1 := Aside0.mk (show Src w1 d s A1 c1 t split from hS)
  have E1 := Aside0.mk hE1
  have O1 := Aside0.mk ho1
  clear hS hR hT e1 hE1 ho1
  go_upto_region 8 with (fail)
  have hT2 : Tch (fun j => j = o) w1 (w1.setCell ⟨o, 1, none⟩ (.int .u16 (bn : Int))) := (Tch.refl (fun j => j = o) w1).setCell (p := ⟨o, 1, none⟩) (fun _ => rfl) _
  have O2 := O1.out.put1 bn
  have S2 := S1.out.kept hT2 (fun j q => by subst q; exact ⟨od, os⟩)
  have E2 := E1.out.kept hT2 (fun j q => by subst q; exact od)
  generalize w1.setCell ⟨o, 1, none⟩ (.int .u16 (bn : Int)) = w2 at hT2 O2 S2 E2 ⊢
  clear fy0 fy1 o1 z1
  have o0 := O2.c0
  have o1 := O2.c1
  have z0 := O2.z0
  have T2 := Aside0.mk hT2
  have O2 := Aside0.mk O2
  have S2 := Aside0.mk S2
  have E2 := Aside0.mk E2
  clear hT2
  go_wp2_with ((with_reducible refine gate_dst (N := 43) rfl ?_); refine make8 w2.heap.size (w0 := w2) rfl (N := 43) rfl 22 5 (.tmp 42) (.tmp 42) rfl m rfl rfl MI.out Tryd.underlying22 infoB (by omega) (Below.refl _ _) (Nat.le_refl _) ?_; intro g2 w3 hg2 _ hl3 hR3 hB3 _; have ho3 := O2.out.kept (Tch.of_below (S := fun _ => False) hB3) id; have o0 := ho3.c0; have z0 := ho3.z0; have O3 := Aside0.mk ho3; have G2 := Aside0.mk (And.intro hg2 hl3); have R3 := Aside0.mk hR3; have B3 := Aside0.mk hB3; clear hg2 hl3 hR3 hB3 ho3)
  have hT4 : Tch (fun j => j = o) w3 (w3.setCell ⟨o, 0, none⟩ (.slice (some ⟨g2, 0, none⟩) m m)) := (Tch.refl (fun j => j = o) w3).setCell (p := ⟨o, 0, none⟩) (fun _ => rfl) _
  have hs3 := S2.out.below B3.out
  have S4 := hs3.kept hT4 (fun j q => by subst q; exact ⟨od, os⟩)
  have E4 := (E2.out.below B3.out).kept hT4 (fun j q => by subst q; exact od)
  have O4 := O3.out.put0 (some ⟨g2, 0, none⟩) m m
  have l2 := S2.out.lt
  have l3 := O2.out.lt
  have g2s : g2 ≠ s := by have := G2.out.1; omega
  have g2o : g2 ≠ o := by have := G2.out.1; omega
  have g2d : d ≤ g2 := by have := G2.out.1; omega
  have R4 := hT4.r8 R3.out (fun j e q => by simp [Value.ownBlock] at e; omega)
  generalize w3.setCell ⟨o, 0, none⟩ (.slice (some ⟨g2, 0, none⟩) m m) = w4 at hT4 S4 E4 O4 R4 ⊢
  have T4 := Aside0.mk ((Tch.of_below (S := fun j => j = o) B3.out).trans hT4)
  have O4 := Aside0.mk O4
  clear hT4 hs3 o0 z0 o1
  refine (full_calls S4 E4 R4 (show 0 + m ≤ m by omega) (Nat.le_refl m) (by omega) g2s g2d).mono ?_
  rintro en w5 ⟨k, e1, rfl, ⟨A5, c5, hS5⟩, hR5, hT5⟩
  obtain rfl : k = m := by omega
  rw [if_pos rfl]
  have e0 := (E4.kept hT5 (fun j q => by rcases q with q | q <;> subst q <;> assumption)).e
  have nl := run_eql_iface_nil_left (P := Tryd.prog) w5 206 (.pointer (some aE)) Tryd.underlying98
  have R5 := Aside0.mk hR5
  have T5 := Aside0.mk hT5
  clear hS5 hR5 hT5 S4 E4 R4 e1
  go_wp2_with fail
  go_ret2
  have TB : Tch (fun j => j = g ∨ j = g2 ∨ j = s ∨ j = o) w W := Tch.of_below (by have := B0.out; exact this)
  have l1 : w.heap.size ≤ w2.heap.size := Nat.le_trans (Nat.le_trans B0.out.size T1.out.size) T2.out.size
  have hTT : Tch (fun j => j = s ∨ j = o) w w5 := (Tch.refl _ w).step ((((TB.trans (T1.out.mono (fun j q => q.elim .inl (fun q => .inr (.inr (.inl q)))))).trans (T2.out.mono (fun j q => .inr (.inr (.inr q))))).trans (T4.out.mono (fun j q => .inr (.inr (.inr q))))).trans (T5.out.mono (fun j q => q.elim (fun q => .inr (.inl q)) (fun q => .inr (.inr (.inl q)))))) (fun j q hj => by
    have := EG.out
    have := G2.out.1
    rcases q with q | q | q
    · omega
    · omega
    · exact q)
  have hR := R5.out
  have ez : (List.replicate k (0 : Int)).take 0 ++ (t.take k ++ (List.replicate k (0 : Int)).drop (0 + k)) = t.take k := by simp
  rw [ez] at hR
  obtain ⟨A9, c9, e9, _, hC9⟩ := r8_reads hR
  injection e9 with e91 e92 e93
  subst e91
  exact ⟨rfl, ⟨g2, O4.out.kept T5.out (fun q => by rcases q with q | q <;> omega), hC9⟩, hTT⟩
section
variable {w : World} {o m bn : Nat} {B : Option Addr} {cb : Nat}
set_option maxRecDepth 100000 in
theorem mpi_bytes (h : Mpi w o m bn B cb) : Calls Tryd.prog 108 #[.pointer (some ⟨o, 0, none⟩)] w fun en w' => en = .returned (.slice B m cb) ∧ w' = w := by
  have c0 := h.c0
  go_enter Tryd.func108, Tryd.ntmps108
  go_wp2_with fail
  go_ret
  exact ⟨rfl, rfl⟩
set_option maxRecDepth 100000 in
theorem mpi_bits (h : Mpi w o m bn B cb) : Calls Tryd.prog 107 #[.pointer (some ⟨o, 0, none⟩)] w fun en w' => en = .returned (.int .u16 (bn : Int)) ∧ w' = w := by
  have c1 := h.c1
  go_enter Tryd.func107, Tryd.ntmps107
  go_wp2_with fail
  go_ret
  exact ⟨rfl, rfl⟩
set_option maxRecDepth 100000 in
theorem mpi_elen (h : Mpi w o m bn B cb) (hm : m ≤ 8192) : Calls Tryd.prog 110 #[.pointer (some ⟨o, 0, none⟩)] w fun en w' => en = .returned (.int .u16 (2 + (m : Int))) ∧ w' = w := by
  have c0 := h.c0
  go_enter Tryd.func110, Tryd.ntmps110
  go_wp2_with fail
  go_ret
  exact ⟨rfl, rfl⟩
theorem lit2H {w W : World} {x y : Int} (h : W.heap = (w.alloc (.cells #[.int .u8 x, .int .u8 y] 5)).heap) : R8 5 W w.heap.size (.slice (some ⟨w.heap.size, 0, none⟩) 2 2) [x, y] :=
  Kd.R_step (Kd.R_of_own (own_lit w w.heap.size 5 .u8 [x, y] (Nat.le_refl _) (by simp)) (fun _ _ => trivial)) (fun k _ _ => by rw [h]; rfl)
set_option maxHeartbeats 1600000 in
set_option maxRecDepth 100000 in
theorem mpi_enc {l : List Int} (h : Mpi w o m bn B cb) (hb : bn < 65536) (hm : m ≤ 8192) (hl : m = l.length) (hr : C8 w B l) : Calls Tryd.prog 109 #[.pointer (some ⟨o, 0, none⟩)] w fun en w' => ∃ v, en = .returned v ∧ R8 5 w' w.heap.size v (((bn : Int) / 256) :: ((bn : Int) % 256) :: l) ∧ Below w.heap.size w w' := by
  have c0 := h.c0
  have c1 := h.c1
  have HR := Aside0.mk hr
  have OL := Aside0.mk h.lt
  have HH := Aside0.mk h
  have nn := World.new_ne w ⟨o, 0, none⟩ c0
  have nn1 := World.new_ne w ⟨o, 1, none⟩ c1
  have HL := Aside0.mk hl
  clear hr h hl
  go_enter Tryd.func109, Tryd.ntmps109
  go_wp2_with fail
  go_region_held3 (fun w' => w'.cell? ⟨o, 0, none⟩ = some (.slice B m cb) ∧ w'.cell? ⟨o, 1, none⟩ = some (.int .u16 (bn : Int))) (first | (exact ⟨c0, c1⟩) | (exact hS0) | go_keep) (go_loud (refine appendS w.heap.size rfl (.tmp 14) (.tmp 18) 22 5 rfl Tryd.underlying22 infoB (.slice (some ⟨w.heap.size, 0, none⟩) 2 2) [IntKind.u8.wrap ((bn : Int) / 256), IntKind.u8.wrap (bn : Int)] l B cb rfl rfl HL.out ?_ ?_ ?_ ?_ ?_; (focus (go_loud (exact lit2H rfl))); (focus (exact Kd.C_below HR.out (below_drew ((Below.refl _ _).alloc (Nat.le_refl _) _)))); (focus (exact below_size (below_drew ((Below.refl _ _).alloc (Nat.le_refl _) _)))); (focus (rw [← HL.out]; simp; omega)); intro v1 w1 hR hB _ _; have B1 := Aside0.mk ((below_drew ((Below.refl w.heap.size w).alloc (Nat.le_refl _) _)).trans hB); have R1 := Aside0.mk hR; clear hR hB; have hS0 : w1.cell? ⟨o, 0, none⟩ = some (.slice B m cb) ∧ w1.cell? ⟨o, 1, none⟩ = some (.int .u16 (bn : Int)) := ⟨(B1.out.cell (p := ⟨o, 0, none⟩) OL.out).trans c0, (B1.out.cell (p := ⟨o, 1, none⟩) OL.out).trans c1⟩))
  go_wp2_with fail
  go_ret
  have w1 : IntKind.u8.wrap ((bn : Int) / 256) = (bn : Int) / 256 := IntWalk.u8_in _ (by omega)
  have w2 : IntKind.u8.wrap (bn : Int) = (bn : Int) % 256 := by first | rfl | (simp [IntKind.wrap, IntKind.bits, IntKind.signed])
  have q := R1.out
  rw [w1, w2] at q
  exact ⟨_, rfl, q, B1.out⟩
end
set_option maxHeartbeats 1600000 in
set_option maxRecDepth 100000 in
theorem mfld_calls {w : World} {o m bn : Nat} {B : Option Addr} {cb : Nat} {l : List Int} (h : Mpi w o m bn B cb) (hb : bn < 65536) (hm : m ≤ 8192) (hl : m = l.length) (hr : C8 w B l) :
    Calls Tryd.prog 49 #[.iface 109 (.pointer (some ⟨o, 0, none⟩))] w fun en w' => ∃ A1 c1 A2 c2, en = .returned (.agg #[.slice A1 m c1, .int .i64 (bn : Int), .slice A2 (m + 2) c2, .int .i64 (2 + (m : Int))]) ∧ R8 5 w' w.heap.size (.slice A1 m c1) l ∧ R8 5 w' w.heap.size (.slice A2 (m + 2) c2) (((bn : Int) / 256) :: ((bn : Int) % 256) :: l) ∧ Below w.heap.size w w' := by
  obtain ⟨W, eW, gW, hB, gl⟩ := fld_new w
  have ol := h.lt
  have F0 := Aside0.mk (h.kept (Tch.of_below (S := fun _ => False) hB) id)
  have R0 := Aside0.mk (Kd.C_below hr hB)
  have OL := Aside0.mk (Nat.lt_of_lt_of_le ol hB.size)
  have B0 := Aside0.mk hB
  have G0 := Aside0.mk gW
  have GL := Aside0.mk gl
  have HL := Aside0.mk hl
  clear hr hB gW gl h ol hl
  go_enter Tryd.func49, Tryd.ntmps49
  go_upto_region 1 with (fail)
  clear eW
  obtain ⟨g, eg⟩ : ∃ g, w.heap.size = g := ⟨_, rfl⟩
  have EG := Aside0.mk eg
  rw [eg] at G0 GL ⊢
  clear eg
  go_wp2_with fail
  refine (mpi_bytes F0.out).mono ?_
  rintro en w1 ⟨rfl, rfl⟩
  go_wp2_with fail
  refine (own_calls R0.out HL.out (by rw [← HL.out]; omega)).mono ?_
  rintro en w2 ⟨v, rfl, hR, hB⟩
  obtain ⟨A1, c1, e1, hc1, hC1⟩ := r8_reads hR
  rw [← HL.out] at e1 hc1
  subst e1
  have V1 := Aside0.mk hR
  have B2 := Aside0.mk hB
  have F2 := Aside0.mk (F0.out.kept (Tch.of_below (S := fun _ => False) hB) id)
  have R2 := Aside0.mk (Kd.C_below R0.out hB)
  clear hR hC1 hc1 hB
  go_wp2_with fail
  refine (mpi_bits F2.out).mono ?_
  rintro en w3 ⟨rfl, rfl⟩
  go_wp2_with fail
  refine (mpi_enc F2.out hb hm HL.out R2.out).mono ?_
  rintro en w4 ⟨v, rfl, hR, hB⟩
  obtain ⟨A3, c3, e3, hc3, hC3⟩ := r8_reads hR
  have le3 : (((bn : Int) / 256) :: ((bn : Int) % 256) :: l).length = m + 2 := by rw [List.length_cons, List.length_cons, ← HL.out]
  rw [le3] at e3 hc3
  subst e3
  have LE := Aside0.mk le3
  have C3 := Aside0.mk hC3
  have V4 := Aside0.mk (Kd.R_below V1.out hB)
  have B4 := Aside0.mk (below_then B2.out B2.out.size hB)
  clear le3 hR hC3 hc3 hB
  go_wp2_with fail
  refine (own_calls C3.out LE.out.symm (by rw [LE.out]; omega)).mono ?_
  rintro en w5 ⟨v, rfl, hR, hB⟩
  obtain ⟨A5, c5, e5, hc5, hC5⟩ := r8_reads hR
  rw [LE.out] at e5 hc5
  subst e5
  have V5 := Aside0.mk (Kd.R_below V4.out hB)
  have U5 := Aside0.mk hR
  have B5 := Aside0.mk (below_then B4.out B4.out.size hB)
  have F5 := Aside0.mk (F0.out.kept (Tch.of_below (S := fun _ => False) B5.out) id)
  have G5 := Aside0.mk ((B5.out.block g GL.out).trans G0.out)
  clear hR hC5 hc5 hB
  go_wp2_with fail
  refine (mpi_elen F5.out hm).mono ?_
  rintro en w6 ⟨rfl, rfl⟩
  go_wp2_with ((with_reducible refine gate_store (t := 29) (p := 2) (v := .tmp 15) rfl ?_); go_loud (refine wpList_store_rowTo rfl 29 (.tmp 2) (.tmp 15) rfl rfl g #[.slice A1 m c1, .int .i64 (bn : Int), .slice A5 (m + 2) c5, .int .i64 (2 + (m : Int))] rfl rfl 29 _ G5.out (by kernel_rfl) rfl (by simp [Value.oneCell']) ?_; have GX := Aside0.mk (row_set (cs := #[.slice A1 m c1, .int .i64 (bn : Int), .slice A5 (m + 2) c5, .int .i64 (2 + (m : Int))]) G5.out); have TX := Aside0.mk (tch_row (w := w6) (g := g) #[.slice A1 m c1, .int .i64 (bn : Int), .slice A5 (m + 2) c5, .int .i64 (2 + (m : Int))]); generalize w6.setRow g #[.slice A1 m c1, .int .i64 (bn : Int), .slice A5 (m + 2) c5, .int .i64 (2 + (m : Int))] = w7 at GX TX ⊢))
  refine bodyPost_ret (results_cell_row rfl _ _ g 29 #[.slice A1 m c1, .int .i64 (bn : Int), .slice A5 (m + 2) c5, .int .i64 (2 + (m : Int))] (0, 0) _ rfl GX.out Tryd.underlying29 rfl (by kernel_rfl)) rfl ?_
  have eg := EG.out
  have gl := GL.out
  have hB7 : Below w.heap.size w w7 := TX.out.below (below_then B0.out B0.out.size B5.out) (Nat.le_trans B0.out.size B5.out.size) (fun k q => by omega)
  have s0 := B0.out.size
  have s4 := B4.out.size
  exact ⟨A1, c1, A5, c5, rfl, Kd.R_lower (TX.out.r8 V5.out (fun k e q => by have := Kd.R_base V5.out k e; omega)) s0, Kd.R_lower (TX.out.r8 U5.out (fun k e q => by have := Kd.R_base U5.out k e; omega)) (by omega), hB7⟩
end Go.Proofs.YtfhefoaieefnkaaDoor.Rd
