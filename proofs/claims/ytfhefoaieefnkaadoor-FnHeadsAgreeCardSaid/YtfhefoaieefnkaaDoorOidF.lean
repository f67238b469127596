/- encoding.OID: Bytes, BitLength, EncodedBytes, EncodedLength; impl.field over it. -/
import Derived.Test.YtfhefoaieefnkaaDoorOid
import Derived.Test.YtfhefoaieefnkaaDoorOwn
import Derived.StillTail
import Derived.Great.BuildSlice
set_option linter.unusedVariables false
set_option linter.unusedSimpArgs false
namespace Go.Proofs.YtfhefoaieefnkaaDoor.Rd
open Go.RowKit Go.Proofs.YtfhefoaieefnkaaDoorW.PrintWords Go.Proofs.YtfhefoaieefnkaaDoorW.PrintMore Go.Proofs.YtfhefoaieefnkaaDoor.Kit

theorem lit1 (w : World) (x : Int) : R8 5 (w.alloc (.cells #[.int .u8 x] 5)) w.heap.size (.slice (some ⟨w.heap.size, 0, none⟩) 1 1) [x] := Kd.R_of_own (own_lit w w.heap.size 5 .u8 [x] (Nat.le_refl _) (by simp)) (fun _ _ => trivial)
theorem lit1H {w W : World} {x : Int} (h : W.heap = (w.alloc (.cells #[.int .u8 x] 5)).heap) : R8 5 W w.heap.size (.slice (some ⟨w.heap.size, 0, none⟩) 1 1) [x] := Kd.R_step (Kd.R_of_own (own_lit w w.heap.size 5 .u8 [x] (Nat.le_refl _) (by simp)) (fun _ _ => trivial)) (fun k _ _ => by rw [h]; rfl)
section
variable {P : Program} {ops : Array Oper} {o : Oper} {a : Act} {Q : Exit → Act → World → Prop} {K : Act → World → Prop} {E : Prop}
/-- append(v, xs...) as a step. -/
theorem appendS {W : World} (base : Nat) (hgd : o.guard = none) (s x : Operand) (t e : TypeId)
    (ho : o.op = .call { callee := .builtin .append, args := #[s, x], argTypes := #[t, t] })
    (ht : P.underlying t = some (.slice e)) (hinfo : (P.info? e).map (fun i => (i.zero, i.size, i.bytes)) = some (some (.int .u8 0), 1, 1))
    (v : Value) (xs ys : List Int) (A : Option Addr) (c : Nat) {m : Nat} (hs : a.eval s = v) (hx : a.eval x = .slice A m c) (hmy : m = ys.length)
    (HO : R8 e W base v xs) (HR : C8 W A ys) (hbase : base ≤ W.heap.size) (hl : xs.length + ys.length ≤ 140737488355328)
    (h : ∀ v1 w1, R8 e w1 base v1 (xs ++ ys) → Below base W w1 → W.grownBy w1 v.ownBlock → (v1.ownBlock = v.ownBlock ∨ ∃ b, v1.ownBlock = some b ∧ W.heap.size ≤ b) → K (a.put o.dst v1) w1) :
    if Region.wanted o (yielded ops a.tmps) = true then Oper.wp P o a W K Q else E := by
  subst hmy
  have hw : Region.wanted o (yielded ops a.tmps) = true := by simp [Region.wanted, hgd]
  have := Kd.R_append_rows_step (P := P) (ops := ops) (o := o) (a := a) (Q := Q) (Kc := K) (Kd.int .u8) (w0 := W) base hw s x t e (.int .u8 0) 1 ho ht hinfo rfl (by decide) (by decide) v xs ys A ys.length c (fun _ => True) (fun _ => False) hs hx HO HR (fun _ _ h => h) (fun _ h => h.elim) (fun _ _ => trivial) (Below.refl _ _) hbase (by omega) h
  rw [if_pos hw] at this
  rw [if_pos hw]
  exact this
end
section
variable {w : World} {o m : Nat} {B : Option Addr} {cb : Nat}
set_option maxRecDepth 100000 in
theorem oid_bytes (f0 : w.cell? ⟨o, 0, none⟩ = some (.slice B m cb)) (hm : m ≤ 254) : Calls Tryd.prog 104 #[.pointer (some ⟨o, 0, none⟩)] w fun en w' => en = .returned (.slice B m cb) ∧ w' = w := by
  go_enter Tryd.func104, Tryd.ntmps104
  go_wp2_with fail
  go_ret
  exact ⟨rfl, rfl⟩
set_option maxRecDepth 100000 in
theorem oid_bits (f0 : w.cell? ⟨o, 0, none⟩ = some (.slice B m cb)) (hm : m ≤ 254) : Calls Tryd.prog 103 #[.pointer (some ⟨o, 0, none⟩)] w fun en w' => en = .returned (.int .u16 ((m : Int) * 8)) ∧ w' = w := by
  go_enter Tryd.func103, Tryd.ntmps103
  go_wp2_with fail
  go_ret
  exact ⟨rfl, rfl⟩
set_option maxRecDepth 100000 in
theorem oid_elen (f0 : w.cell? ⟨o, 0, none⟩ = some (.slice B m cb)) (hm : m ≤ 254) : Calls Tryd.prog 106 #[.pointer (some ⟨o, 0, none⟩)] w fun en w' => en = .returned (.int .u16 (1 + (m : Int))) ∧ w' = w := by
  go_enter Tryd.func106, Tryd.ntmps106
  go_wp2_with fail
  go_ret
  exact ⟨rfl, rfl⟩
set_option maxRecDepth 100000 in
theorem oid_enc {l : List Int} (f0 : w.cell? ⟨o, 0, none⟩ = some (.slice B m cb)) (hm : m ≤ 254) (hl : m = l.length) (hr : C8 w B l) : Calls Tryd.prog 105 #[.pointer (some ⟨o, 0, none⟩)] w fun en w' => ∃ v, en = .returned v ∧ R8 5 w' w.heap.size v ((m : Int) :: l) ∧ Below w.heap.size w w' := by
  have HR := Aside0.mk hr
  clear hr
  go_enter Tryd.func105, Tryd.ntmps105
  have ol : o < w.heap.size := World.block_lt_of_cell? w _ f0
  have OL := Aside0.mk ol
  have nn := World.new_ne w ⟨o, 0, none⟩ f0
  have HB := Aside0.mk ((below_drew (Below.refl w.heap.size w)).alloc (Nat.le_refl _) (.cells #[.int .u8 (IntKind.u8.wrap (m : Int))] 5))
  have HB2 := Aside0.mk (below_drew ((Below.refl w.heap.size w).alloc (Nat.le_refl _) (.cells #[.int .u8 (IntKind.u8.wrap (m : Int))] 5)))
  have WR := Aside0.mk (show IntKind.u8.wrap (m : Int) = (m : Int) from IntWalk.u8_in _ (by omega))
  have L1 := Aside0.mk (fun (W : World) (h : W.heap = (w.alloc (.cells #[.int .u8 (IntKind.u8.wrap (m : Int))] 5)).heap) => lit1H (x := IntKind.u8.wrap (m : Int)) h)
  rw [WR.out] at L1
  have HL := Aside0.mk hl
  clear hl
  go_wp2_with fail
  go_region_held3 (fun w' => w'.cell? ⟨o, 0, none⟩ = some (.slice B m cb)) (first | assumption | go_keep) (go_loud (refine appendS w.heap.size rfl (.tmp 9) (.tmp 13) 22 5 rfl Tryd.underlying22 infoB (.slice (some ⟨w.heap.size, 0, none⟩) 1 1) [(m : Int)] l B cb rfl rfl HL.out ?_ ?_ ?_ ?_ ?_; (focus (exact L1.out _ (by rw [WR.out]; rfl))); (focus (first | exact Kd.C_below HR.out HB.out | exact Kd.C_below HR.out HB2.out)); (focus (first | exact below_size HB.out | exact below_size HB2.out)); (focus (rw [← HL.out]; simp; omega)); intro v1 w1 hR hB _ _; have R1 := Aside0.mk hR; (first | have B1 := Aside0.mk (HB.out.trans hB) | have B1 := Aside0.mk (HB2.out.trans hB)); clear hR hB; have hB0 : w1.cell? ⟨o, 0, none⟩ = some (.slice B m cb) := (B1.out.cell (p := ⟨o, 0, none⟩) OL.out).trans f0))
  go_wp2_with fail
  go_ret
  exact ⟨_, rfl, R1.out, B1.out⟩
end
theorem tch_row {w : World} {g : Nat} (cs : Array Value) : Tch (fun j => j = g) w (w.setRow g cs) := by
  refine ⟨rfl, rfl, rfl, by simp, fun k hk hn => ?_⟩
  show (w.heap.modify g _)[k]? = _
  rw [Array.getElem?_modify, if_neg (fun e => hn e.symm)]
theorem row_set {w : World} {g : Nat} {cs old : Array Value} {t : TypeId} (h : w.heap[g]? = some (.cells old t (0, 0))) : (w.setRow g cs).heap[g]? = some (.cells cs t (0, 0)) := by
  show (w.heap.modify g _)[g]? = _
  rw [Array.getElem?_modify, if_pos rfl, h]
  rfl
theorem off_of {e base g n c : Nat} {w : World} {A : Option Addr} {l : List Int} (h : R8 e w base (.slice A n c) l) (hg : g < base) : Off (fun j => j = g) A l := fun ad e _ q => by
  subst e
  have := Kd.R_base h ad.block rfl
  omega
theorem off_lt {e base d n c : Nat} {w : World} {A : Option Addr} {l : List Int} (h : R8 e w base (.slice A n c) l) (hg : d ≤ base) : Off (fun j => j < d) A l := fun ad e _ q => by
  subst e
  have := Kd.R_base h ad.block rfl
  omega
theorem fld_new (w : World) : ∃ W, w.alloc (.cells #[.slice none 0 0, .int .i64 0, .slice none 0 0, .int .i64 0] 29) = W ∧ W.heap[w.heap.size]? = some (.cells #[.slice none 0 0, .int .i64 0, .slice none 0 0, .int .i64 0] 29 (0, 0)) ∧ Below w.heap.size w W ∧ w.heap.size < W.heap.size :=
  ⟨_, rfl, heap_alloc_new _ _, below_alloc (Below.refl _ _) _, by simp⟩
set_option maxHeartbeats 1600000 in
set_option maxRecDepth 100000 in
theorem fld_calls {w : World} {o m : Nat} {B : Option Addr} {cb : Nat} {l : List Int} (f0 : w.cell? ⟨o, 0, none⟩ = some (.slice B m cb)) (hm : m ≤ 254) (hl : m = l.length) (hr : C8 w B l) :
    Calls Tryd.prog 49 #[.iface 103 (.pointer (some ⟨o, 0, none⟩))] w fun en w' => ∃ A1 c1 A2 c2, en = .returned (.agg #[.slice A1 m c1, .int .i64 ((m : Int) * 8), .slice A2 (m + 1) c2, .int .i64 (1 + (m : Int))]) ∧ (C8 w' A1 l ∧ m ≤ c1 ∧ Off (fun j => j < w.heap.size) A1 l) ∧ (C8 w' A2 ((m : Int) :: l) ∧ m + 1 ≤ c2 ∧ Off (fun j => j < w.heap.size) A2 ((m : Int) :: l)) ∧ Below w.heap.size w w' := by
  obtain ⟨W, eW, gW, hB, gl⟩ := fld_new w
  have ol := World.block_lt_of_cell? w _ f0
  have F0 := Aside0.mk ((hB.cell ol).trans f0)
  have R0 := Aside0.mk (Kd.C_below hr hB)
  have OL := Aside0.mk (Nat.lt_of_lt_of_le ol hB.size)
  have B0 := Aside0.mk hB
  have G0 := Aside0.mk gW
  have GL := Aside0.mk gl
  have HL := Aside0.mk hl
  clear hr hB gW gl f0 ol hl
  go_enter Tryd.func49, Tryd.ntmps49
  go_upto_region 1 with (fail)
  clear eW
  obtain ⟨g, eg⟩ : ∃ g, w.heap.size = g := ⟨_, rfl⟩
  have EG := Aside0.mk eg
  rw [eg] at G0 GL ⊢
  clear eg
  go_wp2_with (first | (go_at_call 104; (with_reducible refine (oid_bytes F0.out hm).mono ?_); rintro en w1 ⟨rfl, rfl⟩) | (go_at_call 57; (with_reducible refine (own_calls R0.out HL.out (by rw [← HL.out]; omega)).mono ?_); rintro en w2 ⟨v, rfl, hR, hB⟩; obtain ⟨A1, c1, e1, hc1, hC1⟩ := r8_reads hR; rw [← HL.out] at e1 hc1; subst e1; have N1 := Aside0.mk (off_of hR GL.out); have M1 := Aside0.mk (off_lt hR (Nat.le_of_lt GL.out)); have C1 := Aside0.mk hC1; have D1 := Aside0.mk hc1; have B2 := Aside0.mk hB; have F2 := Aside0.mk ((hB.cell (p := ⟨o, 0, none⟩) OL.out).trans F0.out); have R2 := Aside0.mk (Kd.C_below R0.out hB); have P2 := Aside0.mk True.intro; clear hR hC1 hc1 hB) | (go_at_call 103; (with_reducible refine (oid_bits F2.out hm).mono ?_); rintro en w3 ⟨rfl, rfl⟩) | (go_at_call 105; (with_reducible refine (oid_enc F2.out hm HL.out R2.out).mono ?_); rintro en w4 ⟨v, rfl, hR, hB⟩; obtain ⟨A3, c3, e3, hc3, hC3⟩ := r8_reads hR; have le3 : ((m : Int) :: l).length = m + 1 := (by rw [List.length_cons, ← HL.out]); rw [le3] at e3 hc3; subst e3; have LE := Aside0.mk le3; clear le3; have C3 := Aside0.mk hC3; have D3 := Aside0.mk hc3; have B4 := Aside0.mk (below_then B2.out B2.out.size hB); have C14 := Aside0.mk (Kd.C_below C1.out hB); clear hR hC3 hc3 hB) | (go_at_call 57; (with_reducible refine (own_calls C3.out LE.out.symm (by rw [LE.out]; omega)).mono ?_); rintro en w5 ⟨v, rfl, hR, hB⟩; obtain ⟨A5, c5, e5, hc5, hC5⟩ := r8_reads hR; rw [LE.out] at e5 hc5; subst e5; have N5 := Aside0.mk (off_of hR (Nat.lt_of_lt_of_le GL.out B4.out.size)); have M5 := Aside0.mk (off_lt hR (Nat.le_of_lt (Nat.lt_of_lt_of_le GL.out B4.out.size))); have C5 := Aside0.mk hC5; have D5 := Aside0.mk hc5; have B5 := Aside0.mk (below_then B4.out B4.out.size hB); have C15 := Aside0.mk (Kd.C_below C14.out hB); have F5 := Aside0.mk ((B5.out.cell (p := ⟨o, 0, none⟩) OL.out).trans F0.out); have G5 := Aside0.mk ((B5.out.block g GL.out).trans G0.out); clear hR hC5 hc5 hB) | (go_at_call 106; (with_reducible refine (oid_elen F5.out hm).mono ?_); rintro en w5 ⟨rfl, rfl⟩) | ((with_reducible refine gate_store (t := 29) (p := 2) (v := .tmp 15) rfl ?_); go_loud (refine wpList_store_rowTo rfl 29 (.tmp 2) (.tmp 15) rfl rfl g #[.slice A1 m c1, .int .i64 ((m : Int) * 8), .slice A5 (m + 1) c5, .int .i64 (1 + (m : Int))] rfl rfl 29 _ G5.out (by kernel_rfl) rfl (by simp [Value.oneCell']) ?_; have GX := Aside0.mk (row_set (cs := #[.slice A1 m c1, .int .i64 ((m : Int) * 8), .slice A5 (m + 1) c5, .int .i64 (1 + (m : Int))]) G5.out); have TX := Aside0.mk (tch_row (w := w5) (g := g) #[.slice A1 m c1, .int .i64 ((m : Int) * 8), .slice A5 (m + 1) c5, .int .i64 (1 + (m : Int))]); generalize w5.setRow g #[.slice A1 m c1, .int .i64 ((m : Int) * 8), .slice A5 (m + 1) c5, .int .i64 (1 + (m : Int))] = w7 at GX TX ⊢)))
  refine bodyPost_ret (results_cell_row rfl _ _ g 29 #[.slice A1 m c1, .int .i64 ((m : Int) * 8), .slice A5 (m + 1) c5, .int .i64 (1 + (m : Int))] (0, 0) _ rfl GX.out Tryd.underlying29 rfl (by kernel_rfl)) rfl ?_
  have hB7 : Below w.heap.size w w7 := TX.out.below (below_then B0.out B0.out.size B5.out) (Nat.le_trans B0.out.size B5.out.size) (fun k q => by rw [EG.out]; omega)
  exact ⟨A1, c1, A5, c5, rfl, ⟨TX.out.c8 C15.out N1.out, D1.out, by rw [EG.out]; exact M1.out⟩, ⟨TX.out.c8 C5.out N5.out, D5.out, by rw [EG.out]; exact M5.out⟩, hB7⟩
end Go.Proofs.YtfhefoaieefnkaaDoor.Rd
