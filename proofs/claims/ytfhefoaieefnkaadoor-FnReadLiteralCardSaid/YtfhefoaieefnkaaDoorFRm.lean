/- Rlit, Rsl, FRlit in one text (join.py). -/
import Derived.Test.YtfhefoaieefnkaaDoorLit
import Derived.Test.YtfhefoaieefnkaaDoorRpp
import Derived.Test.YtfhefoaieefnkaaDoorRhd
import Derived.Test.YtfhefoaieefnkaaDoorPFnReadLiteralx1
import Derived.Test.YtfhefoaieefnkaaDoorSame
/- impl.ReadLiteral behind a header that is read well. -/
set_option linter.unusedVariables false
set_option linter.unusedSimpArgs false
namespace Go.Proofs.YtfhefoaieefnkaaDoor.Rd
open Go.RowKit Go.Proofs.YtfhefoaieefnkaaDoorW.PrintWords Go.Proofs.YtfhefoaieefnkaaDoorW.PrintMore Go.Proofs.YtfhefoaieefnkaaDoor.Kit

section
variable {P : Program} {ops : Array Oper} {o : Oper} {a : Act} {Q : Exit → Act → World → Prop} {K : Act → World → Prop} {E : Prop}
/-- A whole row stored, as a step. -/
theorem storeS {W : World} (hgd : o.guard = none) (ty : TypeId) (x y : Operand) (ho : o.op = .store ty x y) (g : Nat) (cells : Array Value) (hx : a.eval x = .pointer (some ⟨g, 0, none⟩)) (hy : a.eval y = .agg cells)
    (t : TypeId) (old : Array Value) (hg : W.heap[g]? = some (.cells old t (0, 0))) (hi : (P.info? ty).map (·.size) = some cells.size) (hold : old.size = cells.size) (h1 : cells.all (·.oneCell') = true)
    (h : K (a.put o.dst undef) (W.setRow g cells)) : if Region.wanted o (yielded ops a.tmps) = true then Oper.wp P o a W K Q else E := by
  rw [if_pos (by simp [Region.wanted, hgd])]
  exact wp_store_row ty x y ho g cells hx hy t old hg hi hold h1 h
end
theorem ltd_new (w : World) : ∃ W, w.alloc (.cells #[.int .u8 0, .bool false, .string ⟨#[]⟩, .int .u32 0, .nilIface] 163) = W ∧ Ltd W w.heap.size 0 false ByteArray.empty 0 .nilIface ∧ Below w.heap.size w W := by
  have hb := heap_alloc_new w (.cells #[.int .u8 0, .bool false, .string ⟨#[]⟩, .int .u32 0, .nilIface] 163)
  exact ⟨_, rfl, ⟨(cell_of_row _ _ 0 _ _ _ hb).trans rfl, (cell_of_row _ _ 1 _ _ _ hb).trans rfl, (cell_of_row _ _ 2 _ _ _ hb).trans rfl, (cell_of_row _ _ 3 _ _ _ hb).trans rfl, (cell_of_row _ _ 4 _ _ _ hb).trans rfl, frozen_of_row _ _ 0 _ _ hb, frozen_of_row _ _ 1 _ _ hb, frozen_of_row _ _ 2 _ _ hb, frozen_of_row _ _ 3 _ _ hb, frozen_of_row _ _ 4 _ _ hb⟩, below_alloc (Below.refl _ _) _⟩
/-- A body that ends within a literal packet's fields. -/
def LitNo (bd : List Int) : Prop := bd.length < 2 ∨ ∃ f n t, f < 256 ∧ n < 256 ∧ bd = ((f : Nat) : Int) :: ((n : Nat) : Int) :: t ∧ (t.length < n ∨ n ≤ t.length ∧ (t.drop n).length < 4)
theorem lit_no {w : World} {d s b : Nat} {split : Int} {tv : TypeId} {bd rest : List Int} {ok : Bool} {aE aU : Addr} (h : Bdy w d s b split (.iface tv (.pointer (some ⟨b, 0, none⟩))) bd ok rest) (hE : Env w d aE aU) {o : Nat} (ho : Ltd w o 0 false ByteArray.empty 0 .nilIface) (od : d ≤ o) (os : o ≠ s) (ob : o ≠ b) (hn : LitNo bd) :
    Calls Tryd.prog 118 #[.pointer (some ⟨o, 0, none⟩), (.iface tv (.pointer (some ⟨b, 0, none⟩)))] w (fun en w' => en = .returned (.iface 206 (.pointer (some aU))) ∧ Tch (fun j => j = s ∨ j = b ∨ j = o) w w') := by
  rcases hn with h0 | ⟨f, n, t, hf, hn, he, h1 | ⟨h1, h2⟩⟩
  · exact lit_no0 h hE ho od os ob h0
  · exact lit_no1 h hE ho od os ob he hf hn h1
  · exact lit_no2 h hE ho od os ob he hf hn h1 h2
set_option maxRecDepth 100000 in
theorem zp_lit {w : World} {o : Nat} {v : Value} {R : Ending → World → Prop} (H : Calls Tryd.prog 118 #[.pointer (some ⟨o, 0, none⟩), v] w fun en w' => ∃ e, en = .returned e ∧ R en w') : Calls Tryd.prog 59 #[(.iface 161 (.pointer (some ⟨o, 0, none⟩))), v] w R := by
  have HH := Aside0.mk H
  clear H
  go_enter Tryd.func59, Tryd.ntmps59
  go_wp2_with fail
  refine HH.out.mono ?_
  rintro en w1 ⟨e, rfl, hR⟩
  have X := Aside0.mk hR
  clear hR
  go_wp2_with fail
  exact X.out
set_option maxHeartbeats 1600000 in
set_option maxRecDepth 100000 in
theorem rlit_no {w : World} {A : Option Addr} {c : Nat} {l : List Int} {split : Int} {aE aU : Addr} (hr : C8 w A l) (hc : l.length ≤ c) (hb : Bytes l) (hE : Env w w.heap.size aE aU) {tg n : Int} {bd rest : List Int} {ok : Bool} (hh : Hdr l tg n bd ok rest) (hn : LitNo bd) :
    Calls Tryd.prog 42 #[.slice A l.length c, .int .i64 split] w fun en w' => en = .returned (.agg #[.int .u8 0, .int .u8 0, .bool false, .string ⟨#[]⟩, .int .u32 0, .slice none 0 0, .int .i64 0, .bool false, .int .i64 2]) ∧ Below w.heap.size w w' := by
  have LN := Aside0.mk hn
  clear hn
  have hB1 : Below w.heap.size w (w.alloc (.cells #[.int .u8 0, .int .u8 0, .bool false, .string ⟨#[]⟩, .int .u32 0, .slice none 0 0, .int .i64 0, .bool false, .int .i64 0] 87)) := below_alloc (Below.refl _ _) _
  have hz1 : (w.alloc (.cells #[.int .u8 0, .int .u8 0, .bool false, .string ⟨#[]⟩, .int .u32 0, .slice none 0 0, .int .i64 0, .bool false, .int .i64 0] 87)).heap.size = w.heap.size + 1 := by simp
  obtain ⟨W, eW, hS, hB2⟩ := src_new (w := w.alloc (.cells #[.int .u8 0, .int .u8 0, .bool false, .string ⟨#[]⟩, .int .u32 0, .slice none 0 0, .int .i64 0, .bool false, .int .i64 0] 87)) split (Kd.C_below hr hB1) hc hb
  rw [hz1] at hS
  have hB := below_then hB1 hB1.size hB2
  have hfb : W.heap[w.heap.size]? = some (.cells #[.int .u8 0, .int .u8 0, .bool false, .string ⟨#[]⟩, .int .u32 0, .slice none 0 0, .int .i64 0, .bool false, .int .i64 0] 87 (0, 0)) := (hB2.block _ (by rw [hz1]; omega)).trans (heap_alloc_new _ _)
  have hE1 : Env W (w.heap.size + 1) aE aU := (hE.below hB).up (Nat.le_succ _)
  have HC := Aside0.mk (zzh_ok (rdh_ok hh hS hE1))
  have BB := Aside0.mk hB
  have GB0 := Aside0.mk hfb
  have E0 := Aside0.mk hE1
  have WZ := Aside0.mk (show w.heap.size + 1 < W.heap.size from hS.lt)
  clear hr hb hE hh hB1 hz1 hS hB2 hB hfb hE1
  go_enter Tryd.func42, Tryd.ntmps42
  go_wp2_with fail
  clear eW
  obtain ⟨g, eg⟩ : ∃ g, w.heap.size = g := ⟨_, rfl⟩
  have EG := Aside0.mk eg
  rw [eg] at HC GB0 E0 WZ ⊢
  clear eg
  refine HC.out.mono ?_
  rintro en w1 ⟨v, b, rfl, hBd, hbs, hT⟩
  obtain ⟨tv, rfl⟩ := hBd.shape
  obtain ⟨W2, eW2, hO2, hB2⟩ := ltd_new w1
  have W1 := hT.size
  have wz := WZ.out
  have E1 := Aside0.mk ((E0.out.kept hT (fun j q => by subst q; exact Nat.le_refl _)).below hB2)
  have T1 := Aside0.mk (hT.trans (Tch.of_below hB2))
  have BD := Aside0.mk (hBd.below hB2)
  have GB1 := Aside0.mk ((hB2.block g (by omega)).trans ((hT.block g (by omega) (fun q => by omega)).trans GB0.out))
  have o1 : g + 1 ≤ w1.heap.size := by omega
  have o2 : w1.heap.size ≠ g + 1 := by omega
  have o3 : w1.heap.size ≠ b := by have := hBd.ltb; omega
  have o4 : w1.heap.size < W2.heap.size := hO2.lt
  have OO := Aside0.mk hO2
  have bs : b = g + 1 ∨ W.heap.size ≤ b := hbs
  clear hT hBd hO2 hB2
  go_wp2_with fail
  clear eW2
  obtain ⟨o, eo⟩ : ∃ o, w1.heap.size = o := ⟨_, rfl⟩
  rw [eo] at o1 o2 o3 o4 OO ⊢
  have oz : W.heap.size ≤ o := by omega
  clear eo W1
  refine (zp_lit (R := fun en w' => en = .returned (.iface 206 (.pointer (some aU))) ∧ Tch (fun j => j = g + 1 ∨ j = b ∨ j = o) W2 w') ((lit_no BD.out E1.out OO.out o1 o2 o3 LN.out).mono fun en w' h => ⟨_, h.1, h⟩)).mono ?_
  rintro en w3 ⟨rfl, hT3⟩
  have E3 := Aside0.mk (E1.out.kept hT3 (fun j q => by rcases q with q | q | q <;> omega))
  have GB := Aside0.mk ((hT3.block g (by omega) (fun q => by rcases q with q | q | q <;> omega)).trans GB1.out)
  have T3 := Aside0.mk hT3
  clear hT3
  go_wp2_with fail
  refine (end_cut E3.out).mono ?_
  rintro en WW ⟨rfl, rfl⟩
  go_wp2_with ((with_reducible refine gate_store (t := 87) (p := 4) (v := .tmp 38) rfl ?_); go_loud (refine wpList_store_rowTo rfl 87 (.tmp 4) (.tmp 38) rfl rfl g #[.int .u8 0, .int .u8 0, .bool false, .string ⟨#[]⟩, .int .u32 0, .slice none 0 0, .int .i64 0, .bool false, .int .i64 2] rfl rfl 87 _ GB.out (by kernel_rfl) rfl (by simp [Value.oneCell']) ?_; have GX := Aside0.mk (row_set (cs := #[.int .u8 0, .int .u8 0, .bool false, .string ⟨#[]⟩, .int .u32 0, .slice none 0 0, .int .i64 0, .bool false, .int .i64 2]) GB.out); have TX := Aside0.mk (tch_row (w := WW) (g := g) #[.int .u8 0, .int .u8 0, .bool false, .string ⟨#[]⟩, .int .u32 0, .slice none 0 0, .int .i64 0, .bool false, .int .i64 2]); generalize WW.setRow g #[.int .u8 0, .int .u8 0, .bool false, .string ⟨#[]⟩, .int .u32 0, .slice none 0 0, .int .i64 0, .bool false, .int .i64 2] = w7 at GX TX ⊢))
  refine bodyPost_ret (results_cell_row rfl _ _ g 87 #[.int .u8 0, .int .u8 0, .bool false, .string ⟨#[]⟩, .int .u32 0, .slice none 0 0, .int .i64 0, .bool false, .int .i64 2] (0, 0) _ rfl GX.out Tryd.underlying87 rfl (by kernel_rfl)) rfl ?_
  have eg := EG.out
  have hB1 : Below w.heap.size w W2 := T1.out.below BB.out BB.out.size (fun k q => by omega)
  have hB3 : Below w.heap.size w WW := T3.out.below hB1 hB1.size (fun k q => by rcases q with q | q | q <;> omega)
  exact ⟨rfl, TX.out.below hB3 hB3.size (fun k q => by omega)⟩
set_option maxRecDepth 100000 in
theorem eyes_calls {w : World} {o : Nat} {c0 : Int} {c1 : Bool} {c2 : ByteArray} {c3 : Int} {c4 : Value} (h : Ltd w o c0 c1 c2 c3 c4) : Calls Tryd.prog 70 #[.pointer (some ⟨o, 0, none⟩)] w fun en w' => en = .returned (.bool (c2.toList == [95, 67, 79, 78, 83, 79, 76, 69])) ∧ w = w' := by
  have e2 := h.e2
  clear h
  go_enter Tryd.func70, Tryd.ntmps70
  go_wp2_with fail
  go_ret
  exact ⟨rfl, rfl⟩
theorem eyes_still {w : World} {o : Nat} {c0 : Int} {c1 : Bool} {c2 : ByteArray} {c3 : Int} {c4 : Value} (h : Ltd w o c0 c1 c2 c3 c4) {ey : Bool} (e : (c2.toList == [95, 67, 79, 78, 83, 79, 76, 69]) = ey) : Calls Tryd.prog 70 #[.pointer (some ⟨o, 0, none⟩)] w fun en w' => en = .returned (.bool ey) ∧ w' = w :=
  (eyes_calls h).mono fun en w' ⟨a, b⟩ => ⟨by rw [a, e], b.symm⟩
set_option maxHeartbeats 3200000 in
set_option maxRecDepth 100000 in
theorem rlit_ok {w : World} {A : Option Addr} {c : Nat} {l : List Int} {split : Int} {aE aU : Addr} (hr : C8 w A l) (hc : l.length ≤ c) (hb : Bytes l) (hE : Env w w.heap.size aE aU) {tg n : Int} {bd rest : List Int}  (hh : Hdr l tg n bd true rest) {f m x y z v : Nat} {t u : List Int} (hne : bd = (f : Int) :: (m : Int) :: t) (hf : f < 256) (hm : m < 256) (hl : m ≤ t.length) (hu : t.drop m = (x : Int) :: (y : Int) :: (z : Int) :: (v : Int) :: u) (hx : x < 256) (hy : y < 256) (hz : z < 256) (hv : v < 256) (hul : u.length ≤ 100000000) :
    Calls Tryd.prog 42 #[.slice A l.length c, .int .i64 split] w fun en w' => ∃ A1 c1, en = .returned (.agg #[.int .u8 tg, .int .u8 (f : Int), .bool ((f : Int) == 98), .string (strOfNums (t.take m)), .int .u32 (num4 x y z v : Int), .slice A1 u.length c1, .int .i64 0, .bool ((strOfNums (t.take m)).toList == [95, 67, 79, 78, 83, 79, 76, 69]), .int .i64 0]) ∧ R8 5 w' w.heap.size (.slice A1 u.length c1) u ∧ Below w.heap.size w w' := by
  obtain ⟨nm, hnm⟩ : ∃ nm, strOfNums (t.take m) = nm := ⟨_, rfl⟩
  obtain ⟨tm, htm⟩ : ∃ tm : Int, (num4 x y z v : Int) = tm := ⟨_, rfl⟩
  obtain ⟨ey, hey⟩ : ∃ ey, ((strOfNums (t.take m)).toList == [95, 67, 79, 78, 83, 79, 76, 69]) = ey := ⟨_, rfl⟩
  have NM := Aside0.mk hnm
  have TM := Aside0.mk htm
  have EY := Aside0.mk (show (nm.toList == [95, 67, 79, 78, 83, 79, 76, 69]) = ey by rw [← hnm]; exact hey)
  rw [hnm, htm]
  rw [hnm] at hey
  rw [hey]
  clear hnm htm hey
  have HN := Aside0.mk hne
  have HU := Aside0.mk hu
  clear hne hu
  have hB1 : Below w.heap.size w (w.alloc (.cells #[.int .u8 0, .int .u8 0, .bool false, .string ⟨#[]⟩, .int .u32 0, .slice none 0 0, .int .i64 0, .bool false, .int .i64 0] 87)) := below_alloc (Below.refl _ _) _
  have hz1 : (w.alloc (.cells #[.int .u8 0, .int .u8 0, .bool false, .string ⟨#[]⟩, .int .u32 0, .slice none 0 0, .int .i64 0, .bool false, .int .i64 0] 87)).heap.size = w.heap.size + 1 := by simp
  obtain ⟨W, eW, hS, hB2⟩ := src_new (w := w.alloc (.cells #[.int .u8 0, .int .u8 0, .bool false, .string ⟨#[]⟩, .int .u32 0, .slice none 0 0, .int .i64 0, .bool false, .int .i64 0] 87)) split (Kd.C_below hr hB1) hc hb
  rw [hz1] at hS
  have hB := below_then hB1 hB1.size hB2
  have hfb : W.heap[w.heap.size]? = some (.cells #[.int .u8 0, .int .u8 0, .bool false, .string ⟨#[]⟩, .int .u32 0, .slice none 0 0, .int .i64 0, .bool false, .int .i64 0] 87 (0, 0)) := (hB2.block _ (by rw [hz1]; omega)).trans (heap_alloc_new _ _)
  have hE1 : Env W (w.heap.size + 1) aE aU := (hE.below hB).up (Nat.le_succ _)
  have HC := Aside0.mk (zzh_ok (rdh_ok hh hS hE1))
  have BB := Aside0.mk hB
  have GB0 := Aside0.mk hfb
  have E0 := Aside0.mk hE1
  have WZ := Aside0.mk (show w.heap.size + 1 < W.heap.size from hS.lt)
  clear hr hb hE hh hB1 hz1 hS hB2 hB hfb hE1
  go_enter Tryd.func42, Tryd.ntmps42
  go_wp2_with fail
  clear eW
  obtain ⟨g, eg⟩ : ∃ g, w.heap.size = g := ⟨_, rfl⟩
  have EG := Aside0.mk eg
  rw [eg] at HC GB0 E0 WZ ⊢
  clear eg
  refine HC.out.mono ?_
  rintro en w1 ⟨v, b, rfl, hBd, hbs, hT⟩
  obtain ⟨tv, rfl⟩ := hBd.shape
  obtain ⟨W2, eW2, hO2, hB2⟩ := ltd_new w1
  have W1 := hT.size
  have wz := WZ.out
  have E1 := Aside0.mk ((E0.out.kept hT (fun j q => by subst q; exact Nat.le_refl _)).below hB2)
  have T1 := Aside0.mk (hT.trans (Tch.of_below hB2))
  have BD := Aside0.mk (hBd.below hB2)
  have GB1 := Aside0.mk ((hB2.block g (by omega)).trans ((hT.block g (by omega) (fun q => by omega)).trans GB0.out))
  have o1 : g + 1 ≤ w1.heap.size := by omega
  have o2 : w1.heap.size ≠ g + 1 := by omega
  have o3 : w1.heap.size ≠ b := by have := hBd.ltb; omega
  have o4 : w1.heap.size < W2.heap.size := hO2.lt
  have OO := Aside0.mk hO2
  have bs : b = g + 1 ∨ W.heap.size ≤ b := hbs
  clear hT hBd hO2 hB2
  go_wp2_with fail
  clear eW2
  obtain ⟨o, eo⟩ : ∃ o, w1.heap.size = o := ⟨_, rfl⟩
  rw [eo] at o1 o2 o3 o4 OO ⊢
  have oz : W.heap.size ≤ o := by omega
  clear eo W1
  refine (zp_lit (R := fun en w' => en = .returned .nilIface ∧ Ltd w' o (f : Int) ((f : Int) == 98) (strOfNums (t.take m)) (num4 x y z v : Int) (.iface tv (.pointer (some ⟨b, 0, none⟩))) ∧ Bdy w' (g + 1) (g + 1) b split (.iface tv (.pointer (some ⟨b, 0, none⟩))) u true rest ∧ Env w' (g + 1) aE aU ∧ Tch (fun j => j = g + 1 ∨ j = b ∨ j = o) W2 w') ((lit_ok BD.out E1.out OO.out o1 o2 o3 HN.out hf hm hl HU.out hx hy hz hv).mono fun en w' h => ⟨_, h.1, h⟩)).mono ?_
  rintro en w3 ⟨rfl, hO3, hBd3, hE3, hT3⟩
  rw [NM.out, TM.out] at hO3
  have GB3 := Aside0.mk ((hT3.block g (by omega) (fun q => by rcases q with q | q | q <;> omega)).trans GB1.out)
  have T3 := Aside0.mk hT3
  have O3 := Aside0.mk hO3
  have E3 := Aside0.mk hE3
  have BD3 := Aside0.mk hBd3
  have e4 := hO3.e4
  have z3 := hT3.size
  clear hT3 hO3 hE3 hBd3
  go_wp2_with fail
  refine (all_calls BD3.out E3.out hul).mono ?_
  rintro en w4 ⟨vo, rfl, hRo, _, _, hT4⟩
  rw [if_pos rfl]
  obtain ⟨A1, c1, e1, _, _⟩ := r8_reads hRo
  subst e1
  have hO4 := O3.out.kept hT4 (fun q => by rcases q with q | q <;> omega)
  have GB4 := Aside0.mk ((hT4.block g (by omega) (fun q => by rcases q with q | q <;> omega)).trans GB3.out)
  have RO := Aside0.mk hRo
  have T4 := Aside0.mk hT4
  have O4 := Aside0.mk hO4
  have q0 : w4.cell? ⟨o, 0, none⟩ = some (.int .u8 (f : Int)) ∧ w4.cell? ⟨o, 1, none⟩ = some (.bool ((f : Int) == 98)) ∧ w4.cell? ⟨o, 2, none⟩ = some (.string nm) ∧ w4.cell? ⟨o, 3, none⟩ = some (.int .u32 tm) := ⟨hO4.e0, hO4.e1, hO4.e2, hO4.e3⟩
  clear hRo hT4 hO4 e4
  go_wp2_with fail
  have GB := Aside0.mk (show w4.drew.heap[g]? = some (.cells #[.int .u8 0, .int .u8 0, .bool false, .string ⟨#[]⟩, .int .u32 0, .slice none 0 0, .int .i64 0, .bool false, .int .i64 0] 87 (0, 0)) from GB4.out)
  have OD := Aside0.mk (O4.out.kept (Tch.of_below (S := fun _ => False) (below_drew (Below.refl w4.heap.size w4))) id)
  have og : o ≠ g := by omega
  have e0 := q0.1
  have e1 := q0.2.1
  have e2 := q0.2.2.1
  have e3 := q0.2.2.2
  go_still_tail 22, (by kernel_rfl)
  still_call (eyes_still OD.out EY.out)
  repeat still_step
  refine wpStill_nil ?_
  change wpList _ _ _ _ _ w4.drew
  refine wpList_store_rowTo rfl 87 (.tmp 4) (.tmp 68) rfl rfl g #[.int .u8 tg, .int .u8 (f : Int), .bool ((f : Int) == 98), .string nm, .int .u32 tm, .slice A1 u.length c1, .int .i64 0, .bool ey, .int .i64 0] rfl rfl 87 _ GB.out (by kernel_rfl) rfl (by simp [Value.oneCell']) ?_
  have GX := Aside0.mk (row_set (cs := #[.int .u8 tg, .int .u8 (f : Int), .bool ((f : Int) == 98), .string nm, .int .u32 tm, .slice A1 u.length c1, .int .i64 0, .bool ey, .int .i64 0]) GB.out)
  have TX := Aside0.mk (tch_row (w := w4.drew) (g := g) #[.int .u8 tg, .int .u8 (f : Int), .bool ((f : Int) == 98), .string nm, .int .u32 tm, .slice A1 u.length c1, .int .i64 0, .bool ey, .int .i64 0])
  generalize w4.drew.setRow g #[.int .u8 tg, .int .u8 (f : Int), .bool ((f : Int) == 98), .string nm, .int .u32 tm, .slice A1 u.length c1, .int .i64 0, .bool ey, .int .i64 0] = w7 at GX TX ⊢
  clear e0 e1 e2 e3
  go_wp2_with fail
  refine bodyPost_ret (results_cell_row rfl _ _ g 87 #[.int .u8 tg, .int .u8 (f : Int), .bool ((f : Int) == 98), .string nm, .int .u32 tm, .slice A1 u.length c1, .int .i64 0, .bool ey, .int .i64 0] (0, 0) _ rfl GX.out Tryd.underlying87 rfl (by kernel_rfl)) rfl ?_
  have eg := EG.out
  have z4 := T4.out.size
  have hB1 : Below w.heap.size w W2 := T1.out.below BB.out BB.out.size (fun k q => by omega)
  have hB3 : Below w.heap.size w w3 := T3.out.below hB1 hB1.size (fun k q => by rcases q with q | q | q <;> omega)
  have hB4 : Below w.heap.size w w4.drew := below_drew (T4.out.below hB3 hB3.size (fun k q => by rcases q with q | q <;> omega))
  have hR4 := Kd.R_drew RO.out
  exact ⟨A1, c1, rfl, Kd.R_lower (TX.out.r8 hR4 (fun k e q => by have := Kd.R_base hR4 k e; omega)) hB3.size, TX.out.below hB4 hB4.size (fun k q => by omega)⟩
end Go.Proofs.YtfhefoaieefnkaaDoor.Rd

/- spec.ReadLiteral. -/
set_option linter.unusedVariables false
set_option linter.unusedSimpArgs false
namespace Go.Proofs.YtfhefoaieefnkaaDoor.Rd
open Go.RowKit Go.Proofs.YtfhefoaieefnkaaDoorW.PrintWords Go.Proofs.YtfhefoaieefnkaaDoorW.PrintMore Go.Proofs.YtfhefoaieefnkaaDoor.Kit Go.Proofs.YtfhefoaieefnkaaDoor.PFnReadLiteral

theorem number4q {b0 b1 b2 b3 : Int} (h0 : 0 ≤ b0) (h0' : b0 ≤ 255) (h1 : 0 ≤ b1) (h1' : b1 ≤ 255) (h2 : 0 ≤ b2) (h2' : b2 ≤ 255) (h3 : 0 ≤ b3) (h3' : b3 ≤ 255) :
    spec_Number.f 6 [b0, b1, b2, b3] = some (b0 * 16777216 + b1 * 65536 + b2 * 256 + b3) := by
  have s0 : Go.bits .or .i64 (wrap64 (0 * 256)) (wrap64 b0) = b0 := by
    rw [show wrap64 (0 * 256) = 0 from wrap64_id (by omega) (by omega), wrap64_id (by omega) (by omega), i64_join 8 0 b0 (by omega) (by omega) (by decide) (by omega) (by omega) (by omega)]; omega
  have s1 : Go.bits .or .i64 (wrap64 (b0 * 256)) (wrap64 b1) = b0 * 256 + b1 := by
    rw [wrap64_id (n := b0 * 256) (by omega) (by omega), wrap64_id (n := b1) (by omega) (by omega), i64_join 8 _ b1 (by omega) (by omega) (by omega) (by omega) (by omega) (by omega)]
  have s2 : Go.bits .or .i64 (wrap64 ((b0 * 256 + b1) * 256)) (wrap64 b2) = (b0 * 256 + b1) * 256 + b2 := by
    rw [wrap64_id (n := (b0 * 256 + b1) * 256) (by omega) (by omega), wrap64_id (n := b2) (by omega) (by omega), i64_join 8 _ b2 (by omega) (by omega) (by omega) (by omega) (by omega) (by omega)]
  have s3 : Go.bits .or .i64 (wrap64 (((b0 * 256 + b1) * 256 + b2) * 256)) (wrap64 b3) = ((b0 * 256 + b1) * 256 + b2) * 256 + b3 := by
    rw [wrap64_id (n := ((b0 * 256 + b1) * 256 + b2) * 256) (by omega) (by omega), wrap64_id (n := b3) (by omega) (by omega), i64_join 8 _ b3 (by omega) (by omega) (by omega) (by omega) (by omega) (by omega)]
  have i1 : wrap64 (0 + 1) = 1 := wrap64_id (by omega) (by omega)
  have i2 : wrap64 (1 + 1) = 2 := wrap64_id (by omega) (by omega)
  have i3 : wrap64 (2 + 1) = 3 := wrap64_id (by omega) (by omega)
  have i4 : wrap64 (3 + 1) = 4 := wrap64_id (by omega) (by omega)
  have r0 : rd [b0, b1, b2, b3] 0 = b0 := rfl
  have r1 : rd [b0, b1, b2, b3] 1 = b1 := rfl
  have r2 : rd [b0, b1, b2, b3] 2 = b2 := rfl
  have r3 : rd [b0, b1, b2, b3] 3 = b3 := rfl
  have ln : (([b0, b1, b2, b3] : List Int).length : Int) = 4 := rfl
  unfold spec_Number.f
  rw [ln, spec_Number.l0, if_pos (by decide), if_pos (by decide), if_pos (by rw [ln]; decide), r0, s0, i1,
    spec_Number.l0, if_pos (by decide), if_pos (by decide), if_pos (by rw [ln]; decide), r1, s1, i2,
    spec_Number.l0, if_pos (by decide), if_pos (by decide), if_pos (by rw [ln]; decide), r2, s2, i3,
    spec_Number.l0, if_pos (by decide), if_pos (by decide), if_pos (by rw [ln]; decide), r3, s3, i4,
    spec_Number.l0, if_neg (by decide)]
  congr 1; omega
theorem at8 {w : World} {A : Option Addr} {l : List Int} (hr : C8 w A l) (k : Nat) {x : Int} (hk : k < l.length) (hx : l.getD k 0 = x) : ∃ b o, A = some ⟨b, o, none⟩ ∧ w.cell? ⟨b, o + k, none⟩ = some (.int .u8 x) := by
  obtain ⟨⟨b, o, p⟩, e, h⟩ := Kd.at_int hr (k : Int) (by omega) (by omega)
  obtain ⟨a0, e0, h0⟩ := Kd.at_int hr 0 (by omega) (by omega)
  have e1 : a0 = ⟨b, o, p⟩ := by rw [e] at e0; injection e0 with e0; exact e0.symm
  subst e1
  have e2 : p = none := by simpa [Addr.add] using World.cell?_spot h0
  subst e2
  refine ⟨b, o, e, ?_⟩
  rw [← hx]
  by_cases q : k = 0
  · subst q; simpa [Addr.add, rd] using h
  · simpa [Addr.add, rd, q] using h
theorem slit_new (w : World) : ∃ W, w.alloc (.cells #[.int .i64 0, .string ⟨#[]⟩, .int .u32 0] 83) = W ∧ W.heap[w.heap.size]? = some (.cells #[.int .i64 0, .string ⟨#[]⟩, .int .u32 0] 83 (0, 0)) ∧ Below w.heap.size w W ∧ w.heap.size < W.heap.size :=
  ⟨_, rfl, heap_alloc_new _ _, below_alloc (Below.refl _ _) _, by simp⟩
set_option maxHeartbeats 1600000 in
set_option maxRecDepth 100000 in
theorem rsl_no0 {w : World} {A : Option Addr} {c n : Nat} (hn : n < 2) : Calls Tryd.prog 41 #[.slice A n c] w fun en w' => en = .returned (.tuple #[.agg #[.int .i64 0, .string ⟨#[]⟩, .int .u32 0], .int .i64 0, .int .i64 1]) ∧ Below w.heap.size w w' := by
  obtain ⟨W, eW, gW, hB, gl⟩ := slit_new w
  have B0 := Aside0.mk hB
  have G0 := Aside0.mk gW
  have GL := Aside0.mk gl
  clear hB gW gl
  go_enter Tryd.func41, Tryd.ntmps41
  go_upto_region 1 with (fail)
  clear eW
  obtain ⟨g, eg⟩ : ∃ g, w.heap.size = g := ⟨_, rfl⟩
  have EG := Aside0.mk eg
  rw [eg] at G0 GL ⊢
  clear eg
  have z0 : W.cell? ⟨g, 0, none⟩ = some (.int .i64 0) := (cell_of_row _ _ 0 _ _ _ G0.out).trans rfl
  have z1 : W.cell? ⟨g, 1, none⟩ = some (.string ⟨#[]⟩) := (cell_of_row _ _ 1 _ _ _ G0.out).trans rfl
  have z2 : W.cell? ⟨g, 2, none⟩ = some (.int .u32 0) := (cell_of_row _ _ 2 _ _ _ G0.out).trans rfl
  go_wp2_with ((with_reducible refine gate_store (t := 83) (p := 2) (v := .tmp 19) rfl ?_); go_loud (refine wpList_store_rowTo rfl 83 (.tmp 2) (.tmp 19) rfl rfl g #[.int .i64 0, .string ⟨#[]⟩, .int .u32 0] rfl rfl 83 _ G0.out (by kernel_rfl) rfl (by simp [Value.oneCell']) ?_; have GX := Aside0.mk (row_set (cs := #[.int .i64 0, .string ⟨#[]⟩, .int .u32 0]) G0.out); have TX := Aside0.mk (tch_row (w := W) (g := g) #[.int .i64 0, .string ⟨#[]⟩, .int .u32 0]); generalize W.setRow g #[.int .i64 0, .string ⟨#[]⟩, .int .u32 0] = w7 at GX TX ⊢))
  go_wp2_with fail
  refine bodyPost_ret (results_ctt rfl _ _ g 83 #[.int .i64 0, .string ⟨#[]⟩, .int .u32 0] (0, 0) _ rfl GX.out Tryd.underlying83 rfl (by kernel_rfl)) rfl ?_
  exact ⟨rfl, TX.out.below B0.out B0.out.size (fun k q => by rw [EG.out]; omega)⟩
set_option maxHeartbeats 1600000 in
set_option maxRecDepth 100000 in
theorem rsl_no1 {w : World} {A : Option Addr} {c n m : Nat} {l : List Int} (hr : C8 w A l) (hn : n = l.length) (h2 : 2 ≤ n) (hm : l.getD 1 0 = (m : Int)) (m8 : m < 256) (hs : n < 6 + m) : Calls Tryd.prog 41 #[.slice A n c] w fun en w' => en = .returned (.tuple #[.agg #[.int .i64 0, .string ⟨#[]⟩, .int .u32 0], .int .i64 0, .int .i64 1]) ∧ Below w.heap.size w w' := by
  obtain ⟨b, o, rfl, x1⟩ := at8 hr 1 (by omega) hm
  clear hr hn hm
  obtain ⟨W, eW, gW, hB, gl⟩ := slit_new w
  have x1 := ((hB.cell (World.block_lt_of_cell? w _ x1)).trans x1)
  have B0 := Aside0.mk hB
  have G0 := Aside0.mk gW
  have GL := Aside0.mk gl
  clear hB gW gl
  go_enter Tryd.func41, Tryd.ntmps41
  go_upto_region 1 with (fail)
  clear eW
  obtain ⟨g, eg⟩ : ∃ g, w.heap.size = g := ⟨_, rfl⟩
  have EG := Aside0.mk eg
  rw [eg] at G0 GL ⊢
  clear eg
  have z0 : W.cell? ⟨g, 0, none⟩ = some (.int .i64 0) := (cell_of_row _ _ 0 _ _ _ G0.out).trans rfl
  have z1 : W.cell? ⟨g, 1, none⟩ = some (.string ⟨#[]⟩) := (cell_of_row _ _ 1 _ _ _ G0.out).trans rfl
  have z2 : W.cell? ⟨g, 2, none⟩ = some (.int .u32 0) := (cell_of_row _ _ 2 _ _ _ G0.out).trans rfl
  go_wp2_with ((with_reducible refine gate_store (t := 83) (p := 2) (v := .tmp 19) rfl ?_); go_loud (refine wpList_store_rowTo rfl 83 (.tmp 2) (.tmp 19) rfl rfl g #[.int .i64 0, .string ⟨#[]⟩, .int .u32 0] rfl rfl 83 _ G0.out (by kernel_rfl) rfl (by simp [Value.oneCell']) ?_; have GX := Aside0.mk (row_set (cs := #[.int .i64 0, .string ⟨#[]⟩, .int .u32 0]) G0.out); have TX := Aside0.mk (tch_row (w := W) (g := g) #[.int .i64 0, .string ⟨#[]⟩, .int .u32 0]); generalize W.setRow g #[.int .i64 0, .string ⟨#[]⟩, .int .u32 0] = w7 at GX TX ⊢))
  go_wp2_with fail
  refine bodyPost_ret (results_ctt rfl _ _ g 83 #[.int .i64 0, .string ⟨#[]⟩, .int .u32 0] (0, 0) _ rfl GX.out Tryd.underlying83 rfl (by kernel_rfl)) rfl ?_
  exact ⟨rfl, TX.out.below B0.out B0.out.size (fun k q => by rw [EG.out]; omega)⟩
set_option maxHeartbeats 1600000 in
theorem sl_cuts {A : Option Addr} {c n f m x y z v : Nat} {t u l : List Int} (hl : l = (f : Int) :: (m : Int) :: t) (hn : n = l.length) (hc : n ≤ c) (m8 : m < 256) (hu : t.drop m = (x : Int) :: (y : Int) :: (z : Int) :: (v : Int) :: u) (hm : m ≤ t.length) : ∃ A1 A2, (∀ W : World, (Instr.slice 22 (.slice A n c) (some (.int .i64 2)) (some (.int .i64 (2 + (m : Int)))) none).run Tryd.prog W = .ok (.slice A1 m (c - 2)) W) ∧ (∀ W : World, (Instr.slice 22 (.slice A n c) (some (.int .i64 (2 + (m : Int)))) (some (.int .i64 (6 + (m : Int)))) none).run Tryd.prog W = .ok (.slice A2 4 (c - (2 + m))) W) ∧ (∀ w : World, C8 w A l → C8 w A1 (t.take m) ∧ C8 w A2 [(x : Int), (y : Int), (z : Int), (v : Int)]) ∧ 4 ≤ c - (2 + m) := by
  obtain ⟨i0, hi0, _, hsz, _⟩ := info_parts infoB
  have hd : (t.drop m).length = u.length + 4 := by rw [hu]; rfl
  rw [List.length_drop] at hd
  have ln : l.length = t.length + 2 := by rw [hl]; simp
  have k1 : (l.take (2 + (m : Int)).toNat).drop (2 : Int).toNat = t.take m := by
    rw [hl, show (2 + (m : Int)).toNat = m + 2 by omega]; rfl
  have k2 : (l.take (6 + (m : Int)).toNat).drop (2 + (m : Int)).toNat = [(x : Int), (y : Int), (z : Int), (v : Int)] := by
    rw [hl, show (6 + (m : Int)).toNat = (m + 4) + 2 by omega, show (2 + (m : Int)).toNat = m + 2 by omega]
    show (t.take (m + 4)).drop m = _
    rw [List.drop_take, hu, show m + 4 - m = 4 by omega]
    rfl
  obtain ⟨A1, c1, r1, q1⟩ := print_mid_of (P := Tryd.prog) (Value.int .u8) (0 : Int) 22 5 .i64 .i64 Tryd.underlying22 hi0 hsz A c l 2 (2 + (m : Int)) (by omega) (by omega) (by omega) (by omega)
  obtain ⟨A2, c2, r2, q2⟩ := print_mid_of (P := Tryd.prog) (Value.int .u8) (0 : Int) 22 5 .i64 .i64 Tryd.underlying22 hi0 hsz A c l (2 + (m : Int)) (6 + (m : Int)) (by omega) (by omega) (by omega) (by omega)
  rw [k1, ← hn] at c1
  rw [k1] at r1
  rw [k2, ← hn] at c2
  rw [k2] at r2
  have tm : (t.take m).length = m := by rw [List.length_take]; omega
  rw [tm] at c1
  have e2 : (2 + (m : Int)).toNat = 2 + m := by omega
  rw [e2] at c2
  exact ⟨A1, A2, c1, c2, fun w h => ⟨Kd.C_of_reads (h1 := fun _ => rfl) (r1 w (Kd.reads_of_C h)), Kd.C_of_reads (h1 := fun _ => rfl) (r2 w (Kd.reads_of_C h))⟩, by omega⟩
set_option maxHeartbeats 1600000 in
set_option maxRecDepth 100000 in
theorem rsl_ok {w : World} {A : Option Addr} {c n f m x y z v : Nat} {t u l : List Int} (hr : C8 w A l) (hl : l = (f : Int) :: (m : Int) :: t) (hn : n = l.length) (hc : n ≤ c) (f8 : f < 256) (m8 : m < 256) (x8 : x < 256) (y8 : y < 256) (z8 : z < 256) (v8 : v < 256) (hu : t.drop m = (x : Int) :: (y : Int) :: (z : Int) :: (v : Int) :: u) (hm : m ≤ t.length) : Calls Tryd.prog 41 #[.slice A n c] w fun en w' => en = .returned (.tuple #[.agg #[.int .i64 (f : Int), .string (strOfNums (t.take m)), .int .u32 (num4 x y z v : Int)], .int .i64 (6 + (m : Int)), .int .i64 0]) ∧ Below w.heap.size w w' := by
  obtain ⟨A1, A2, cut1, cut2, hcc, hc4⟩ := sl_cuts (A := A) hl hn hc m8 hu hm
  have hd : (t.drop m).length = u.length + 4 := by rw [hu]; rfl
  rw [List.length_drop] at hd
  have ln : n = t.length + 2 := by rw [hn, hl]; simp
  have lnm : m + 6 ≤ n := by omega
  obtain ⟨hn1, hn2⟩ := hcc w hr
  have N1 := Aside0.mk hn1
  have N2 := Aside0.mk hn2
  have TM := Aside0.mk (show (t.take m).length = m by rw [List.length_take]; omega)
  obtain ⟨b, o, rfl, x1⟩ := at8 hr 1 (x := (m : Int)) (by omega) (by rw [hl]; rfl)
  obtain ⟨b', o', eb, x0⟩ := at8 hr 0 (x := (f : Int)) (by omega) (by rw [hl]; rfl)
  injection eb with eb
  injection eb with e1 e2
  subst e1 e2
  rw [Nat.add_zero] at x0
  have hbl := World.block_lt_of_cell? w _ x0
  obtain ⟨q, q32, hq, hnq⟩ : ∃ q : Nat, q < 4294967296 ∧ num4 x y z v = q ∧ spec_Number.f 6 [(x : Int), (y : Int), (z : Int), (v : Int)] = some (q : Int) := by
    refine ⟨num4 x y z v, ?_, rfl, ?_⟩
    · unfold num4; omega
    · rw [number4q (by omega) (by omega) (by omega) (by omega) (by omega) (by omega) (by omega) (by omega)]
      unfold num4; congr 1
  rw [hq]
  have HQ := Aside0.mk hnq
  have X00 := Aside0.mk x0
  clear hr hn hcc hn1 hn2 hl hu hd ln hnq hq hm
  have BL := Aside0.mk hbl
  clear hbl
  obtain ⟨W, eW, gW, hB, gl⟩ := slit_new w
  have x0 := ((hB.cell (World.block_lt_of_cell? w _ x0)).trans x0)
  have x1 := ((hB.cell (World.block_lt_of_cell? w _ x1)).trans x1)
  have B0 := Aside0.mk hB
  have G0 := Aside0.mk gW
  have GL := Aside0.mk gl
  clear hB gW gl
  go_enter Tryd.func41, Tryd.ntmps41
  go_upto_region 1 with (fail)
  clear eW
  obtain ⟨g, eg⟩ : ∃ g, w.heap.size = g := ⟨_, rfl⟩
  have EG := Aside0.mk eg
  rw [eg] at G0 GL ⊢
  clear eg
  have z0 : W.cell? ⟨g, 0, none⟩ = some (.int .i64 0) := (cell_of_row _ _ 0 _ _ _ G0.out).trans rfl
  have z1 : W.cell? ⟨g, 1, none⟩ = some (.string ⟨#[]⟩) := (cell_of_row _ _ 1 _ _ _ G0.out).trans rfl
  have z2 : W.cell? ⟨g, 2, none⟩ = some (.int .u32 0) := (cell_of_row _ _ 2 _ _ _ G0.out).trans rfl
  have NE := Aside0.mk (show b < g by rw [← EG.out]; exact BL.out)
  have f0 := blk_frozen G0.out 0
  have f1 := blk_frozen G0.out 1
  have f2 := blk_frozen G0.out 2
  have CV := (fun (W' : World) (h : Below w.heap.size w W') => Kd.C_string (P := Tryd.prog) (w := W') (c := c - 2) Tryd.underlying22 Tryd.underlying5 Tryd.underlying9 (Kd.C_below N1.out h))
  rw [TM.out] at CV
  go_wp2_with fail
  have BW : Below w.heap.size w W := B0.out
  have GE := Aside0.mk (Nat.le_of_eq EG.out)
  have w2 : IntKind.i64.wrap (2 + (m : Int)) = 2 + (m : Int) := IntWalk.i64_in _ (by omega)
  have w6 : IntKind.i64.wrap (6 + (m : Int)) = 6 + (m : Int) := IntWalk.i64_in _ (by omega)
  have n0 : (0 : Int) < (n : Int) := by omega
  have n1 : 0 < n := by omega
  have wf : IntKind.i64.wrap (f : Int) = (f : Int) := IntWalk.i64_in _ (by omega)
  have wq : IntKind.u32.wrap (q : Int) = (q : Int) := IntWalk.u32_in _ (by omega)
  have NUMC : Aside0 (∀ W' : World, Below w.heap.size w W' → Calls Tryd.prog 47 #[.slice A2 4 (c - (2 + m))] W' (fun en w'' => en = .returned (.int .i64 (q : Int)) ∧ Below W'.heap.size W' w'')) := Aside0.mk (fun W' h => (spec_Number.calls 6 A2 (c - (2 + m)) [(x : Int), (y : Int), (z : Int), (v : Int)] (q : Int) W' (Kd.C_below N2.out h) hc4 HQ.out).mono (fun _ _ h => ⟨h.1, h.2.below⟩))
  go_region_held3 (fun w' => w'.cell? ⟨b, o, none⟩ = some (.int .u8 (f : Int)) ∧ Below w.heap.size w w') (first | (focus (refine (fun hb => ⟨(hb.cell BL.out).trans X00.out, hb⟩ : Below w.heap.size w _ → _) (below_set (below_set (below_set ?_ GE.out) GE.out) GE.out); first | exact BW6 | assumption)) | (focus (refine ⟨by first | assumption | go_keep, ?_⟩; first | assumption | (focus (exact below_drew (by assumption))) | (focus (go_grown; done)))) | go_keep) ((go_at_call 47; go_loud ((with_reducible refine (NUMC.out _ (below_drew BW)).mono ?_); rintro en w6 ⟨rfl, hB⟩; have hBd := below_then (below_drew (Below.refl _ W)) (Nat.le_refl _) hB; have lg := World.block_lt_of_cell? W _ z0; replace z0 := (hBd.cell (p := ⟨g, 0, none⟩) lg).trans z0; replace z1 := (hBd.cell (p := ⟨g, 1, none⟩) lg).trans z1; replace z2 := (hBd.cell (p := ⟨g, 2, none⟩) lg).trans z2; have G6 := Aside0.mk ((hBd.block g lg).trans G0.out); replace f0 := blk_frozen G6.out 0; replace f1 := blk_frozen G6.out 1; replace f2 := blk_frozen G6.out 2; replace x0 := (hBd.cell (World.block_lt_of_cell? W _ x0)).trans x0; have BW6 : Below w.heap.size w w6 := below_then B0.out B0.out.size hBd; clear hB hBd)))
  go_wp2_with fail
  refine bodyPost_ret (results_ctt rfl _ _ g 83 #[.int .i64 (f : Int), .string (strOfNums (t.take m)), .int .u32 (q : Int)] (0, 0) _ rfl (by (with_reducible repeat (first | refine blk_drewN ?_ _ | refine blk_drew ?_ | refine blk_alloc ?_ _)); refine blk_put (cs := #[.int .i64 (f : Int), .string (strOfNums (t.take m)), .int .u32 0]) ?_ 2 _ rfl; refine blk_put (cs := #[.int .i64 (f : Int), .string ⟨#[]⟩, .int .u32 0]) ?_ 1 _ rfl; refine blk_put (cs := #[.int .i64 0, .string ⟨#[]⟩, .int .u32 0]) ?_ 0 _ rfl; exact G6.out) Tryd.underlying83 rfl (by kernel_rfl)) rfl ?_
  refine ⟨rfl, ?_⟩
  repeat (first | exact BW6 | (with_reducible refine below_set ?_ GE.out) | (with_reducible refine below_drew ?_) | (with_reducible refine pw_below_drewN ?_))
end Go.Proofs.YtfhefoaieefnkaaDoor.Rd

/- laws.FnReadLiteral. -/
set_option linter.unusedVariables false
set_option linter.unusedSimpArgs false
namespace Go.Proofs.YtfhefoaieefnkaaDoor.Rd
open Go.RowKit Go.Proofs.YtfhefoaieefnkaaDoorW.PrintWords Go.Proofs.YtfhefoaieefnkaaDoorW.PrintMore Go.Proofs.YtfhefoaieefnkaaDoor.Kit
open Go.Proofs.YtfhefoaieefnkaaDoor

theorem lit_total {bd : List Int} (hb : Bytes bd) : LitNo bd ∨ ∃ f m x y z v t u, f < 256 ∧ m < 256 ∧ x < 256 ∧ y < 256 ∧ z < 256 ∧ v < 256 ∧ bd = ((f : Nat) : Int) :: ((m : Nat) : Int) :: t ∧ m ≤ t.length ∧ t.drop m = ((x : Nat) : Int) :: ((y : Nat) : Int) :: ((z : Nat) : Int) :: ((v : Nat) : Int) :: u := by
  match bd, hb with
  | [], _ => exact .inl (.inl (by simp))
  | [_], _ => exact .inl (.inl (by simp))
  | f :: m :: t, hb =>
    have h0 := hb 0
    have h1 := hb 1
    simp only [List.getD_cons_zero, List.getD_cons_succ] at h0 h1
    obtain ⟨f, rfl⟩ := Int.eq_ofNat_of_zero_le h0.1
    obtain ⟨m, rfl⟩ := Int.eq_ofNat_of_zero_le h1.1
    by_cases hl : m ≤ t.length
    · have hbt : Bytes (t.drop m) := bytesC_drop (fun i => by simpa using hb (i + 2)) m
      have no : (t.drop m).length < 4 → LitNo ((f : Int) :: (m : Int) :: t) := fun q => .inr ⟨f, m, t, by omega, by omega, rfl, .inr ⟨hl, q⟩⟩
      match hd : t.drop m, hbt with
      | [], _ => exact .inl (no (by rw [hd]; simp))
      | [_], _ => exact .inl (no (by rw [hd]; simp))
      | [_, _], _ => exact .inl (no (by rw [hd]; simp))
      | [_, _, _], _ => exact .inl (no (by rw [hd]; simp))
      | x :: y :: z :: v :: u, hbt =>
        have b0 := hbt 0
        have b1 := hbt 1
        have b2 := hbt 2
        have b3 := hbt 3
        simp only [List.getD_cons_zero, List.getD_cons_succ] at b0 b1 b2 b3
        obtain ⟨x, rfl⟩ := Int.eq_ofNat_of_zero_le b0.1
        obtain ⟨y, rfl⟩ := Int.eq_ofNat_of_zero_le b1.1
        obtain ⟨z, rfl⟩ := Int.eq_ofNat_of_zero_le b2.1
        obtain ⟨v, rfl⟩ := Int.eq_ofNat_of_zero_le b3.1
        exact .inr ⟨f, m, x, y, z, v, t, u, by omega, by omega, by omega, by omega, by omega, by omega, rfl, hl, hd⟩
    · exact .inl (.inr ⟨f, m, t, by omega, by omega, rfl, .inl (by omega)⟩)
theorem sl_no {w : World} {A : Option Addr} {c : Nat} {bd : List Int} (h : LitNo bd) (hr : C8 w A bd) : Calls Tryd.prog 41 #[.slice A bd.length c] w fun en w' => en = .returned (.tuple #[.agg #[.int .i64 0, .string ⟨#[]⟩, .int .u32 0], .int .i64 0, .int .i64 1]) ∧ Below w.heap.size w w' := by
  rcases h with h | ⟨f, n, t, hf, hn, rfl, h⟩
  · exact rsl_no0 h
  · refine rsl_no1 (m := n) hr rfl (by simp) rfl hn ?_
    rcases h with h | ⟨h, h2⟩
    · simp; omega
    · rw [List.length_drop] at h2; simp; omega
set_option maxRecDepth 100000 in
theorem rl_big {w : World} {A : Option Addr} {c n : Nat} {split : Int} (hz : 2147483647 < n) : Calls Tryd.prog 12 #[.slice A n c, .int .i64 split] w fun e w' => e = .returned (.bool true) ∧ Below w.heap.size w w' := by
  go_enter Tryd.func12, Tryd.ntmps12
  go_wp2_with fail
  go_ret
  exact ⟨rfl, Below.refl _ _⟩
set_option maxRecDepth 100000 in
theorem rl_mid {w : World} {A : Option Addr} {c n : Nat} {split : Int} (hz : ¬ 2147483647 < n) (hy : 1048576 < n) : Calls Tryd.prog 12 #[.slice A n c, .int .i64 split] w fun e w' => e = .returned (.bool true) ∧ Below w.heap.size w w' := by
  go_enter Tryd.func12, Tryd.ntmps12
  go_wp2_with fail
  go_ret
  exact ⟨rfl, Below.refl _ _⟩
set_option maxHeartbeats 1600000 in
set_option maxRecDepth 100000 in
theorem rl_pno {w : World} {A : Option Addr} {c n : Nat} {l : List Int} {split : Int} (hr : C8 w A l) (hc : l.length ≤ c) (hn : n = l.length) (hz : ¬ 2147483647 < n) (hy : ¬ 1048576 < n) {k : Nat} {hw : Int} (hw0 : hw ≠ 0) (hs : PFnMarker.spec_ReadPacket.f k l = some (0, [], 0, hw)) : Calls Tryd.prog 12 #[.slice A n c, .int .i64 split] w fun e w' => e = .returned (.bool true) ∧ Below w.heap.size w w' := by
  have HS := Aside0.mk hs
  clear hs
  have HR := Aside0.mk hr
  have HC := Aside0.mk hc
  have HN := Aside0.mk hn
  clear hr hc hn
  go_enter Tryd.func12, Tryd.ntmps12
  go_wp2_with fail
  rw [HN.out]
  refine (PFnMarker.spec_ReadPacket.calls k A c l 0 [] 0 hw w HR.out HC.out HS.out).mono ?_
  rw [← HN.out]
  rintro en w1 ⟨v1, rfl, hR, hB⟩
  obtain ⟨A1, c1, e1, hc1, hC1⟩ := r8_reads hR
  subst e1
  have hwb : (hw != 0) = true := bne_iff_ne.2 hw0
  have B1 := Aside0.mk (below_then hB hB.size (below_alloc (Below.refl _ _) (.cells #[.int .i64 0, .slice A1 ([] : List Int).length c1] 60)))
  clear hR hB hC1 hc1
  go_wp2_with fail
  go_ret
  exact ⟨rfl, B1.out⟩
set_option maxHeartbeats 1600000 in
set_option maxRecDepth 100000 in
theorem rl_lno {w : World} {A : Option Addr} {c n : Nat} {l : List Int} {split : Int} (hr : C8 w A l) (hc : l.length ≤ c) (hn : n = l.length) (hz : ¬ 2147483647 < n) (hy : ¬ 1048576 < n) {k : Nat} {tg sz : Int} {bd : List Int} (hs : PFnMarker.spec_ReadPacket.f k l = some (tg, bd, sz, 0)) (hl : LitNo bd)
    (hI : ∀ W : World, Below w.heap.size w W → Calls Tryd.prog 42 #[.slice A n c, .int .i64 split] W fun en w' => en = .returned (.agg #[.int .u8 0, .int .u8 0, .bool false, .string ⟨#[]⟩, .int .u32 0, .slice none 0 0, .int .i64 0, .bool false, .int .i64 2]) ∧ Below W.heap.size W w') : Calls Tryd.prog 12 #[.slice A n c, .int .i64 split] w fun e w' => e = .returned (.bool true) ∧ Below w.heap.size w w' := by
  have HS := Aside0.mk hs
  have HL := Aside0.mk (fun (A1 : Option Addr) (c1 : Nat) (W : World) (h : C8 W A1 bd) => sl_no (w := W) (A := A1) (c := c1) hl h)
  have HI := Aside0.mk hI
  clear hs hl hI
  have HR := Aside0.mk hr
  have HC := Aside0.mk hc
  have HN := Aside0.mk hn
  clear hr hc hn
  go_enter Tryd.func12, Tryd.ntmps12
  go_wp2_with fail
  rw [HN.out]
  refine (PFnMarker.spec_ReadPacket.calls k A c l tg bd sz 0 w HR.out HC.out HS.out).mono ?_
  rw [← HN.out]
  rintro en w1 ⟨v1, rfl, hR, hB⟩
  obtain ⟨A1, c1, e1, hc1, hC1⟩ := r8_reads hR
  subst e1
  obtain ⟨W1, eW1, hp1, hB1⟩ : ∃ W1, w1.alloc (.cells #[.int .i64 tg, .slice A1 bd.length c1] 60) = W1 ∧ W1.heap[w1.heap.size]? = some (.cells #[.int .i64 tg, .slice A1 bd.length c1] 60 (0, 0)) ∧ Below w1.heap.size w1 W1 := ⟨_, rfl, heap_alloc_new _ _, below_alloc (Below.refl _ _) _⟩
  have p0 : W1.cell? ⟨w1.heap.size, 0, none⟩ = some (.int .i64 tg) := (cell_of_row _ _ 0 _ _ _ hp1).trans rfl
  have p1 : W1.cell? ⟨w1.heap.size, 1, none⟩ = some (.slice A1 bd.length c1) := (cell_of_row _ _ 1 _ _ _ hp1).trans rfl
  have X1 := Aside0.mk (And.intro (Kd.C_below hC1 hB1) hc1)
  have B1 := Aside0.mk (below_then hB hB.size hB1)
  have PP1 := Aside0.mk hp1
  have L1 := Aside0.mk (show w1.heap.size < W1.heap.size by rw [← eW1]; simp)
  clear hR hB hC1 hc1 hp1 hB1
  go_wp2_with fail
  clear eW1
  obtain ⟨b1, eb1⟩ : ∃ b1, w1.heap.size = b1 := ⟨_, rfl⟩
  rw [eb1] at p0 p1 PP1 L1 ⊢
  clear eb1
  refine (HL.out A1 c1 W1 X1.out.1).mono ?_
  rintro en w2 ⟨rfl, hB⟩
  have B2 := Aside0.mk (below_then B1.out B1.out.size (below_then hB hB.size (below_alloc (Below.refl w2.heap.size w2) (.cells #[.int .i64 0, .string ⟨#[]⟩, .int .u32 0] 83))))
  clear hB
  go_wp2_with fail
  refine (HI.out _ B2.out).mono ?_
  rintro en w3 ⟨rfl, hB⟩
  have B3 := Aside0.mk (below_then B2.out B2.out.size hB)
  clear hB
  go_wp2_with fail
  go_ret
  exact ⟨rfl, below_alloc B3.out _⟩
set_option maxHeartbeats 1600000 in
set_option maxRecDepth 100000 in
theorem rl_fmt {w : World} {A : Option Addr} {c n : Nat} {l : List Int} {split : Int} (hr : C8 w A l) (hc : l.length ≤ c) (hn : n = l.length) (hz : ¬ 2147483647 < n) (hy : ¬ 1048576 < n) {k : Nat} {tg sz : Int} {bd : List Int} (hs : PFnMarker.spec_ReadPacket.f k l = some (tg, bd, sz, 0)) {f a : Nat} {nm : ByteArray} {tm : Int} (hSL : ∀ (A1 : Option Addr) (c1 : Nat) (W : World), C8 W A1 bd → bd.length ≤ c1 → Calls Tryd.prog 41 #[.slice A1 bd.length c1] W fun en w' => en = .returned (.tuple #[.agg #[.int .i64 (f : Int), .string nm, .int .u32 tm], .int .i64 (a : Int), .int .i64 0]) ∧ Below W.heap.size W w') (n1 : ¬ (f : Int) = 98) (n2 : ¬ (f : Int) = 116) (n3 : ¬ (f : Int) = 117) : Calls Tryd.prog 12 #[.slice A n c, .int .i64 split] w fun e w' => e = .returned (.bool true) ∧ Below w.heap.size w w' := by
  have HS := Aside0.mk hs
  have HL := Aside0.mk hSL
  clear hs hSL
  have c1_ : ((f : Int) != 98) = true := bne_iff_ne.2 n1
  have c2_ : ((f : Int) != 116) = true := bne_iff_ne.2 n2
  have c3_ : ((f : Int) != 117) = true := bne_iff_ne.2 n3
  have HR := Aside0.mk hr
  have HC := Aside0.mk hc
  have HN := Aside0.mk hn
  clear hr hc hn
  go_enter Tryd.func12, Tryd.ntmps12
  go_wp2_with fail
  rw [HN.out]
  refine (PFnMarker.spec_ReadPacket.calls k A c l tg bd sz 0 w HR.out HC.out HS.out).mono ?_
  rw [← HN.out]
  rintro en w1 ⟨v1, rfl, hR, hB⟩
  obtain ⟨A1, c1, e1, hc1, hC1⟩ := r8_reads hR
  subst e1
  obtain ⟨W1, eW1, hp1, hB1⟩ : ∃ W1, w1.alloc (.cells #[.int .i64 tg, .slice A1 bd.length c1] 60) = W1 ∧ W1.heap[w1.heap.size]? = some (.cells #[.int .i64 tg, .slice A1 bd.length c1] 60 (0, 0)) ∧ Below w1.heap.size w1 W1 := ⟨_, rfl, heap_alloc_new _ _, below_alloc (Below.refl _ _) _⟩
  have p0 : W1.cell? ⟨w1.heap.size, 0, none⟩ = some (.int .i64 tg) := (cell_of_row _ _ 0 _ _ _ hp1).trans rfl
  have p1 : W1.cell? ⟨w1.heap.size, 1, none⟩ = some (.slice A1 bd.length c1) := (cell_of_row _ _ 1 _ _ _ hp1).trans rfl
  have X1 := Aside0.mk (And.intro (Kd.C_below hC1 hB1) hc1)
  have B1 := Aside0.mk (below_then hB hB.size hB1)
  have PP1 := Aside0.mk hp1
  have L1 := Aside0.mk (show w1.heap.size < W1.heap.size by rw [← eW1]; simp)
  clear hR hB hC1 hc1 hp1 hB1
  go_wp2_with fail
  clear eW1
  obtain ⟨b1, eb1⟩ : ∃ b1, w1.heap.size = b1 := ⟨_, rfl⟩
  rw [eb1] at p0 p1 PP1 L1 ⊢
  clear eb1
  refine (HL.out A1 c1 W1 X1.out.1 X1.out.2).mono ?_
  rintro en w2 ⟨rfl, hB⟩
  obtain ⟨W2, eW2, hp2, hB2⟩ : ∃ W2, w2.alloc (.cells #[.int .i64 (f : Int), .string nm, .int .u32 tm] 83) = W2 ∧ W2.heap[w2.heap.size]? = some (.cells #[.int .i64 (f : Int), .string nm, .int .u32 tm] 83 (0, 0)) ∧ Below w2.heap.size w2 W2 := ⟨_, rfl, heap_alloc_new _ _, below_alloc (Below.refl _ _) _⟩
  have l0 : W2.cell? ⟨w2.heap.size, 0, none⟩ = some (.int .i64 (f : Int)) := (cell_of_row _ _ 0 _ _ _ hp2).trans rfl
  have l1 : W2.cell? ⟨w2.heap.size, 1, none⟩ = some (.string nm) := (cell_of_row _ _ 1 _ _ _ hp2).trans rfl
  have l2 : W2.cell? ⟨w2.heap.size, 2, none⟩ = some (.int .u32 tm) := (cell_of_row _ _ 2 _ _ _ hp2).trans rfl
  have hX := below_then hB hB.size hB2
  replace p0 := (hX.cell (p := ⟨b1, 0, none⟩) L1.out).trans p0
  replace p1 := (hX.cell (p := ⟨b1, 1, none⟩) L1.out).trans p1
  have X2 := Aside0.mk (And.intro (Kd.C_below X1.out.1 hX) X1.out.2)
  have B2 := Aside0.mk (below_then B1.out B1.out.size hX)
  have L2 := Aside0.mk (show w2.heap.size < W2.heap.size by rw [← eW2]; simp)
  have L12 := Aside0.mk (Nat.lt_of_lt_of_le L1.out hX.size)
  clear hB hB2 hX hp2
  go_wp2_with fail
  go_ret
  exact ⟨rfl, B2.out⟩
set_option maxHeartbeats 1600000 in
set_option maxRecDepth 100000 in
theorem rl_fine98 {w : World} {A : Option Addr} {c n : Nat} {l : List Int} {split : Int} (hr : C8 w A l) (hc : l.length ≤ c) (hn : n = l.length) (hz : ¬ 2147483647 < n) (hy : ¬ 1048576 < n) {k : Nat} {tg sz : Int} {bd u : List Int} (hs : PFnMarker.spec_ReadPacket.f k l = some (tg, bd, sz, 0)) (ht : 0 ≤ tg ∧ tg ≤ 63) {a : Nat} {nm : ByteArray} {tm : Int} {ey : Bool} (hey : (nm.toList == [95, 67, 79, 78, 83, 79, 76, 69]) = ey) (hSL : ∀ (A1 : Option Addr) (c1 : Nat) (W : World), C8 W A1 bd → bd.length ≤ c1 → Calls Tryd.prog 41 #[.slice A1 bd.length c1] W fun en w' => en = .returned (.tuple #[.agg #[.int .i64 98, .string nm, .int .u32 tm], .int .i64 (a : Int), .int .i64 0]) ∧ Below W.heap.size W w') (hI : ∀ W : World, Below w.heap.size w W → Calls Tryd.prog 42 #[.slice A n c, .int .i64 split] W fun en w' => ∃ A3 c3, en = .returned (.agg #[.int .u8 tg, .int .u8 98, .bool true, .string nm, .int .u32 tm, .slice A3 u.length c3, .int .i64 0, .bool ey, .int .i64 0]) ∧ R8 5 w' W.heap.size (.slice A3 u.length c3) u ∧ Below W.heap.size W w') (ha : a ≤ bd.length) (hdu : bd.drop a = u) : Calls Tryd.prog 12 #[.slice A n c, .int .i64 split] w fun e w' => e = .returned (.bool true) ∧ Below w.heap.size w w' := by
  have HS := Aside0.mk hs
  have HL := Aside0.mk hSL
  have HI := Aside0.mk hI
  have EY := Aside0.mk hey
  have DU := Aside0.mk (And.intro ha hdu)
  clear hs hSL hI hey ha hdu
  have HR := Aside0.mk hr
  have HC := Aside0.mk hc
  have HN := Aside0.mk hn
  clear hr hc hn
  go_enter Tryd.func12, Tryd.ntmps12
  go_wp2_with fail
  rw [HN.out]
  refine (PFnMarker.spec_ReadPacket.calls k A c l tg bd sz 0 w HR.out HC.out HS.out).mono ?_
  rw [← HN.out]
  rintro en w1 ⟨v1, rfl, hR, hB⟩
  obtain ⟨A1, c1, e1, hc1, hC1⟩ := r8_reads hR
  subst e1
  obtain ⟨W1, eW1, hp1, hB1⟩ : ∃ W1, w1.alloc (.cells #[.int .i64 tg, .slice A1 bd.length c1] 60) = W1 ∧ W1.heap[w1.heap.size]? = some (.cells #[.int .i64 tg, .slice A1 bd.length c1] 60 (0, 0)) ∧ Below w1.heap.size w1 W1 := ⟨_, rfl, heap_alloc_new _ _, below_alloc (Below.refl _ _) _⟩
  have p0 : W1.cell? ⟨w1.heap.size, 0, none⟩ = some (.int .i64 tg) := (cell_of_row _ _ 0 _ _ _ hp1).trans rfl
  have p1 : W1.cell? ⟨w1.heap.size, 1, none⟩ = some (.slice A1 bd.length c1) := (cell_of_row _ _ 1 _ _ _ hp1).trans rfl
  have X1 := Aside0.mk (And.intro (Kd.C_below hC1 hB1) hc1)
  have B1 := Aside0.mk (below_then hB hB.size hB1)
  have PP1 := Aside0.mk hp1
  have L1 := Aside0.mk (show w1.heap.size < W1.heap.size by rw [← eW1]; simp)
  clear hR hB hC1 hc1 hp1 hB1
  go_wp2_with fail
  clear eW1
  obtain ⟨b1, eb1⟩ : ∃ b1, w1.heap.size = b1 := ⟨_, rfl⟩
  rw [eb1] at p0 p1 PP1 L1 ⊢
  clear eb1
  refine (HL.out A1 c1 W1 X1.out.1 X1.out.2).mono ?_
  rintro en w2 ⟨rfl, hB⟩
  obtain ⟨W2, eW2, hp2, hB2⟩ : ∃ W2, w2.alloc (.cells #[.int .i64 98, .string nm, .int .u32 tm] 83) = W2 ∧ W2.heap[w2.heap.size]? = some (.cells #[.int .i64 98, .string nm, .int .u32 tm] 83 (0, 0)) ∧ Below w2.heap.size w2 W2 := ⟨_, rfl, heap_alloc_new _ _, below_alloc (Below.refl _ _) _⟩
  have l0 : W2.cell? ⟨w2.heap.size, 0, none⟩ = some (.int .i64 98) := (cell_of_row _ _ 0 _ _ _ hp2).trans rfl
  have l1 : W2.cell? ⟨w2.heap.size, 1, none⟩ = some (.string nm) := (cell_of_row _ _ 1 _ _ _ hp2).trans rfl
  have l2 : W2.cell? ⟨w2.heap.size, 2, none⟩ = some (.int .u32 tm) := (cell_of_row _ _ 2 _ _ _ hp2).trans rfl
  have hX := below_then hB hB.size hB2
  replace p0 := (hX.cell (p := ⟨b1, 0, none⟩) L1.out).trans p0
  replace p1 := (hX.cell (p := ⟨b1, 1, none⟩) L1.out).trans p1
  have X2 := Aside0.mk (And.intro (Kd.C_below X1.out.1 hX) X1.out.2)
  have B2 := Aside0.mk (below_then B1.out B1.out.size hX)
  have L2 := Aside0.mk (show w2.heap.size < W2.heap.size by rw [← eW2]; simp)
  have L12 := Aside0.mk (Nat.lt_of_lt_of_le L1.out hX.size)
  clear hB hB2 hX hp2
  go_wp2_with fail
  clear eW2
  obtain ⟨b2, eb2⟩ : ∃ b2, w2.heap.size = b2 := ⟨_, rfl⟩
  rw [eb2] at l0 l1 l2 L2 ⊢
  clear eb2
  refine (HI.out _ B2.out).mono ?_
  rintro en w3 ⟨A3, c3, rfl, hR, hB⟩
  obtain ⟨W3, eW3, hp3, hB3⟩ : ∃ W3, w3.alloc (.cells #[.int .u8 tg, .int .u8 98, .bool true, .string nm, .int .u32 tm, .slice A3 u.length c3, .int .i64 0, .bool ey, .int .i64 0] 87) = W3 ∧ W3.heap[w3.heap.size]? = some (.cells #[.int .u8 tg, .int .u8 98, .bool true, .string nm, .int .u32 tm, .slice A3 u.length c3, .int .i64 0, .bool ey, .int .i64 0] 87 (0, 0)) ∧ Below w3.heap.size w3 W3 := ⟨_, rfl, heap_alloc_new _ _, below_alloc (Below.refl _ _) _⟩
  have g0 : W3.cell? ⟨w3.heap.size, 0, none⟩ = some (.int .u8 tg) := (cell_of_row _ _ 0 _ _ _ hp3).trans rfl
  have g1 : W3.cell? ⟨w3.heap.size, 1, none⟩ = some (.int .u8 98) := (cell_of_row _ _ 1 _ _ _ hp3).trans rfl
  have g2 : W3.cell? ⟨w3.heap.size, 2, none⟩ = some (.bool true) := (cell_of_row _ _ 2 _ _ _ hp3).trans rfl
  have g3 : W3.cell? ⟨w3.heap.size, 3, none⟩ = some (.string nm) := (cell_of_row _ _ 3 _ _ _ hp3).trans rfl
  have g4 : W3.cell? ⟨w3.heap.size, 4, none⟩ = some (.int .u32 tm) := (cell_of_row _ _ 4 _ _ _ hp3).trans rfl
  have g5 : W3.cell? ⟨w3.heap.size, 5, none⟩ = some (.slice A3 u.length c3) := (cell_of_row _ _ 5 _ _ _ hp3).trans rfl
  have g6 : W3.cell? ⟨w3.heap.size, 6, none⟩ = some (.int .i64 0) := (cell_of_row _ _ 6 _ _ _ hp3).trans rfl
  have g7 : W3.cell? ⟨w3.heap.size, 7, none⟩ = some (.bool ey) := (cell_of_row _ _ 7 _ _ _ hp3).trans rfl
  have g8 : W3.cell? ⟨w3.heap.size, 8, none⟩ = some (.int .i64 0) := (cell_of_row _ _ 8 _ _ _ hp3).trans rfl
  have fz := blk_frozen hp3 8
  have hX := below_then hB hB.size hB3
  have HP3 := Aside0.mk hp3
  have HX := Aside0.mk hX
  have GE3 := Aside0.mk hB.size
  have PL := Aside0.mk (And.intro p1 l1)
  replace p0 := (hX.cell (p := ⟨b1, 0, none⟩) L12.out).trans p0
  replace p1 := (hX.cell (p := ⟨b1, 1, none⟩) L12.out).trans p1
  replace l0 := (hX.cell (p := ⟨b2, 0, none⟩) L2.out).trans l0
  replace l1 := (hX.cell (p := ⟨b2, 1, none⟩) L2.out).trans l1
  replace l2 := (hX.cell (p := ⟨b2, 2, none⟩) L2.out).trans l2
  obtain ⟨A3', c3', e3, hc3, hC3⟩ := r8_reads hR
  injection e3 with e3a e3b e3c
  subst e3a e3c
  have Y3 := Aside0.mk hc3
  have CF := Aside0.mk (fun (v : Value) => (Kd.C_below hC3 (hB3.setCell (p := ⟨w3.heap.size, 8, none⟩) (Nat.le_refl _) v) : C8 (W3.setCell ⟨w3.heap.size, 8, none⟩ v) A3 u))
  have X3 := Aside0.mk (And.intro (Kd.C_below X2.out.1 hX) X2.out.2)
  have B3 := Aside0.mk (below_then B2.out B2.out.size hX)
  clear hR hB hB3 hX hp3 hC3 hc3 e3b
  have wt : IntKind.i64.wrap tg = tg := IntWalk.i64_in _ (by omega)
  go_wp2_with fail
  clear eW3
  clear g0 g1 g2 g3 g4 g5 g6 g7 g8 fz p0 p1 l0 l1 l2
  obtain ⟨b3, eb3⟩ : ∃ b3, w3.heap.size = b3 := ⟨_, rfl⟩
  rw [eb3] at HP3 GE3 CF ⊢
  clear eb3
  obtain ⟨W4, eW4⟩ : ∃ W4, W3.setCell ⟨b3, 8, none⟩ (.int .i64 0) = W4 := ⟨_, rfl⟩
  have hp4 : W4.heap[b3]? = some (.cells #[.int .u8 tg, .int .u8 98, .bool true, .string nm, .int .u32 tm, .slice A3 u.length c3, .int .i64 0, .bool ey, .int .i64 0] 87 (0, 0)) := by rw [← eW4]; exact blk_put (cs := #[.int .u8 tg, .int .u8 98, .bool true, .string nm, .int .u32 tm, .slice A3 u.length c3, .int .i64 0, .bool ey, .int .i64 0]) HP3.out 8 _ rfl
  have hX4 : Below W2.heap.size W2 W4 := by rw [← eW4]; exact HX.out.setCell GE3.out _
  rw [eW4]
  have g5 : W4.cell? ⟨b3, 5, none⟩ = some (.slice A3 u.length c3) := (cell_of_row _ _ 5 _ _ _ hp4).trans rfl
  have g6 : W4.cell? ⟨b3, 6, none⟩ = some (.int .i64 0) := (cell_of_row _ _ 6 _ _ _ hp4).trans rfl
  have g7 : W4.cell? ⟨b3, 7, none⟩ = some (.bool ey) := (cell_of_row _ _ 7 _ _ _ hp4).trans rfl
  have p1 : W4.cell? ⟨b1, 1, none⟩ = some (.slice A1 bd.length c1) := (hX4.cell (p := ⟨b1, 1, none⟩) L12.out).trans PL.out.1
  have l1 : W4.cell? ⟨b2, 1, none⟩ = some (.string nm) := (hX4.cell (p := ⟨b2, 1, none⟩) L2.out).trans PL.out.2
  have C3 : Aside0 (C8 W4 A3 u) := Aside0.mk (by rw [← eW4]; exact CF.out _)
  have C1 := Aside0.mk (Kd.C_below X2.out.1 hX4)
  have B4 := Aside0.mk (below_then B2.out B2.out.size hX4)
  clear eW4
  obtain ⟨A5, cut, hcd, _⟩ := drop8 (P := Tryd.prog) Tryd.underlying22 infoB A1 c1 bd a DU.out.1 X2.out.2 rfl
  have H5 := Aside0.mk (hcd _ C1.out)
  clear hcd
  have LU := Aside0.mk (show bd.length - a = u.length by rw [← DU.out.2, List.length_drop])
  rw [LU.out] at cut
  have ai : ((a : Nat) : Int) ≤ (bd.length : Int) := by have := DU.out.1; omega
  have SC := Aside0.mk (fun (W' : World) (h : Below W4.heap.size W4 W') => same_calls (w := W') (A := A3) (B := A5) (c := c3) (d := c1 - a) (n := u.length) (m := u.length) (Kd.C_below C3.out h) (Kd.C_below H5.out h) DU.out.2.symm rfl (show u.length = (bd.drop a).length by rw [DU.out.2]))
  have hS : W4.cell? ⟨b3, 6, none⟩ = some (.int .i64 0) ∧ W4.cell? ⟨b3, 5, none⟩ = some (.slice A3 u.length c3) ∧ W4.cell? ⟨b1, 1, none⟩ = some (.slice A1 bd.length c1) ∧ W4.cell? ⟨b3, 7, none⟩ = some (.bool ey) ∧ W4.cell? ⟨b2, 1, none⟩ = some (.string nm) := ⟨g6, g5, p1, g7, l1⟩
  have lt1 := World.block_lt_of_cell? W4 _ p1
  have lt2 := World.block_lt_of_cell? W4 _ l1
  have lt3 := World.block_lt_of_cell? W4 _ g6
  have EYO := EY.out
  go_region_held3 (fun w' => w'.cell? ⟨b3, 6, none⟩ = some (.int .i64 0) ∧ w'.cell? ⟨b3, 5, none⟩ = some (.slice A3 u.length c3) ∧ w'.cell? ⟨b1, 1, none⟩ = some (.slice A1 bd.length c1) ∧ w'.cell? ⟨b3, 7, none⟩ = some (.bool ey) ∧ w'.cell? ⟨b2, 1, none⟩ = some (.string nm)) (first | exact hS | assumption | go_keep) ((go_at_call 22; go_loud ((with_reducible refine (SC.out _ (below_drew (Below.refl _ _))).mono ?_); rintro en w5 ⟨rfl, hB⟩; have hX := below_then (below_drew (Below.refl _ W4)) (Nat.le_refl _) hB; have hS5 : w5.cell? ⟨b3, 6, none⟩ = some (.int .i64 0) ∧ w5.cell? ⟨b3, 5, none⟩ = some (.slice A3 u.length c3) ∧ w5.cell? ⟨b1, 1, none⟩ = some (.slice A1 bd.length c1) ∧ w5.cell? ⟨b3, 7, none⟩ = some (.bool ey) ∧ w5.cell? ⟨b2, 1, none⟩ = some (.string nm) := ⟨(hX.cell (p := ⟨b3, 6, none⟩) lt3).trans g6, (hX.cell (p := ⟨b3, 5, none⟩) lt3).trans g5, (hX.cell (p := ⟨b1, 1, none⟩) lt1).trans p1, (hX.cell (p := ⟨b3, 7, none⟩) lt3).trans g7, (hX.cell (p := ⟨b2, 1, none⟩) lt2).trans l1⟩; have B5 := Aside0.mk (below_then B4.out B4.out.size hX); clear hB hX)))
  go_wp2_with fail
  go_ret
  exact ⟨rfl, B5.out⟩
set_option maxHeartbeats 1600000 in
set_option maxRecDepth 100000 in
theorem rl_fine116 {w : World} {A : Option Addr} {c n : Nat} {l : List Int} {split : Int} (hr : C8 w A l) (hc : l.length ≤ c) (hn : n = l.length) (hz : ¬ 2147483647 < n) (hy : ¬ 1048576 < n) {k : Nat} {tg sz : Int} {bd u : List Int} (hs : PFnMarker.spec_ReadPacket.f k l = some (tg, bd, sz, 0)) (ht : 0 ≤ tg ∧ tg ≤ 63) {a : Nat} {nm : ByteArray} {tm : Int} {ey : Bool} (hey : (nm.toList == [95, 67, 79, 78, 83, 79, 76, 69]) = ey) (hSL : ∀ (A1 : Option Addr) (c1 : Nat) (W : World), C8 W A1 bd → bd.length ≤ c1 → Calls Tryd.prog 41 #[.slice A1 bd.length c1] W fun en w' => en = .returned (.tuple #[.agg #[.int .i64 116, .string nm, .int .u32 tm], .int .i64 (a : Int), .int .i64 0]) ∧ Below W.heap.size W w') (hI : ∀ W : World, Below w.heap.size w W → Calls Tryd.prog 42 #[.slice A n c, .int .i64 split] W fun en w' => ∃ A3 c3, en = .returned (.agg #[.int .u8 tg, .int .u8 116, .bool false, .string nm, .int .u32 tm, .slice A3 u.length c3, .int .i64 0, .bool ey, .int .i64 0]) ∧ R8 5 w' W.heap.size (.slice A3 u.length c3) u ∧ Below W.heap.size W w') (ha : a ≤ bd.length) (hdu : bd.drop a = u) : Calls Tryd.prog 12 #[.slice A n c, .int .i64 split] w fun e w' => e = .returned (.bool true) ∧ Below w.heap.size w w' := by
  have HS := Aside0.mk hs
  have HL := Aside0.mk hSL
  have HI := Aside0.mk hI
  have EY := Aside0.mk hey
  have DU := Aside0.mk (And.intro ha hdu)
  clear hs hSL hI hey ha hdu
  have HR := Aside0.mk hr
  have HC := Aside0.mk hc
  have HN := Aside0.mk hn
  clear hr hc hn
  go_enter Tryd.func12, Tryd.ntmps12
  go_wp2_with fail
  rw [HN.out]
  refine (PFnMarker.spec_ReadPacket.calls k A c l tg bd sz 0 w HR.out HC.out HS.out).mono ?_
  rw [← HN.out]
  rintro en w1 ⟨v1, rfl, hR, hB⟩
  obtain ⟨A1, c1, e1, hc1, hC1⟩ := r8_reads hR
  subst e1
  obtain ⟨W1, eW1, hp1, hB1⟩ : ∃ W1, w1.alloc (.cells #[.int .i64 tg, .slice A1 bd.length c1] 60) = W1 ∧ W1.heap[w1.heap.size]? = some (.cells #[.int .i64 tg, .slice A1 bd.length c1] 60 (0, 0)) ∧ Below w1.heap.size w1 W1 := ⟨_, rfl, heap_alloc_new _ _, below_alloc (Below.refl _ _) _⟩
  have p0 : W1.cell? ⟨w1.heap.size, 0, none⟩ = some (.int .i64 tg) := (cell_of_row _ _ 0 _ _ _ hp1).trans rfl
  have p1 : W1.cell? ⟨w1.heap.size, 1, none⟩ = some (.slice A1 bd.length c1) := (cell_of_row _ _ 1 _ _ _ hp1).trans rfl
  have X1 := Aside0.mk (And.intro (Kd.C_below hC1 hB1) hc1)
  have B1 := Aside0.mk (below_then hB hB.size hB1)
  have PP1 := Aside0.mk hp1
  have L1 := Aside0.mk (show w1.heap.size < W1.heap.size by rw [← eW1]; simp)
  clear hR hB hC1 hc1 hp1 hB1
  go_wp2_with fail
  clear eW1
  obtain ⟨b1, eb1⟩ : ∃ b1, w1.heap.size = b1 := ⟨_, rfl⟩
  rw [eb1] at p0 p1 PP1 L1 ⊢
  clear eb1
  refine (HL.out A1 c1 W1 X1.out.1 X1.out.2).mono ?_
  rintro en w2 ⟨rfl, hB⟩
  obtain ⟨W2, eW2, hp2, hB2⟩ : ∃ W2, w2.alloc (.cells #[.int .i64 116, .string nm, .int .u32 tm] 83) = W2 ∧ W2.heap[w2.heap.size]? = some (.cells #[.int .i64 116, .string nm, .int .u32 tm] 83 (0, 0)) ∧ Below w2.heap.size w2 W2 := ⟨_, rfl, heap_alloc_new _ _, below_alloc (Below.refl _ _) _⟩
  have l0 : W2.cell? ⟨w2.heap.size, 0, none⟩ = some (.int .i64 116) := (cell_of_row _ _ 0 _ _ _ hp2).trans rfl
  have l1 : W2.cell? ⟨w2.heap.size, 1, none⟩ = some (.string nm) := (cell_of_row _ _ 1 _ _ _ hp2).trans rfl
  have l2 : W2.cell? ⟨w2.heap.size, 2, none⟩ = some (.int .u32 tm) := (cell_of_row _ _ 2 _ _ _ hp2).trans rfl
  have hX := below_then hB hB.size hB2
  replace p0 := (hX.cell (p := ⟨b1, 0, none⟩) L1.out).trans p0
  replace p1 := (hX.cell (p := ⟨b1, 1, none⟩) L1.out).trans p1
  have X2 := Aside0.mk (And.intro (Kd.C_below X1.out.1 hX) X1.out.2)
  have B2 := Aside0.mk (below_then B1.out B1.out.size hX)
  have L2 := Aside0.mk (show w2.heap.size < W2.heap.size by rw [← eW2]; simp)
  have L12 := Aside0.mk (Nat.lt_of_lt_of_le L1.out hX.size)
  clear hB hB2 hX hp2
  go_wp2_with fail
  clear eW2
  obtain ⟨b2, eb2⟩ : ∃ b2, w2.heap.size = b2 := ⟨_, rfl⟩
  rw [eb2] at l0 l1 l2 L2 ⊢
  clear eb2
  refine (HI.out _ B2.out).mono ?_
  rintro en w3 ⟨A3, c3, rfl, hR, hB⟩
  obtain ⟨W3, eW3, hp3, hB3⟩ : ∃ W3, w3.alloc (.cells #[.int .u8 tg, .int .u8 116, .bool false, .string nm, .int .u32 tm, .slice A3 u.length c3, .int .i64 0, .bool ey, .int .i64 0] 87) = W3 ∧ W3.heap[w3.heap.size]? = some (.cells #[.int .u8 tg, .int .u8 116, .bool false, .string nm, .int .u32 tm, .slice A3 u.length c3, .int .i64 0, .bool ey, .int .i64 0] 87 (0, 0)) ∧ Below w3.heap.size w3 W3 := ⟨_, rfl, heap_alloc_new _ _, below_alloc (Below.refl _ _) _⟩
  have g0 : W3.cell? ⟨w3.heap.size, 0, none⟩ = some (.int .u8 tg) := (cell_of_row _ _ 0 _ _ _ hp3).trans rfl
  have g1 : W3.cell? ⟨w3.heap.size, 1, none⟩ = some (.int .u8 116) := (cell_of_row _ _ 1 _ _ _ hp3).trans rfl
  have g2 : W3.cell? ⟨w3.heap.size, 2, none⟩ = some (.bool false) := (cell_of_row _ _ 2 _ _ _ hp3).trans rfl
  have g3 : W3.cell? ⟨w3.heap.size, 3, none⟩ = some (.string nm) := (cell_of_row _ _ 3 _ _ _ hp3).trans rfl
  have g4 : W3.cell? ⟨w3.heap.size, 4, none⟩ = some (.int .u32 tm) := (cell_of_row _ _ 4 _ _ _ hp3).trans rfl
  have g5 : W3.cell? ⟨w3.heap.size, 5, none⟩ = some (.slice A3 u.length c3) := (cell_of_row _ _ 5 _ _ _ hp3).trans rfl
  have g6 : W3.cell? ⟨w3.heap.size, 6, none⟩ = some (.int .i64 0) := (cell_of_row _ _ 6 _ _ _ hp3).trans rfl
  have g7 : W3.cell? ⟨w3.heap.size, 7, none⟩ = some (.bool ey) := (cell_of_row _ _ 7 _ _ _ hp3).trans rfl
  have g8 : W3.cell? ⟨w3.heap.size, 8, none⟩ = some (.int .i64 0) := (cell_of_row _ _ 8 _ _ _ hp3).trans rfl
  have fz := blk_frozen hp3 8
  have hX := below_then hB hB.size hB3
  have HP3 := Aside0.mk hp3
  have HX := Aside0.mk hX
  have GE3 := Aside0.mk hB.size
  have PL := Aside0.mk (And.intro p1 l1)
  replace p0 := (hX.cell (p := ⟨b1, 0, none⟩) L12.out).trans p0
  replace p1 := (hX.cell (p := ⟨b1, 1, none⟩) L12.out).trans p1
  replace l0 := (hX.cell (p := ⟨b2, 0, none⟩) L2.out).trans l0
  replace l1 := (hX.cell (p := ⟨b2, 1, none⟩) L2.out).trans l1
  replace l2 := (hX.cell (p := ⟨b2, 2, none⟩) L2.out).trans l2
  obtain ⟨A3', c3', e3, hc3, hC3⟩ := r8_reads hR
  injection e3 with e3a e3b e3c
  subst e3a e3c
  have Y3 := Aside0.mk hc3
  have CF := Aside0.mk (fun (v : Value) => (Kd.C_below hC3 (hB3.setCell (p := ⟨w3.heap.size, 8, none⟩) (Nat.le_refl _) v) : C8 (W3.setCell ⟨w3.heap.size, 8, none⟩ v) A3 u))
  have X3 := Aside0.mk (And.intro (Kd.C_below X2.out.1 hX) X2.out.2)
  have B3 := Aside0.mk (below_then B2.out B2.out.size hX)
  clear hR hB hB3 hX hp3 hC3 hc3 e3b
  have wt : IntKind.i64.wrap tg = tg := IntWalk.i64_in _ (by omega)
  go_wp2_with fail
  clear eW3
  clear g0 g1 g2 g3 g4 g5 g6 g7 g8 fz p0 p1 l0 l1 l2
  obtain ⟨b3, eb3⟩ : ∃ b3, w3.heap.size = b3 := ⟨_, rfl⟩
  rw [eb3] at HP3 GE3 CF ⊢
  clear eb3
  obtain ⟨W4, eW4⟩ : ∃ W4, W3.setCell ⟨b3, 8, none⟩ (.int .i64 0) = W4 := ⟨_, rfl⟩
  have hp4 : W4.heap[b3]? = some (.cells #[.int .u8 tg, .int .u8 116, .bool false, .string nm, .int .u32 tm, .slice A3 u.length c3, .int .i64 0, .bool ey, .int .i64 0] 87 (0, 0)) := by rw [← eW4]; exact blk_put (cs := #[.int .u8 tg, .int .u8 116, .bool false, .string nm, .int .u32 tm, .slice A3 u.length c3, .int .i64 0, .bool ey, .int .i64 0]) HP3.out 8 _ rfl
  have hX4 : Below W2.heap.size W2 W4 := by rw [← eW4]; exact HX.out.setCell GE3.out _
  rw [eW4]
  have g5 : W4.cell? ⟨b3, 5, none⟩ = some (.slice A3 u.length c3) := (cell_of_row _ _ 5 _ _ _ hp4).trans rfl
  have g6 : W4.cell? ⟨b3, 6, none⟩ = some (.int .i64 0) := (cell_of_row _ _ 6 _ _ _ hp4).trans rfl
  have g7 : W4.cell? ⟨b3, 7, none⟩ = some (.bool ey) := (cell_of_row _ _ 7 _ _ _ hp4).trans rfl
  have p1 : W4.cell? ⟨b1, 1, none⟩ = some (.slice A1 bd.length c1) := (hX4.cell (p := ⟨b1, 1, none⟩) L12.out).trans PL.out.1
  have l1 : W4.cell? ⟨b2, 1, none⟩ = some (.string nm) := (hX4.cell (p := ⟨b2, 1, none⟩) L2.out).trans PL.out.2
  have C3 : Aside0 (C8 W4 A3 u) := Aside0.mk (by rw [← eW4]; exact CF.out _)
  have C1 := Aside0.mk (Kd.C_below X2.out.1 hX4)
  have B4 := Aside0.mk (below_then B2.out B2.out.size hX4)
  clear eW4
  obtain ⟨A5, cut, hcd, _⟩ := drop8 (P := Tryd.prog) Tryd.underlying22 infoB A1 c1 bd a DU.out.1 X2.out.2 rfl
  have H5 := Aside0.mk (hcd _ C1.out)
  clear hcd
  have LU := Aside0.mk (show bd.length - a = u.length by rw [← DU.out.2, List.length_drop])
  rw [LU.out] at cut
  have ai : ((a : Nat) : Int) ≤ (bd.length : Int) := by have := DU.out.1; omega
  have SC := Aside0.mk (fun (W' : World) (h : Below W4.heap.size W4 W') => same_calls (w := W') (A := A3) (B := A5) (c := c3) (d := c1 - a) (n := u.length) (m := u.length) (Kd.C_below C3.out h) (Kd.C_below H5.out h) DU.out.2.symm rfl (show u.length = (bd.drop a).length by rw [DU.out.2]))
  have hS : W4.cell? ⟨b3, 6, none⟩ = some (.int .i64 0) ∧ W4.cell? ⟨b3, 5, none⟩ = some (.slice A3 u.length c3) ∧ W4.cell? ⟨b1, 1, none⟩ = some (.slice A1 bd.length c1) ∧ W4.cell? ⟨b3, 7, none⟩ = some (.bool ey) ∧ W4.cell? ⟨b2, 1, none⟩ = some (.string nm) := ⟨g6, g5, p1, g7, l1⟩
  have lt1 := World.block_lt_of_cell? W4 _ p1
  have lt2 := World.block_lt_of_cell? W4 _ l1
  have lt3 := World.block_lt_of_cell? W4 _ g6
  have EYO := EY.out
  go_region_held3 (fun w' => w'.cell? ⟨b3, 6, none⟩ = some (.int .i64 0) ∧ w'.cell? ⟨b3, 5, none⟩ = some (.slice A3 u.length c3) ∧ w'.cell? ⟨b1, 1, none⟩ = some (.slice A1 bd.length c1) ∧ w'.cell? ⟨b3, 7, none⟩ = some (.bool ey) ∧ w'.cell? ⟨b2, 1, none⟩ = some (.string nm)) (first | exact hS | assumption | go_keep) ((go_at_call 22; go_loud ((with_reducible refine (SC.out _ (below_drew (Below.refl _ _))).mono ?_); rintro en w5 ⟨rfl, hB⟩; have hX := below_then (below_drew (Below.refl _ W4)) (Nat.le_refl _) hB; have hS5 : w5.cell? ⟨b3, 6, none⟩ = some (.int .i64 0) ∧ w5.cell? ⟨b3, 5, none⟩ = some (.slice A3 u.length c3) ∧ w5.cell? ⟨b1, 1, none⟩ = some (.slice A1 bd.length c1) ∧ w5.cell? ⟨b3, 7, none⟩ = some (.bool ey) ∧ w5.cell? ⟨b2, 1, none⟩ = some (.string nm) := ⟨(hX.cell (p := ⟨b3, 6, none⟩) lt3).trans g6, (hX.cell (p := ⟨b3, 5, none⟩) lt3).trans g5, (hX.cell (p := ⟨b1, 1, none⟩) lt1).trans p1, (hX.cell (p := ⟨b3, 7, none⟩) lt3).trans g7, (hX.cell (p := ⟨b2, 1, none⟩) lt2).trans l1⟩; have B5 := Aside0.mk (below_then B4.out B4.out.size hX); clear hB hX)))
  go_wp2_with fail
  go_ret
  exact ⟨rfl, B5.out⟩
set_option maxHeartbeats 1600000 in
set_option maxRecDepth 100000 in
theorem rl_fine117 {w : World} {A : Option Addr} {c n : Nat} {l : List Int} {split : Int} (hr : C8 w A l) (hc : l.length ≤ c) (hn : n = l.length) (hz : ¬ 2147483647 < n) (hy : ¬ 1048576 < n) {k : Nat} {tg sz : Int} {bd u : List Int} (hs : PFnMarker.spec_ReadPacket.f k l = some (tg, bd, sz, 0)) (ht : 0 ≤ tg ∧ tg ≤ 63) {a : Nat} {nm : ByteArray} {tm : Int} {ey : Bool} (hey : (nm.toList == [95, 67, 79, 78, 83, 79, 76, 69]) = ey) (hSL : ∀ (A1 : Option Addr) (c1 : Nat) (W : World), C8 W A1 bd → bd.length ≤ c1 → Calls Tryd.prog 41 #[.slice A1 bd.length c1] W fun en w' => en = .returned (.tuple #[.agg #[.int .i64 117, .string nm, .int .u32 tm], .int .i64 (a : Int), .int .i64 0]) ∧ Below W.heap.size W w') (hI : ∀ W : World, Below w.heap.size w W → Calls Tryd.prog 42 #[.slice A n c, .int .i64 split] W fun en w' => ∃ A3 c3, en = .returned (.agg #[.int .u8 tg, .int .u8 117, .bool false, .string nm, .int .u32 tm, .slice A3 u.length c3, .int .i64 0, .bool ey, .int .i64 0]) ∧ R8 5 w' W.heap.size (.slice A3 u.length c3) u ∧ Below W.heap.size W w') (ha : a ≤ bd.length) (hdu : bd.drop a = u) : Calls Tryd.prog 12 #[.slice A n c, .int .i64 split] w fun e w' => e = .returned (.bool true) ∧ Below w.heap.size w w' := by
  have HS := Aside0.mk hs
  have HL := Aside0.mk hSL
  have HI := Aside0.mk hI
  have EY := Aside0.mk hey
  have DU := Aside0.mk (And.intro ha hdu)
  clear hs hSL hI hey ha hdu
  have HR := Aside0.mk hr
  have HC := Aside0.mk hc
  have HN := Aside0.mk hn
  clear hr hc hn
  go_enter Tryd.func12, Tryd.ntmps12
  go_wp2_with fail
  rw [HN.out]
  refine (PFnMarker.spec_ReadPacket.calls k A c l tg bd sz 0 w HR.out HC.out HS.out).mono ?_
  rw [← HN.out]
  rintro en w1 ⟨v1, rfl, hR, hB⟩
  obtain ⟨A1, c1, e1, hc1, hC1⟩ := r8_reads hR
  subst e1
  obtain ⟨W1, eW1, hp1, hB1⟩ : ∃ W1, w1.alloc (.cells #[.int .i64 tg, .slice A1 bd.length c1] 60) = W1 ∧ W1.heap[w1.heap.size]? = some (.cells #[.int .i64 tg, .slice A1 bd.length c1] 60 (0, 0)) ∧ Below w1.heap.size w1 W1 := ⟨_, rfl, heap_alloc_new _ _, below_alloc (Below.refl _ _) _⟩
  have p0 : W1.cell? ⟨w1.heap.size, 0, none⟩ = some (.int .i64 tg) := (cell_of_row _ _ 0 _ _ _ hp1).trans rfl
  have p1 : W1.cell? ⟨w1.heap.size, 1, none⟩ = some (.slice A1 bd.length c1) := (cell_of_row _ _ 1 _ _ _ hp1).trans rfl
  have X1 := Aside0.mk (And.intro (Kd.C_below hC1 hB1) hc1)
  have B1 := Aside0.mk (below_then hB hB.size hB1)
  have PP1 := Aside0.mk hp1
  have L1 := Aside0.mk (show w1.heap.size < W1.heap.size by rw [← eW1]; simp)
  clear hR hB hC1 hc1 hp1 hB1
  go_wp2_with fail
  clear eW1
  obtain ⟨b1, eb1⟩ : ∃ b1, w1.heap.size = b1 := ⟨_, rfl⟩
  rw [eb1] at p0 p1 PP1 L1 ⊢
  clear eb1
  refine (HL.out A1 c1 W1 X1.out.1 X1.out.2).mono ?_
  rintro en w2 ⟨rfl, hB⟩
  obtain ⟨W2, eW2, hp2, hB2⟩ : ∃ W2, w2.alloc (.cells #[.int .i64 117, .string nm, .int .u32 tm] 83) = W2 ∧ W2.heap[w2.heap.size]? = some (.cells #[.int .i64 117, .string nm, .int .u32 tm] 83 (0, 0)) ∧ Below w2.heap.size w2 W2 := ⟨_, rfl, heap_alloc_new _ _, below_alloc (Below.refl _ _) _⟩
  have l0 : W2.cell? ⟨w2.heap.size, 0, none⟩ = some (.int .i64 117) := (cell_of_row _ _ 0 _ _ _ hp2).trans rfl
  have l1 : W2.cell? ⟨w2.heap.size, 1, none⟩ = some (.string nm) := (cell_of_row _ _ 1 _ _ _ hp2).trans rfl
  have l2 : W2.cell? ⟨w2.heap.size, 2, none⟩ = some (.int .u32 tm) := (cell_of_row _ _ 2 _ _ _ hp2).trans rfl
  have hX := below_then hB hB.size hB2
  replace p0 := (hX.cell (p := ⟨b1, 0, none⟩) L1.out).trans p0
  replace p1 := (hX.cell (p := ⟨b1, 1, none⟩) L1.out).trans p1
  have X2 := Aside0.mk (And.intro (Kd.C_below X1.out.1 hX) X1.out.2)
  have B2 := Aside0.mk (below_then B1.out B1.out.size hX)
  have L2 := Aside0.mk (show w2.heap.size < W2.heap.size by rw [← eW2]; simp)
  have L12 := Aside0.mk (Nat.lt_of_lt_of_le L1.out hX.size)
  clear hB hB2 hX hp2
  go_wp2_with fail
  clear eW2
  obtain ⟨b2, eb2⟩ : ∃ b2, w2.heap.size = b2 := ⟨_, rfl⟩
  rw [eb2] at l0 l1 l2 L2 ⊢
  clear eb2
  refine (HI.out _ B2.out).mono ?_
  rintro en w3 ⟨A3, c3, rfl, hR, hB⟩
  obtain ⟨W3, eW3, hp3, hB3⟩ : ∃ W3, w3.alloc (.cells #[.int .u8 tg, .int .u8 117, .bool false, .string nm, .int .u32 tm, .slice A3 u.length c3, .int .i64 0, .bool ey, .int .i64 0] 87) = W3 ∧ W3.heap[w3.heap.size]? = some (.cells #[.int .u8 tg, .int .u8 117, .bool false, .string nm, .int .u32 tm, .slice A3 u.length c3, .int .i64 0, .bool ey, .int .i64 0] 87 (0, 0)) ∧ Below w3.heap.size w3 W3 := ⟨_, rfl, heap_alloc_new _ _, below_alloc (Below.refl _ _) _⟩
  have g0 : W3.cell? ⟨w3.heap.size, 0, none⟩ = some (.int .u8 tg) := (cell_of_row _ _ 0 _ _ _ hp3).trans rfl
  have g1 : W3.cell? ⟨w3.heap.size, 1, none⟩ = some (.int .u8 117) := (cell_of_row _ _ 1 _ _ _ hp3).trans rfl
  have g2 : W3.cell? ⟨w3.heap.size, 2, none⟩ = some (.bool false) := (cell_of_row _ _ 2 _ _ _ hp3).trans rfl
  have g3 : W3.cell? ⟨w3.heap.size, 3, none⟩ = some (.string nm) := (cell_of_row _ _ 3 _ _ _ hp3).trans rfl
  have g4 : W3.cell? ⟨w3.heap.size, 4, none⟩ = some (.int .u32 tm) := (cell_of_row _ _ 4 _ _ _ hp3).trans rfl
  have g5 : W3.cell? ⟨w3.heap.size, 5, none⟩ = some (.slice A3 u.length c3) := (cell_of_row _ _ 5 _ _ _ hp3).trans rfl
  have g6 : W3.cell? ⟨w3.heap.size, 6, none⟩ = some (.int .i64 0) := (cell_of_row _ _ 6 _ _ _ hp3).trans rfl
  have g7 : W3.cell? ⟨w3.heap.size, 7, none⟩ = some (.bool ey) := (cell_of_row _ _ 7 _ _ _ hp3).trans rfl
  have g8 : W3.cell? ⟨w3.heap.size, 8, none⟩ = some (.int .i64 0) := (cell_of_row _ _ 8 _ _ _ hp3).trans rfl
  have fz := blk_frozen hp3 8
  have hX := below_then hB hB.size hB3
  have HP3 := Aside0.mk hp3
  have HX := Aside0.mk hX
  have GE3 := Aside0.mk hB.size
  have PL := Aside0.mk (And.intro p1 l1)
  replace p0 := (hX.cell (p := ⟨b1, 0, none⟩) L12.out).trans p0
  replace p1 := (hX.cell (p := ⟨b1, 1, none⟩) L12.out).trans p1
  replace l0 := (hX.cell (p := ⟨b2, 0, none⟩) L2.out).trans l0
  replace l1 := (hX.cell (p := ⟨b2, 1, none⟩) L2.out).trans l1
  replace l2 := (hX.cell (p := ⟨b2, 2, none⟩) L2.out).trans l2
  obtain ⟨A3', c3', e3, hc3, hC3⟩ := r8_reads hR
  injection e3 with e3a e3b e3c
  subst e3a e3c
  have Y3 := Aside0.mk hc3
  have CF := Aside0.mk (fun (v : Value) => (Kd.C_below hC3 (hB3.setCell (p := ⟨w3.heap.size, 8, none⟩) (Nat.le_refl _) v) : C8 (W3.setCell ⟨w3.heap.size, 8, none⟩ v) A3 u))
  have X3 := Aside0.mk (And.intro (Kd.C_below X2.out.1 hX) X2.out.2)
  have B3 := Aside0.mk (below_then B2.out B2.out.size hX)
  clear hR hB hB3 hX hp3 hC3 hc3 e3b
  have wt : IntKind.i64.wrap tg = tg := IntWalk.i64_in _ (by omega)
  go_wp2_with fail
  clear eW3
  clear g0 g1 g2 g3 g4 g5 g6 g7 g8 fz p0 p1 l0 l1 l2
  obtain ⟨b3, eb3⟩ : ∃ b3, w3.heap.size = b3 := ⟨_, rfl⟩
  rw [eb3] at HP3 GE3 CF ⊢
  clear eb3
  obtain ⟨W4, eW4⟩ : ∃ W4, W3.setCell ⟨b3, 8, none⟩ (.int .i64 0) = W4 := ⟨_, rfl⟩
  have hp4 : W4.heap[b3]? = some (.cells #[.int .u8 tg, .int .u8 117, .bool false, .string nm, .int .u32 tm, .slice A3 u.length c3, .int .i64 0, .bool ey, .int .i64 0] 87 (0, 0)) := by rw [← eW4]; exact blk_put (cs := #[.int .u8 tg, .int .u8 117, .bool false, .string nm, .int .u32 tm, .slice A3 u.length c3, .int .i64 0, .bool ey, .int .i64 0]) HP3.out 8 _ rfl
  have hX4 : Below W2.heap.size W2 W4 := by rw [← eW4]; exact HX.out.setCell GE3.out _
  rw [eW4]
  have g5 : W4.cell? ⟨b3, 5, none⟩ = some (.slice A3 u.length c3) := (cell_of_row _ _ 5 _ _ _ hp4).trans rfl
  have g6 : W4.cell? ⟨b3, 6, none⟩ = some (.int .i64 0) := (cell_of_row _ _ 6 _ _ _ hp4).trans rfl
  have g7 : W4.cell? ⟨b3, 7, none⟩ = some (.bool ey) := (cell_of_row _ _ 7 _ _ _ hp4).trans rfl
  have p1 : W4.cell? ⟨b1, 1, none⟩ = some (.slice A1 bd.length c1) := (hX4.cell (p := ⟨b1, 1, none⟩) L12.out).trans PL.out.1
  have l1 : W4.cell? ⟨b2, 1, none⟩ = some (.string nm) := (hX4.cell (p := ⟨b2, 1, none⟩) L2.out).trans PL.out.2
  have C3 : Aside0 (C8 W4 A3 u) := Aside0.mk (by rw [← eW4]; exact CF.out _)
  have C1 := Aside0.mk (Kd.C_below X2.out.1 hX4)
  have B4 := Aside0.mk (below_then B2.out B2.out.size hX4)
  clear eW4
  obtain ⟨A5, cut, hcd, _⟩ := drop8 (P := Tryd.prog) Tryd.underlying22 infoB A1 c1 bd a DU.out.1 X2.out.2 rfl
  have H5 := Aside0.mk (hcd _ C1.out)
  clear hcd
  have LU := Aside0.mk (show bd.length - a = u.length by rw [← DU.out.2, List.length_drop])
  rw [LU.out] at cut
  have ai : ((a : Nat) : Int) ≤ (bd.length : Int) := by have := DU.out.1; omega
  have SC := Aside0.mk (fun (W' : World) (h : Below W4.heap.size W4 W') => same_calls (w := W') (A := A3) (B := A5) (c := c3) (d := c1 - a) (n := u.length) (m := u.length) (Kd.C_below C3.out h) (Kd.C_below H5.out h) DU.out.2.symm rfl (show u.length = (bd.drop a).length by rw [DU.out.2]))
  have hS : W4.cell? ⟨b3, 6, none⟩ = some (.int .i64 0) ∧ W4.cell? ⟨b3, 5, none⟩ = some (.slice A3 u.length c3) ∧ W4.cell? ⟨b1, 1, none⟩ = some (.slice A1 bd.length c1) ∧ W4.cell? ⟨b3, 7, none⟩ = some (.bool ey) ∧ W4.cell? ⟨b2, 1, none⟩ = some (.string nm) := ⟨g6, g5, p1, g7, l1⟩
  have lt1 := World.block_lt_of_cell? W4 _ p1
  have lt2 := World.block_lt_of_cell? W4 _ l1
  have lt3 := World.block_lt_of_cell? W4 _ g6
  have EYO := EY.out
  go_region_held3 (fun w' => w'.cell? ⟨b3, 6, none⟩ = some (.int .i64 0) ∧ w'.cell? ⟨b3, 5, none⟩ = some (.slice A3 u.length c3) ∧ w'.cell? ⟨b1, 1, none⟩ = some (.slice A1 bd.length c1) ∧ w'.cell? ⟨b3, 7, none⟩ = some (.bool ey) ∧ w'.cell? ⟨b2, 1, none⟩ = some (.string nm)) (first | exact hS | assumption | go_keep) ((go_at_call 22; go_loud ((with_reducible refine (SC.out _ (below_drew (Below.refl _ _))).mono ?_); rintro en w5 ⟨rfl, hB⟩; have hX := below_then (below_drew (Below.refl _ W4)) (Nat.le_refl _) hB; have hS5 : w5.cell? ⟨b3, 6, none⟩ = some (.int .i64 0) ∧ w5.cell? ⟨b3, 5, none⟩ = some (.slice A3 u.length c3) ∧ w5.cell? ⟨b1, 1, none⟩ = some (.slice A1 bd.length c1) ∧ w5.cell? ⟨b3, 7, none⟩ = some (.bool ey) ∧ w5.cell? ⟨b2, 1, none⟩ = some (.string nm) := ⟨(hX.cell (p := ⟨b3, 6, none⟩) lt3).trans g6, (hX.cell (p := ⟨b3, 5, none⟩) lt3).trans g5, (hX.cell (p := ⟨b1, 1, none⟩) lt1).trans p1, (hX.cell (p := ⟨b3, 7, none⟩) lt3).trans g7, (hX.cell (p := ⟨b2, 1, none⟩) lt2).trans l1⟩; have B5 := Aside0.mk (below_then B4.out B4.out.size hX); clear hB hX)))
  go_wp2_with fail
  go_ret
  exact ⟨rfl, B5.out⟩
theorem env_b {w W : World} {aE aU : Addr} (h : Env w w.heap.size aE aU) (hB : Below w.heap.size w W) : Env W W.heap.size aE aU := (h.kept (Tch.of_below (S := fun _ => False) hB) (fun _ f => f.elim)).up hB.size
theorem law_rlit (A : Option Addr) (c : Nat) (l : List Int) (split : Int) (w : World) (hr : C8 w A l) (hc : l.length ≤ c) (hm : l.length ≤ maxLen) (hw : ∀ x ∈ l, (Lit.int .u8 x).wf = true) (hs : (Lit.int .i64 split).wf = true) {aE aU : Addr} (hE : Env w w.heap.size aE aU) :
    Calls Tryd.prog 12 #[.slice A l.length c, .int .i64 split] w fun e w' => e = .returned (.bool true) ∧ Below w.heap.size w w' := by
  by_cases hz : 2147483647 < l.length
  · exact rl_big hz
  by_cases hy : 1048576 < l.length
  · exact rl_mid hz hy
  have hb : Bytes l := bytes_of hw
  clear hw hm
  rcases hdr_total hb with ⟨e, hno⟩ | ⟨tg, n, bd, ok, rest, hh⟩
  · obtain ⟨h, h0, hs⟩ := sp_head_no hno hb
    exact rl_pno hr hc rfl hz hy h0 hs
  obtain ⟨k, hk⟩ := sp_head hh hb (by omega)
  cases ok with
  | false =>
    rw [if_neg (by simp)] at hk
    exact rl_pno hr hc rfl hz hy (by decide) hk
  | true =>
    rw [if_pos rfl] at hk
    have lb := hh.le
    rcases lit_total (hh.bytes hb).1 with hl | ⟨f, m, x, y, z, v, t, u, f8, m8, x8, y8, z8, v8, rfl, hmt, hu⟩
    · exact rl_lno hr hc rfl hz hy hk hl (fun W hB => rlit_no (Kd.C_below hr hB) hc hb (env_b hE hB) hh hl)
    · have lu : (t.drop m).length = u.length + 4 := by rw [hu]; rfl
      rw [List.length_drop] at lu
      simp only [List.length_cons] at lb
      have SLx : ∀ (A1 : Option Addr) (c1 : Nat) (W : World), C8 W A1 ((f : Int) :: (m : Int) :: t) → ((f : Int) :: (m : Int) :: t).length ≤ c1 → Calls Tryd.prog 41 #[.slice A1 ((f : Int) :: (m : Int) :: t).length c1] W fun en w' => en = .returned (.tuple #[.agg #[.int .i64 (f : Int), .string (strOfNums (t.take m)), .int .u32 (num4 x y z v : Int)], .int .i64 ((6 + m : Nat) : Int), .int .i64 0]) ∧ Below W.heap.size W w' := fun A1 c1 W h hc1 => (rsl_ok h rfl rfl hc1 f8 m8 x8 y8 z8 v8 hu hmt).mono (fun en w' h => ⟨by rw [h.1]; congr 4, h.2⟩)
      have IMx := fun (W : World) (hB : Below w.heap.size w W) => rlit_ok (split := split) (Kd.C_below hr hB) hc hb (env_b hE hB) hh rfl f8 m8 hmt hu x8 y8 z8 v8 (by omega)
      by_cases q : f = 98
      · subst q
        refine rl_fine98 hr hc rfl hz hy hk hh.tag (a := 6 + m) rfl SLx IMx ?_ ?_
        · simp; omega
        · rw [show 6 + m = m + 4 + 2 by omega]
          show (t.drop (m + 4)) = u
          rw [← List.drop_drop, hu]; rfl
      by_cases q : f = 116
      · subst q
        refine rl_fine116 hr hc rfl hz hy hk hh.tag (a := 6 + m) rfl SLx IMx ?_ ?_
        · simp; omega
        · rw [show 6 + m = m + 4 + 2 by omega]
          show (t.drop (m + 4)) = u
          rw [← List.drop_drop, hu]; rfl
      by_cases q : f = 117
      · subst q
        refine rl_fine117 hr hc rfl hz hy hk hh.tag (a := 6 + m) rfl SLx IMx ?_ ?_
        · simp; omega
        · rw [show 6 + m = m + 4 + 2 by omega]
          show (t.drop (m + 4)) = u
          rw [← List.drop_drop, hu]; rfl
      exact rl_fmt hr hc rfl hz hy hk SLx (by omega) (by omega) (by omega)
end Go.Proofs.YtfhefoaieefnkaaDoor.Rd
