/- impl.ReadOid. -/
import Derived.Test.YtfhefoaieefnkaaDoorOidF
import Derived.Test.YtfhefoaieefnkaaDoorMkr
set_option linter.unusedVariables false
set_option linter.unusedSimpArgs false
namespace Go.Proofs.YtfhefoaieefnkaaDoor.Rd
open Go.RowKit Go.Proofs.YtfhefoaieefnkaaDoorW.PrintWords Go.Proofs.YtfhefoaieefnkaaDoorW.PrintMore Go.Proofs.YtfhefoaieefnkaaDoor.Kit

set_option maxRecDepth 100000 in
theorem end_unsup {w : World} {d : Nat} {aE aU : Addr} (hE : Env w d aE aU) (m : ByteArray) : Calls Tryd.prog 46 #[.iface 169 (.string m)] w fun en w' => en = .returned (.int .i64 4) ∧ w' = w := by
  have e0 := hE.e
  have u0 := hE.u
  have q1 := run_eql_iface_types (P := Tryd.prog) 169 206 (.string m) (.pointer (some aE)) Tryd.underlying98 (by decide) w
  have q2 := run_eql_iface_types (P := Tryd.prog) 169 206 (.string m) (.pointer (some aU)) Tryd.underlying98 (by decide) w
  have q3 : (Instr.typeAssert (.iface 169 (.string m)) 98 168 true).run Tryd.prog w = .ok (.tuple #[.string ByteArray.empty, .bool false]) w := by kernel_rfl
  have q4 : (Instr.typeAssert (.iface 169 (.string m)) 98 169 true).run Tryd.prog w = .ok (.tuple #[.string m, .bool true]) w := by kernel_rfl
  clear hE
  go_enter Tryd.func46, Tryd.ntmps46
  go_wp2_with fail
  go_ret
  exact ⟨rfl, rfl⟩
/-- What ReadOid lays out ahead of reading. -/
structure Laid3 (w W : World) (A : Option Addr) (c : Nat) (l : List Int) (split : Int) (aE aU : Addr) : Prop where
  src : Src W (w.heap.size + 1) (w.heap.size + 2) A c l split
  env : Env W (w.heap.size + 1) aE aU
  o0 : W.cell? ⟨w.heap.size + 1, 0, none⟩ = some (.slice none 0 0)
  oz : W.frozen? ⟨w.heap.size + 1, 0, none⟩ = false
  fb : W.heap[w.heap.size]? = some (.cells #[.slice none 0 0, .int .i64 0, .slice none 0 0, .int .i64 0] 29 (0, 0))
  bel : Below w.heap.size w W
  sz : w.heap.size + 3 = W.heap.size
theorem laid3 {w : World} {A : Option Addr} {c : Nat} {l : List Int} (split : Int) {aE aU : Addr} (hr : C8 w A l) (hc : l.length ≤ c) (hb : Bytes l) (hE : Env w w.heap.size aE aU) : Laid3 w (((w.alloc (.cells #[.slice none 0 0, .int .i64 0, .slice none 0 0, .int .i64 0] 29)).alloc (.cells #[.slice none 0 0] 105)).alloc (.cells #[.slice A l.length c, .int .i64 split] 96)) A c l split aE aU := by
  have hB1 : Below w.heap.size w (w.alloc (.cells #[.slice none 0 0, .int .i64 0, .slice none 0 0, .int .i64 0] 29)) := below_alloc (Below.refl _ _) _
  have hz1 : (w.alloc (.cells #[.slice none 0 0, .int .i64 0, .slice none 0 0, .int .i64 0] 29)).heap.size = w.heap.size + 1 := by simp
  have hB2 : Below (w.heap.size + 1) (w.alloc (.cells #[.slice none 0 0, .int .i64 0, .slice none 0 0, .int .i64 0] 29)) ((w.alloc (.cells #[.slice none 0 0, .int .i64 0, .slice none 0 0, .int .i64 0] 29)).alloc (.cells #[.slice none 0 0] 105)) := hz1 ▸ below_alloc (Below.refl _ _) _
  have hz2 : ((w.alloc (.cells #[.slice none 0 0, .int .i64 0, .slice none 0 0, .int .i64 0] 29)).alloc (.cells #[.slice none 0 0] 105)).heap.size = w.heap.size + 2 := by simp
  have hB12 : Below w.heap.size w ((w.alloc (.cells #[.slice none 0 0, .int .i64 0, .slice none 0 0, .int .i64 0] 29)).alloc (.cells #[.slice none 0 0] 105)) := below_then hB1 hB1.size (hz1.symm ▸ hB2)
  obtain ⟨W3, eW, hS, hB3⟩ := src_new (w := ((w.alloc (.cells #[.slice none 0 0, .int .i64 0, .slice none 0 0, .int .i64 0] 29)).alloc (.cells #[.slice none 0 0] 105))) split (Kd.C_below hr hB12) hc hb
  subst eW
  rw [hz2] at hS
  have hB := below_then hB12 hB12.size hB3
  have hlo : ∀ ad, A = some ad → 0 < l.length → ad.block < w.heap.size + 1 := fun ad e hp => Nat.lt_succ_of_lt (c8_lt hr e hp)
  have hob : ((((w.alloc (.cells #[.slice none 0 0, .int .i64 0, .slice none 0 0, .int .i64 0] 29)).alloc (.cells #[.slice none 0 0] 105)).alloc (.cells #[.slice A l.length c, .int .i64 split] 96))).heap[w.heap.size + 1]? = some (.cells #[.slice none 0 0] 105 (0, 0)) := by
    have q := heap_alloc_new (w.alloc (.cells #[.slice none 0 0, .int .i64 0, .slice none 0 0, .int .i64 0] 29)) (.cells #[.slice none 0 0] 105)
    rw [hz1] at q
    exact (heap_alloc_old _ _ (by omega)).trans q
  exact {
    src := { hS with
      lo := hlo
      ds := by omega }
    env := (hE.below hB).up (Nat.le_succ _)
    o0 := (cell_of_row _ _ 0 _ _ _ hob).trans rfl
    oz := frozen_of_row _ _ 0 _ _ hob
    fb := (heap_alloc_old _ _ (by omega)).trans ((heap_alloc_old _ _ (by omega)).trans (heap_alloc_new _ _))
    bel := hB
    sz := by simp }
set_option maxHeartbeats 1600000 in
set_option maxRecDepth 100000 in
theorem ro_cut {w : World} {A : Option Addr} {c n : Nat} {l : List Int} {split : Int} {aE aU : Addr}  (H : Laid3 w (((w.alloc (.cells #[.slice none 0 0, .int .i64 0, .slice none 0 0, .int .i64 0] 29)).alloc (.cells #[.slice none 0 0] 105)).alloc (.cells #[.slice A n c, .int .i64 split] 96)) A c l split aE aU) (hn : n ≤ 1048576) 
    (hC : Calls Tryd.prog 48 #[.pointer (some ⟨w.heap.size + 1, 0, none⟩), (.iface 94 (.pointer (some ⟨w.heap.size + 2, 0, none⟩)))] (((w.alloc (.cells #[.slice none 0 0, .int .i64 0, .slice none 0 0, .int .i64 0] 29)).alloc (.cells #[.slice none 0 0] 105)).alloc (.cells #[.slice A n c, .int .i64 split] 96)) fun en w' => (∃ k, en = .returned (.tuple #[.int .i64 k, (.iface 206 (.pointer (some aU)))])) ∧ Tch (fun j => j = w.heap.size + 2 ∨ j = w.heap.size + 1) (((w.alloc (.cells #[.slice none 0 0, .int .i64 0, .slice none 0 0, .int .i64 0] 29)).alloc (.cells #[.slice none 0 0] 105)).alloc (.cells #[.slice A n c, .int .i64 split] 96)) w') :
    Calls Tryd.prog 17 #[.slice A n c, .int .i64 split] w fun en w' => (∃ k, en = .returned (.tuple #[.agg #[.slice none 0 0, .int .i64 0, .slice none 0 0, .int .i64 0], .int .i64 k, .int .i64 2])) ∧ Below w.heap.size w w' := by
  have HH := Aside0.mk H
  have CC := Aside0.mk hC
  clear H hC
  go_enter Tryd.func17, Tryd.ntmps17
  go_wp2_with (first | (go_at_call 48; refine CC.out.mono ?_; rintro en w1 ⟨⟨k, rfl⟩, hT⟩; have T1 := Aside0.mk hT; have G1 := Aside0.mk ((hT.block w.heap.size (by have := HH.out.sz; omega) (fun q => by rcases q with q | q <;> omega)).trans HH.out.fb); have E1 := Aside0.mk (HH.out.env.kept hT (fun k q => by rcases q with q | q <;> omega)); clear hT) | (go_at_call 46; (with_reducible refine (end_cut E1.out).mono ?_); rintro en w1 ⟨rfl, rfl⟩) | ((with_reducible refine gate_store (t := 29) (p := 4) (v := .tmp 23) rfl ?_); go_loud (refine wpList_store_rowTo rfl 29 (.tmp 4) (.tmp 23) rfl rfl w.heap.size #[.slice none 0 0, .int .i64 0, .slice none 0 0, .int .i64 0] rfl rfl 29 _ G1.out (by kernel_rfl) rfl (by simp [Value.oneCell']) ?_; have GX := Aside0.mk (row_set (cs := #[.slice none 0 0, .int .i64 0, .slice none 0 0, .int .i64 0]) G1.out); have TX := Aside0.mk (tch_row (w := w1) (g := w.heap.size) #[.slice none 0 0, .int .i64 0, .slice none 0 0, .int .i64 0]); generalize w1.setRow w.heap.size #[.slice none 0 0, .int .i64 0, .slice none 0 0, .int .i64 0] = w7 at GX TX ⊢)))
  refine bodyPost_ret (results_ctt rfl _ _ w.heap.size 29 #[.slice none 0 0, .int .i64 0, .slice none 0 0, .int .i64 0] (0, 0) _ rfl GX.out Tryd.underlying29 rfl (by kernel_rfl)) rfl ?_
  have hB1 : Below w.heap.size w w1 := T1.out.below HH.out.bel (by have := HH.out.sz; omega) (fun k q => by rcases q with q | q <;> omega)
  have hB7 : Below w.heap.size w w7 := TX.out.below hB1 hB1.size (fun k q => by omega)
  exact ⟨⟨_, rfl⟩, hB7⟩
set_option maxHeartbeats 1600000 in
set_option maxRecDepth 100000 in
theorem ro_res {w : World} {A : Option Addr} {c n : Nat} {l : List Int} {split : Int} {aE aU : Addr}  (H : Laid3 w (((w.alloc (.cells #[.slice none 0 0, .int .i64 0, .slice none 0 0, .int .i64 0] 29)).alloc (.cells #[.slice none 0 0] 105)).alloc (.cells #[.slice A n c, .int .i64 split] 96)) A c l split aE aU) (hn : n ≤ 1048576) 
    (hC : Calls Tryd.prog 48 #[.pointer (some ⟨w.heap.size + 1, 0, none⟩), (.iface 94 (.pointer (some ⟨w.heap.size + 2, 0, none⟩)))] (((w.alloc (.cells #[.slice none 0 0, .int .i64 0, .slice none 0 0, .int .i64 0] 29)).alloc (.cells #[.slice none 0 0] 105)).alloc (.cells #[.slice A n c, .int .i64 split] 96)) fun en w' => (∃ m, en = .returned (.tuple #[.int .i64 1, .iface 169 (.string m)])) ∧ Tch (fun j => j = w.heap.size + 2 ∨ j = w.heap.size + 1) (((w.alloc (.cells #[.slice none 0 0, .int .i64 0, .slice none 0 0, .int .i64 0] 29)).alloc (.cells #[.slice none 0 0] 105)).alloc (.cells #[.slice A n c, .int .i64 split] 96)) w') :
    Calls Tryd.prog 17 #[.slice A n c, .int .i64 split] w fun en w' => (∃ k, en = .returned (.tuple #[.agg #[.slice none 0 0, .int .i64 0, .slice none 0 0, .int .i64 0], .int .i64 k, .int .i64 4])) ∧ Below w.heap.size w w' := by
  have HH := Aside0.mk H
  have CC := Aside0.mk hC
  clear H hC
  go_enter Tryd.func17, Tryd.ntmps17
  go_wp2_with (first | (go_at_call 48; refine CC.out.mono ?_; rintro en w1 ⟨⟨m, rfl⟩, hT⟩; have T1 := Aside0.mk hT; have G1 := Aside0.mk ((hT.block w.heap.size (by have := HH.out.sz; omega) (fun q => by rcases q with q | q <;> omega)).trans HH.out.fb); have E1 := Aside0.mk (HH.out.env.kept hT (fun k q => by rcases q with q | q <;> omega)); clear hT) | (go_at_call 46; (with_reducible refine (end_unsup E1.out m).mono ?_); rintro en w1 ⟨rfl, rfl⟩) | ((with_reducible refine gate_store (t := 29) (p := 4) (v := .tmp 23) rfl ?_); go_loud (refine wpList_store_rowTo rfl 29 (.tmp 4) (.tmp 23) rfl rfl w.heap.size #[.slice none 0 0, .int .i64 0, .slice none 0 0, .int .i64 0] rfl rfl 29 _ G1.out (by kernel_rfl) rfl (by simp [Value.oneCell']) ?_; have GX := Aside0.mk (row_set (cs := #[.slice none 0 0, .int .i64 0, .slice none 0 0, .int .i64 0]) G1.out); have TX := Aside0.mk (tch_row (w := w1) (g := w.heap.size) #[.slice none 0 0, .int .i64 0, .slice none 0 0, .int .i64 0]); generalize w1.setRow w.heap.size #[.slice none 0 0, .int .i64 0, .slice none 0 0, .int .i64 0] = w7 at GX TX ⊢)))
  refine bodyPost_ret (results_ctt rfl _ _ w.heap.size 29 #[.slice none 0 0, .int .i64 0, .slice none 0 0, .int .i64 0] (0, 0) _ rfl GX.out Tryd.underlying29 rfl (by kernel_rfl)) rfl ?_
  have hB1 : Below w.heap.size w w1 := T1.out.below HH.out.bel (by have := HH.out.sz; omega) (fun k q => by rcases q with q | q <;> omega)
  have hB7 : Below w.heap.size w w7 := TX.out.below hB1 hB1.size (fun k q => by omega)
  exact ⟨⟨_, rfl⟩, hB7⟩
set_option maxHeartbeats 1600000 in
set_option maxRecDepth 100000 in
theorem ro_ok {w : World} {A : Option Addr} {c n : Nat} {l : List Int} {split : Int} {aE aU : Addr} {m : Nat} {t : List Int} (H : Laid3 w (((w.alloc (.cells #[.slice none 0 0, .int .i64 0, .slice none 0 0, .int .i64 0] 29)).alloc (.cells #[.slice none 0 0] 105)).alloc (.cells #[.slice A n c, .int .i64 split] 96)) A c l split aE aU) (hn : n ≤ 1048576) (hm : m ≤ 254) (hl : m = t.length)
    (hC : Calls Tryd.prog 48 #[.pointer (some ⟨w.heap.size + 1, 0, none⟩), (.iface 94 (.pointer (some ⟨w.heap.size + 2, 0, none⟩)))] (((w.alloc (.cells #[.slice none 0 0, .int .i64 0, .slice none 0 0, .int .i64 0] 29)).alloc (.cells #[.slice none 0 0] 105)).alloc (.cells #[.slice A n c, .int .i64 split] 96)) fun en w' => en = .returned (.tuple #[.int .i64 (1 + (m : Int)), .nilIface]) ∧ (∃ g2, w'.cell? ⟨w.heap.size + 1, 0, none⟩ = some (.slice (some ⟨g2, 0, none⟩) m m) ∧ C8 w' (some ⟨g2, 0, none⟩) t) ∧ Tch (fun j => j = w.heap.size + 2 ∨ j = w.heap.size + 1) (((w.alloc (.cells #[.slice none 0 0, .int .i64 0, .slice none 0 0, .int .i64 0] 29)).alloc (.cells #[.slice none 0 0] 105)).alloc (.cells #[.slice A n c, .int .i64 split] 96)) w') :
    Calls Tryd.prog 17 #[.slice A n c, .int .i64 split] w fun en w' => ∃ A1 c1 A2 c2, en = .returned (.tuple #[.agg #[.slice A1 m c1, .int .i64 ((m : Int) * 8), .slice A2 (m + 1) c2, .int .i64 (1 + (m : Int))], .int .i64 (1 + (m : Int)), .int .i64 0]) ∧ (C8 w' A1 t ∧ m ≤ c1) ∧ (C8 w' A2 ((m : Int) :: t) ∧ m + 1 ≤ c2) ∧ Below w.heap.size w w' := by
  have HH := Aside0.mk H
  have CC := Aside0.mk hC
  clear H hC
  have LM := Aside0.mk hl
  clear hl
  go_enter Tryd.func17, Tryd.ntmps17
  go_wp2_with (first | (go_at_call 48; refine CC.out.mono ?_; rintro en w1 ⟨rfl, ⟨g2, hc2, hC2⟩, hT⟩; have C2 := Aside0.mk hC2; have F2 := Aside0.mk hc2; have T1 := Aside0.mk hT; have G1 := Aside0.mk ((hT.block w.heap.size (by have := HH.out.sz; omega) (fun q => by rcases q with q | q <;> omega)).trans HH.out.fb); have E1 := Aside0.mk (HH.out.env.kept hT (fun k q => by rcases q with q | q <;> omega)); clear hT; clear hC2 hc2) | (go_at_call 49; (refine (fld_calls F2.out hm LM.out C2.out).mono ?_); rintro en w2 ⟨A1, c1, A2, c2, rfl, hX, hY, hB⟩; have X2 := Aside0.mk hX; have Y2 := Aside0.mk hY; have B2 := Aside0.mk hB; have G2 := Aside0.mk ((hB.block w.heap.size (by have := HH.out.sz; have := T1.out.size; omega)).trans G1.out); clear hX hY hB) | ((with_reducible refine gate_store (t := 29) (p := 4) (v := .tmp 29) rfl ?_); go_loud (refine wpList_store_rowTo rfl 29 (.tmp 4) (.tmp 29) rfl rfl w.heap.size #[.slice A1 m c1, .int .i64 ((m : Int) * 8), .slice A2 (m + 1) c2, .int .i64 (1 + (m : Int))] rfl rfl 29 _ G2.out (by kernel_rfl) rfl (by simp [Value.oneCell']) ?_; have GX := Aside0.mk (row_set (cs := #[.slice A1 m c1, .int .i64 ((m : Int) * 8), .slice A2 (m + 1) c2, .int .i64 (1 + (m : Int))]) G2.out); have TX := Aside0.mk (tch_row (w := w2) (g := w.heap.size) #[.slice A1 m c1, .int .i64 ((m : Int) * 8), .slice A2 (m + 1) c2, .int .i64 (1 + (m : Int))]); generalize w2.setRow w.heap.size #[.slice A1 m c1, .int .i64 ((m : Int) * 8), .slice A2 (m + 1) c2, .int .i64 (1 + (m : Int))] = w7 at GX TX ⊢)))
  refine bodyPost_ret (results_ctt rfl _ _ w.heap.size 29 #[.slice A1 m c1, .int .i64 ((m : Int) * 8), .slice A2 (m + 1) c2, .int .i64 (1 + (m : Int))] (0, 0) _ rfl GX.out Tryd.underlying29 rfl (by kernel_rfl)) rfl ?_
  have hB1 : Below w.heap.size w w1 := T1.out.below HH.out.bel (by have := HH.out.sz; omega) (fun k q => by rcases q with q | q <;> omega)
  have hB7 : Below w.heap.size w w7 := TX.out.below (below_then hB1 hB1.size B2.out) (Nat.le_trans hB1.size B2.out.size) (fun k q => by omega)
  exact ⟨A1, c1, A2, c2, rfl, ⟨TX.out.c8 X2.out.1 (fun ad e p q => X2.out.2.2 ad e p (by have := hB1.size; have := HH.out.sz; have := T1.out.size; omega)), X2.out.2.1⟩, ⟨TX.out.c8 Y2.out.1 (fun ad e p q => Y2.out.2.2 ad e p (by have := hB1.size; have := HH.out.sz; have := T1.out.size; omega)), Y2.out.2.1⟩, hB7⟩
end Go.Proofs.YtfhefoaieefnkaaDoor.Rd
