/- Lemmas on the seat's program, in order (2 texts in one). -/
import Derived.Test.YtjdnnpfhlkgooaaDoorMOne2
import Derived.Test.YtjdnnpfhlkgooaaDoorMOne1
import Derived.Test.YtjdnnpfhlkgooaaDoorRlen
import Derived.Test.YtjdnnpfhlkgooaaDoorShf
import Derived.Lib.AppendIntMem
import Derived.Lib.ItoaLen
import Derived.Stop.Asserts
/- Serialize where the hash has no number. -/
set_option linter.unusedVariables false
set_option linter.unusedSimpArgs false
namespace Go.Proofs.YtjdnnpfhlkgooaaDoor.Rd
open Go.RowKit Go.Proofs.YtjdnnpfhlkgooaaDoorW.PrintWords Go.Proofs.YtjdnnpfhlkgooaaDoorW.PrintMore Go.Proofs.YtjdnnpfhlkgooaaDoor.Kit Go.Proofs.YtjdnnpfhlkgooaaDoor.Hash

set_option maxHeartbeats 3200000 in
set_option maxRecDepth 100000 in
theorem sno3 {base : Nat} {w : World} {s q : Nat} {kind hash algo key z : Int} {last : Bool} {As Ap : Option Addr} {ns cs np cp : Nat} (h : SnkL base w s []) (rq : w.heap[q]? = some (.cells #[.int .i64 3, .int .u8 kind, .int .u64 hash, .int .u8 algo, .int .u64 key, .bool last, .slice As ns cs, .slice Ap np cp] 107 (0, 0))) (hq : q ≠ s) (hid : ∀ W, Calls Tryd.prog 56 #[.int .u64 hash] W fun e w' => e = .returned (.tuple #[.int .u8 0, .bool false]) ∧ Below W.heap.size W w') (hz : IntKind.i64.wrap hash = z) (z0 : -9223372036854775808 ≤ z) (z1 : z ≤ 9223372036854775807) (htab : ∀ W, Tch (fun j => base ≤ j) w W → Lib.TabIs Tryd.prog W "internal/strconv.uint64pow10" .u64 Lib.pow10Tab) (l1 : ns ≤ 255) :
    Calls Tryd.prog 40 #[.pointer (some ⟨q, 0, none⟩), (.iface 98 (.pointer (some ⟨s, 0, none⟩)))] w fun en w' => (∃ m, en = .returned (.iface 131 (.string m))) ∧ (∃ L, SnkL base w' s L) ∧ Tch (fun j => base ≤ j) w w' := by
  have H := Aside0.mk h
  have HQ := Aside0.mk rq
  have HS := Aside0.mk hq
  have HI := Aside0.mk hid
  have HT := Aside0.mk htab
  have HZ := Aside0.mk (And.intro z0 z1)
  have NS := Aside0.mk l1
  have x0 := (cell_of_row _ _ 0 _ _ _ rq).trans rfl
  clear h rq hq hid htab z0 z1 l1
  go_enter Tryd.func40, Tryd.ntmps40
  go_wp2_with fail
  refine (shk_calls H.out (by simp) 4 13 (by decide) (by decide)).mono ?_
  rintro en w1 ⟨rfl, hS, hK, hT⟩
  have SH := Aside0.mk hS
  have KH := Aside0.mk hK
  have TH := Aside0.mk hT
  clear hS hK hT
  obtain ⟨W, eW, hR0, hB0⟩ : ∃ W, w1.alloc (.cells #[.int .u8 0, .int .u8 0, .int .u8 0, .int .u8 0, .int .u8 0, .int .u8 0, .int .u8 0, .int .u8 0] 135) = W ∧ R8 135 W w1.heap.size (.slice (some ⟨w1.heap.size, 0, none⟩) 8 8) [0, 0, 0, 0, 0, 0, 0, 0] ∧ Below w1.heap.size w1 W := ⟨_, rfl, Kd.R_of_own (own_lit w1 w1.heap.size 135 .u8 [0, 0, 0, 0, 0, 0, 0, 0] (Nat.le_refl _) (by simp)) (fun _ _ => trivial), below_alloc (Below.refl _ _) _⟩
  have rq1 := KH.out q _ _ HQ.out (by decide) HS.out
  have NQ := Aside0.mk (show w1.heap.size ≠ q from by have := blk_lt rq1; omega)
  have GS := Aside0.mk (show w1.heap.size ≠ s from by obtain ⟨v, hv⟩ := SH.out; have := hv.lt; omega)
  have GB := Aside0.mk (show base ≤ w1.heap.size from by obtain ⟨v, hv⟩ := SH.out; exact Nat.le_trans hv.hs (Nat.le_of_lt hv.lt))
  have R0 := Aside0.mk hR0
  have B0 := Aside0.mk hB0
  have HQ0 := Aside0.mk ((hB0.block q (blk_lt rq1)).trans rq1)
  clear hR0 hB0 rq1 x0
  go_upto_region 8 with (fail)
  clear eW
  obtain ⟨g, eg⟩ : ∃ g, w1.heap.size = g := ⟨_, rfl⟩
  have EG := Aside0.mk eg
  rw [eg] at NQ GS GB R0 B0 ⊢
  clear eg
  have y := (cell_of_row _ _ 0 _ _ _ HQ0.out).trans rfl
  go_wp2_with (first | ((with_reducible refine gate_store (t := 5) (p := 38) rfl ?_); refine store8 g (w0 := w1) rfl rfl 5 (.tmp 38) (.tmp 37) rfl 135 g 8 8 0 _ _ rfl rfl infoB1 R0.out (by omega) B0.out ?_; intro W1 hR hB hG; have R1 := Aside0.mk hR; have B1 := Aside0.mk hB; have HQ1 := Aside0.mk ((hG.block q (blk_lt HQ0.out) (fun e => NQ.out (Option.some.inj e).symm)).trans HQ0.out); clear hR hB hG; have y := (cell_of_row _ _ 1 _ _ _ HQ1.out).trans rfl;) | ((with_reducible refine gate_store (t := 5) (p := 43) rfl ?_); refine store8 g (w0 := w1) rfl rfl 5 (.tmp 43) (.tmp 42) rfl 135 g 8 8 1 _ _ rfl rfl infoB1 R1.out (by omega) B1.out ?_; intro W2 hR hB hG; have R2 := Aside0.mk hR; have B2 := Aside0.mk hB; have HQ2 := Aside0.mk ((hG.block q (blk_lt HQ1.out) (fun e => NQ.out (Option.some.inj e).symm)).trans HQ1.out); clear hR hB hG; have y := (cell_of_row _ _ 2 _ _ _ HQ2.out).trans rfl;) | (go_at_call 56; (with_reducible refine (HI.out _).mono ?_); rintro en W3 ⟨rfl, hB⟩; have R3 := Aside0.mk (Kd.R_below R2.out hB); have B3 := Aside0.mk (below_then B2.out (Kd.R_lt R2.out _ rfl |> Nat.le_of_lt) hB); have HQ3 := Aside0.mk ((hB.block q (blk_lt HQ2.out)).trans HQ2.out); clear hB) | ((with_reducible refine gate_store (t := 5) (p := 52) rfl ?_); refine store8 g (w0 := w1) rfl rfl 5 (.tmp 52) (.tmp 50) rfl 135 g 8 8 2 _ _ rfl rfl infoB1 R3.out (by omega) B3.out ?_; intro W4 hR hB hG; have R4 := Aside0.mk hR; have B4 := Aside0.mk hB; have HQ4 := Aside0.mk ((hG.block q (blk_lt HQ3.out) (fun e => NQ.out (Option.some.inj e).symm)).trans HQ3.out); clear hR hB hG; have y := (cell_of_row _ _ 2 _ _ _ HQ4.out).trans rfl;))
  have T4 : Tch (fun j => base ≤ j) w W4 := TH.out.trans (Tch.of_below (by rw [EG.out]; exact B4.out))
  refine (Tryd.strconv_Itoa z HZ.out.1 HZ.out.2 W4 (HT.out W4 T4)).mono ?_
  rintro en w9 ⟨rfl, k9, os9, e9⟩
  have B9 := Aside0.mk (show Below W4.heap.size W4 w9 from by rw [e9]; exact Lib.below_grow W4.heap.size W4 (Nat.le_refl _) k9 os9)
  have T4A := Aside0.mk T4
  obtain ⟨m9, em9⟩ : ∃ m : ByteArray, (⟨(Lib.itoa z).toArray⟩ : ByteArray) = m := ⟨_, rfl⟩
  have hm9 : m9.size ≤ 21 := by rw [← em9]; show (Lib.itoa z).toArray.size ≤ 21; rw [List.size_toArray]; exact Lib.itoa_length_le z HZ.out.1 HZ.out.2
  rw [em9]
  clear e9 T4 em9
  go_wp2_with fail
  go_ret
  exact ⟨⟨_, rfl⟩, ⟨_, (SH.out.below (w1 := W4) (by rw [EG.out]; exact B4.out)).below B9.out⟩, T4A.out.trans (Tch.of_below B9.out)⟩
set_option maxHeartbeats 3200000 in
set_option maxRecDepth 100000 in
theorem sno6 {base : Nat} {w : World} {s q : Nat} {kind hash algo key z : Int} {last : Bool} {As Ap : Option Addr} {ns cs np cp : Nat} (h : SnkL base w s []) (rq : w.heap[q]? = some (.cells #[.int .i64 6, .int .u8 kind, .int .u64 hash, .int .u8 algo, .int .u64 key, .bool last, .slice As ns cs, .slice Ap np cp] 107 (0, 0))) (hq : q ≠ s) (hid : ∀ W, Calls Tryd.prog 56 #[.int .u64 hash] W fun e w' => e = .returned (.tuple #[.int .u8 0, .bool false]) ∧ Below W.heap.size W w') (hz : IntKind.i64.wrap hash = z) (z0 : -9223372036854775808 ≤ z) (z1 : z ≤ 9223372036854775807) (htab : ∀ W, Tch (fun j => base ≤ j) w W → Lib.TabIs Tryd.prog W "internal/strconv.uint64pow10" .u64 Lib.pow10Tab) (l1 : ns ≤ 255) :
    Calls Tryd.prog 40 #[.pointer (some ⟨q, 0, none⟩), (.iface 98 (.pointer (some ⟨s, 0, none⟩)))] w fun en w' => (∃ m, en = .returned (.iface 131 (.string m))) ∧ (∃ L, SnkL base w' s L) ∧ Tch (fun j => base ≤ j) w w' := by
  have H := Aside0.mk h
  have HQ := Aside0.mk rq
  have HS := Aside0.mk hq
  have HI := Aside0.mk hid
  have HT := Aside0.mk htab
  have HZ := Aside0.mk (And.intro z0 z1)
  have NS := Aside0.mk l1
  have x0 := (cell_of_row _ _ 0 _ _ _ rq).trans rfl
  have x6 := (cell_of_row _ _ 6 _ _ _ rq).trans rfl
  have wn : IntKind.i64.wrap (38 + (ns : Int)) = 38 + (ns : Int) := IntWalk.i64_in _ (by omega)
  clear h rq hq hid htab z0 z1 l1
  go_enter Tryd.func40, Tryd.ntmps40
  go_wp2_with fail
  refine (shk_calls H.out (by simp) 4 (38 + (ns : Int)) (by omega) (by have := NS.out; omega)).mono ?_
  rintro en w1 ⟨rfl, hS, hK, hT⟩
  have SH := Aside0.mk hS
  have KH := Aside0.mk hK
  have TH := Aside0.mk hT
  clear hS hK hT x6 wn
  obtain ⟨W, eW, hR0, hB0⟩ : ∃ W, w1.alloc (.cells #[.int .u8 0, .int .u8 0, .int .u8 0, .int .u8 0, .int .u8 0, .int .u8 0, .int .u8 0, .int .u8 0] 135) = W ∧ R8 135 W w1.heap.size (.slice (some ⟨w1.heap.size, 0, none⟩) 8 8) [0, 0, 0, 0, 0, 0, 0, 0] ∧ Below w1.heap.size w1 W := ⟨_, rfl, Kd.R_of_own (own_lit w1 w1.heap.size 135 .u8 [0, 0, 0, 0, 0, 0, 0, 0] (Nat.le_refl _) (by simp)) (fun _ _ => trivial), below_alloc (Below.refl _ _) _⟩
  have rq1 := KH.out q _ _ HQ.out (by decide) HS.out
  have NQ := Aside0.mk (show w1.heap.size ≠ q from by have := blk_lt rq1; omega)
  have GS := Aside0.mk (show w1.heap.size ≠ s from by obtain ⟨v, hv⟩ := SH.out; have := hv.lt; omega)
  have GB := Aside0.mk (show base ≤ w1.heap.size from by obtain ⟨v, hv⟩ := SH.out; exact Nat.le_trans hv.hs (Nat.le_of_lt hv.lt))
  have R0 := Aside0.mk hR0
  have B0 := Aside0.mk hB0
  have HQ0 := Aside0.mk ((hB0.block q (blk_lt rq1)).trans rq1)
  clear hR0 hB0 rq1 x0
  go_upto_region 8 with (fail)
  clear eW
  obtain ⟨g, eg⟩ : ∃ g, w1.heap.size = g := ⟨_, rfl⟩
  have EG := Aside0.mk eg
  rw [eg] at NQ GS GB R0 B0 ⊢
  clear eg
  have y := (cell_of_row _ _ 0 _ _ _ HQ0.out).trans rfl
  go_wp2_with (first | ((with_reducible refine gate_store (t := 5) (p := 38) rfl ?_); refine store8 g (w0 := w1) rfl rfl 5 (.tmp 38) (.tmp 37) rfl 135 g 8 8 0 _ _ rfl rfl infoB1 R0.out (by omega) B0.out ?_; intro W1 hR hB hG; have R1 := Aside0.mk hR; have B1 := Aside0.mk hB; have HQ1 := Aside0.mk ((hG.block q (blk_lt HQ0.out) (fun e => NQ.out (Option.some.inj e).symm)).trans HQ0.out); clear hR hB hG; have y := (cell_of_row _ _ 1 _ _ _ HQ1.out).trans rfl;) | ((with_reducible refine gate_store (t := 5) (p := 43) rfl ?_); refine store8 g (w0 := w1) rfl rfl 5 (.tmp 43) (.tmp 42) rfl 135 g 8 8 1 _ _ rfl rfl infoB1 R1.out (by omega) B1.out ?_; intro W2 hR hB hG; have R2 := Aside0.mk hR; have B2 := Aside0.mk hB; have HQ2 := Aside0.mk ((hG.block q (blk_lt HQ1.out) (fun e => NQ.out (Option.some.inj e).symm)).trans HQ1.out); clear hR hB hG; have y := (cell_of_row _ _ 2 _ _ _ HQ2.out).trans rfl;) | (go_at_call 56; (with_reducible refine (HI.out _).mono ?_); rintro en W3 ⟨rfl, hB⟩; have R3 := Aside0.mk (Kd.R_below R2.out hB); have B3 := Aside0.mk (below_then B2.out (Kd.R_lt R2.out _ rfl |> Nat.le_of_lt) hB); have HQ3 := Aside0.mk ((hB.block q (blk_lt HQ2.out)).trans HQ2.out); clear hB) | ((with_reducible refine gate_store (t := 5) (p := 52) rfl ?_); refine store8 g (w0 := w1) rfl rfl 5 (.tmp 52) (.tmp 50) rfl 135 g 8 8 2 _ _ rfl rfl infoB1 R3.out (by omega) B3.out ?_; intro W4 hR hB hG; have R4 := Aside0.mk hR; have B4 := Aside0.mk hB; have HQ4 := Aside0.mk ((hG.block q (blk_lt HQ3.out) (fun e => NQ.out (Option.some.inj e).symm)).trans HQ3.out); clear hR hB hG; have y := (cell_of_row _ _ 2 _ _ _ HQ4.out).trans rfl;))
  have T4 : Tch (fun j => base ≤ j) w W4 := TH.out.trans (Tch.of_below (by rw [EG.out]; exact B4.out))
  refine (Tryd.strconv_Itoa z HZ.out.1 HZ.out.2 W4 (HT.out W4 T4)).mono ?_
  rintro en w9 ⟨rfl, k9, os9, e9⟩
  have B9 := Aside0.mk (show Below W4.heap.size W4 w9 from by rw [e9]; exact Lib.below_grow W4.heap.size W4 (Nat.le_refl _) k9 os9)
  have T4A := Aside0.mk T4
  obtain ⟨m9, em9⟩ : ∃ m : ByteArray, (⟨(Lib.itoa z).toArray⟩ : ByteArray) = m := ⟨_, rfl⟩
  have hm9 : m9.size ≤ 21 := by rw [← em9]; show (Lib.itoa z).toArray.size ≤ 21; rw [List.size_toArray]; exact Lib.itoa_length_le z HZ.out.1 HZ.out.2
  rw [em9]
  clear e9 T4 em9
  go_wp2_with fail
  go_ret
  exact ⟨⟨_, rfl⟩, ⟨_, (SH.out.below (w1 := W4) (by rw [EG.out]; exact B4.out)).below B9.out⟩, T4A.out.trans (Tch.of_below B9.out)⟩

end Go.Proofs.YtjdnnpfhlkgooaaDoor.Rd

/- impl.WriteOnePass where the hash has no number. -/
set_option linter.unusedVariables false
set_option linter.unusedSimpArgs false
namespace Go.Proofs.YtjdnnpfhlkgooaaDoor.Rd
open Go.RowKit Go.Proofs.YtjdnnpfhlkgooaaDoorW.PrintWords Go.Proofs.YtjdnnpfhlkgooaaDoorW.PrintMore Go.Proofs.YtjdnnpfhlkgooaaDoor.Kit Go.Proofs.YtjdnnpfhlkgooaaDoor.Hash

theorem end_unsup {w : World} {d : Nat} {aE aU : Addr} (hE : Env w d aE aU) (m : ByteArray) : Calls Tryd.prog 37 #[.iface 131 (.string m)] w fun en w' => en = .returned (.int .i64 4) ∧ w' = w := by
  have e0 := hE.e
  have u0 := hE.u
  have q1 := run_eql_iface_types (P := Tryd.prog) 131 209 (.string m) (.pointer (some aE)) Tryd.underlying85 (by decide) w
  have q2 := run_eql_iface_types (P := Tryd.prog) 131 209 (.string m) (.pointer (some aU)) Tryd.underlying85 (by decide) w
  have q3 : (Instr.typeAssert (.iface 131 (.string m)) 85 130 true).run Tryd.prog w = .ok (.tuple #[.string ByteArray.empty, .bool false]) w := by kernel_rfl
  have q4 : (Instr.typeAssert (.iface 131 (.string m)) 85 131 true).run Tryd.prog w = .ok (.tuple #[.string m, .bool true]) w := by kernel_rfl
  clear hE
  go_enter Tryd.func37, Tryd.ntmps37
  go_wp2_with fail
  go_ret
  exact ⟨rfl, rfl⟩
set_option maxHeartbeats 3200000 in
set_option maxRecDepth 100000 in
theorem won3 {w : World} {kind hash hh algo key : Int} {last : Bool} {As Ap : Option Addr} {ns cs np cp : Nat}  (hi : iOf hash true = (0, false)) (wh : IntKind.u64.wrap hh = hash) (hz : IntKind.i64.wrap hash = hh) (z0 : -9223372036854775808 ≤ hh) (z1 : hh ≤ 9223372036854775807) (htab : Lib.TabBelow Tryd.prog w.heap.size w "internal/strconv.uint64pow10" .u64 Lib.pow10Tab) (l1 : ns ≤ 255) {aE aU : Addr} (hE : Env w w.heap.size aE aU) :
    Calls Tryd.prog 15 #[.agg #[.int .i64 3, .int .u8 kind, .int .i64 hh, .int .u8 algo, .int .u64 key, .bool last, .slice As ns cs, .slice Ap np cp]] w fun en w' => ∃ vv, en = .returned (.tuple #[vv, .int .i64 4]) ∧ (∃ A n c, vv = .slice A n c) ∧ Below w.heap.size w w' := by
  obtain ⟨W1, e1, r1, b1⟩ : ∃ W, w.alloc (.cells #[.int .i64 3, .int .u8 kind, .int .i64 hh, .int .u8 algo, .int .u64 key, .bool last, .slice As ns cs, .slice Ap np cp] 37) = W ∧ W.heap[w.heap.size]? = some (.cells #[.int .i64 3, .int .u8 kind, .int .i64 hh, .int .u8 algo, .int .u64 key, .bool last, .slice As ns cs, .slice Ap np cp] 37 (0, 0)) ∧ Below w.heap.size w W := ⟨_, rfl, heap_alloc_new _ _, below_alloc (Below.refl _ _) _⟩
  obtain ⟨W2, e2, hS, b2⟩ := snk_new w.heap.size W1 b1.size
  obtain ⟨W3, e3, r3, b3⟩ : ∃ W, W2.alloc (.cells #[.int .i64 3, .int .u8 kind, .int .u64 hash, .int .u8 algo, .int .u64 key, .bool last, .slice As ns cs, .slice Ap np cp] 107) = W ∧ W.heap[W2.heap.size]? = some (.cells #[.int .i64 3, .int .u8 kind, .int .u64 hash, .int .u8 algo, .int .u64 key, .bool last, .slice As ns cs, .slice Ap np cp] 107 (0, 0)) ∧ Below W2.heap.size W2 W := ⟨_, rfl, heap_alloc_new _ _, below_alloc (Below.refl _ _) _⟩
  have hq : W2.heap.size ≠ W1.heap.size := by have := hS.lt; omega
  have c12 : ∀ i u, #[.int .i64 3, .int .u8 kind, .int .i64 hh, .int .u8 algo, .int .u64 key, .bool last, .slice As ns cs, .slice Ap np cp][i]? = some u → W2.cell? ⟨w.heap.size, i, none⟩ = some u := fun i u hu => by
    have q := cell_of_row _ _ i _ _ _ r1
    rw [hu] at q
    exact (b2.cell (p := ⟨w.heap.size, i, none⟩) (blk_lt r1)).trans q
  have y0 := c12 0 _ rfl
  have y1 := c12 1 _ rfl
  have y2 := c12 2 _ rfl
  have y3 := c12 3 _ rfl
  have y4 := c12 4 _ rfl
  have y5 := c12 5 _ rfl
  have y6 := c12 6 _ rfl
  have y7 := c12 7 _ rfl
  have B3 := Aside0.mk (below_then (below_then b1 b1.size b2) (Nat.le_trans b1.size b2.size) b3)
  have BZ := Aside0.mk (show w.heap.size ≤ W3.heap.size from Nat.le_trans b1.size (Nat.le_trans b2.size b3.size))
  have SC := Aside0.mk (sno3 (base := w.heap.size) (s := W1.heap.size) (q := W2.heap.size) (w := W3) ⟨_, hS.below b3⟩ r3 hq (fun W => by have q := iiofs hash W; rw [hi] at q; exact q) hz z0 z1 (fun W hT => htab W (hT.below B3.out BZ.out (fun k q => q))) l1)
  have HE := Aside0.mk hE
  clear hi hz z0 z1 htab l1 hE c12 r1 r3 b1 b2 b3 hq hS
  go_enter Tryd.func15, Tryd.ntmps15
  go_wp2_with fail
  clear e1 e2 e3 y0 y1 y2 y3 y4 y5 y6 y7 wh
  refine SC.out.mono ?_
  rintro en w4 ⟨⟨m, rfl⟩, ⟨L, vv, hv⟩, hT⟩
  obtain ⟨Av, cv, ev⟩ := Kd.R_slice hv.rd
  obtain ⟨lv, elv⟩ : ∃ lv, L.length = lv := ⟨_, rfl⟩
  rw [elv] at ev
  subst ev
  have f0 := hv.c0
  have HV := Aside0.mk hv
  have HT := Aside0.mk (hT.below B3.out BZ.out (fun k q => q))
  clear hv hT
  obtain ⟨s, es⟩ : ∃ s, W1.heap.size = s := ⟨_, rfl⟩
  rw [es] at f0 HV ⊢
  clear es
  have EC : Aside0 (Calls Tryd.prog 37 #[.iface 131 (.string m)] w4.drew fun en w' => en = .returned (.int .i64 4) ∧ w' = w4.drew) := ⟨end_unsup (HE.out.below (below_drew HT.out)) m⟩
  go_wp2_with fail
  go_region_held3 (fun w' => w'.cell? ⟨s, 0, none⟩ = some (.slice Av lv cv)) (first | exact f0 | assumption | go_keep) ((first | (go_at_call 37; (with_reducible refine EC.out.mono ?_); rintro en w5 ⟨rfl, rfl⟩; have hB0 : w4.drew.cell? ⟨s, 0, none⟩ = some (.slice Av lv cv) := f0)))
  go_wp2_with fail
  go_ret2
  exact ⟨_, rfl, ⟨_, _, _, rfl⟩, below_drew HT.out⟩
set_option maxHeartbeats 3200000 in
set_option maxRecDepth 100000 in
theorem won6 {w : World} {kind hash hh algo key : Int} {last : Bool} {As Ap : Option Addr} {ns cs np cp : Nat}  (hi : iOf hash true = (0, false)) (wh : IntKind.u64.wrap hh = hash) (hz : IntKind.i64.wrap hash = hh) (z0 : -9223372036854775808 ≤ hh) (z1 : hh ≤ 9223372036854775807) (htab : Lib.TabBelow Tryd.prog w.heap.size w "internal/strconv.uint64pow10" .u64 Lib.pow10Tab) (l1 : ns ≤ 255) {aE aU : Addr} (hE : Env w w.heap.size aE aU) :
    Calls Tryd.prog 15 #[.agg #[.int .i64 6, .int .u8 kind, .int .i64 hh, .int .u8 algo, .int .u64 key, .bool last, .slice As ns cs, .slice Ap np cp]] w fun en w' => ∃ vv, en = .returned (.tuple #[vv, .int .i64 4]) ∧ (∃ A n c, vv = .slice A n c) ∧ Below w.heap.size w w' := by
  obtain ⟨W1, e1, r1, b1⟩ : ∃ W, w.alloc (.cells #[.int .i64 6, .int .u8 kind, .int .i64 hh, .int .u8 algo, .int .u64 key, .bool last, .slice As ns cs, .slice Ap np cp] 37) = W ∧ W.heap[w.heap.size]? = some (.cells #[.int .i64 6, .int .u8 kind, .int .i64 hh, .int .u8 algo, .int .u64 key, .bool last, .slice As ns cs, .slice Ap np cp] 37 (0, 0)) ∧ Below w.heap.size w W := ⟨_, rfl, heap_alloc_new _ _, below_alloc (Below.refl _ _) _⟩
  obtain ⟨W2, e2, hS, b2⟩ := snk_new w.heap.size W1 b1.size
  obtain ⟨W3, e3, r3, b3⟩ : ∃ W, W2.alloc (.cells #[.int .i64 6, .int .u8 kind, .int .u64 hash, .int .u8 algo, .int .u64 key, .bool last, .slice As ns cs, .slice Ap np cp] 107) = W ∧ W.heap[W2.heap.size]? = some (.cells #[.int .i64 6, .int .u8 kind, .int .u64 hash, .int .u8 algo, .int .u64 key, .bool last, .slice As ns cs, .slice Ap np cp] 107 (0, 0)) ∧ Below W2.heap.size W2 W := ⟨_, rfl, heap_alloc_new _ _, below_alloc (Below.refl _ _) _⟩
  have hq : W2.heap.size ≠ W1.heap.size := by have := hS.lt; omega
  have c12 : ∀ i u, #[.int .i64 6, .int .u8 kind, .int .i64 hh, .int .u8 algo, .int .u64 key, .bool last, .slice As ns cs, .slice Ap np cp][i]? = some u → W2.cell? ⟨w.heap.size, i, none⟩ = some u := fun i u hu => by
    have q := cell_of_row _ _ i _ _ _ r1
    rw [hu] at q
    exact (b2.cell (p := ⟨w.heap.size, i, none⟩) (blk_lt r1)).trans q
  have y0 := c12 0 _ rfl
  have y1 := c12 1 _ rfl
  have y2 := c12 2 _ rfl
  have y3 := c12 3 _ rfl
  have y4 := c12 4 _ rfl
  have y5 := c12 5 _ rfl
  have y6 := c12 6 _ rfl
  have y7 := c12 7 _ rfl
  have B3 := Aside0.mk (below_then (below_then b1 b1.size b2) (Nat.le_trans b1.size b2.size) b3)
  have BZ := Aside0.mk (show w.heap.size ≤ W3.heap.size from Nat.le_trans b1.size (Nat.le_trans b2.size b3.size))
  have SC := Aside0.mk (sno6 (base := w.heap.size) (s := W1.heap.size) (q := W2.heap.size) (w := W3) ⟨_, hS.below b3⟩ r3 hq (fun W => by have q := iiofs hash W; rw [hi] at q; exact q) hz z0 z1 (fun W hT => htab W (hT.below B3.out BZ.out (fun k q => q))) l1)
  have HE := Aside0.mk hE
  clear hi hz z0 z1 htab l1 hE c12 r1 r3 b1 b2 b3 hq hS
  go_enter Tryd.func15, Tryd.ntmps15
  go_wp2_with fail
  clear e1 e2 e3 y0 y1 y2 y3 y4 y5 y6 y7 wh
  refine SC.out.mono ?_
  rintro en w4 ⟨⟨m, rfl⟩, ⟨L, vv, hv⟩, hT⟩
  obtain ⟨Av, cv, ev⟩ := Kd.R_slice hv.rd
  obtain ⟨lv, elv⟩ : ∃ lv, L.length = lv := ⟨_, rfl⟩
  rw [elv] at ev
  subst ev
  have f0 := hv.c0
  have HV := Aside0.mk hv
  have HT := Aside0.mk (hT.below B3.out BZ.out (fun k q => q))
  clear hv hT
  obtain ⟨s, es⟩ : ∃ s, W1.heap.size = s := ⟨_, rfl⟩
  rw [es] at f0 HV ⊢
  clear es
  have EC : Aside0 (Calls Tryd.prog 37 #[.iface 131 (.string m)] w4.drew fun en w' => en = .returned (.int .i64 4) ∧ w' = w4.drew) := ⟨end_unsup (HE.out.below (below_drew HT.out)) m⟩
  go_wp2_with fail
  go_region_held3 (fun w' => w'.cell? ⟨s, 0, none⟩ = some (.slice Av lv cv)) (first | exact f0 | assumption | go_keep) ((first | (go_at_call 37; (with_reducible refine EC.out.mono ?_); rintro en w5 ⟨rfl, rfl⟩; have hB0 : w4.drew.cell? ⟨s, 0, none⟩ = some (.slice Av lv cv) := f0)))
  go_wp2_with fail
  go_ret2
  exact ⟨_, rfl, ⟨_, _, _, rfl⟩, below_drew HT.out⟩
end Go.Proofs.YtjdnnpfhlkgooaaDoor.Rd
