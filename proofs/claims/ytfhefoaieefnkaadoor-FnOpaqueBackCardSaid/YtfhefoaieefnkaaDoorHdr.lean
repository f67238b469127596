/- packet.serializeType, serializeHeader, SerializeMarker; impl.WriteMarker. -/
import Derived.Test.YtfhefoaieefnkaaDoorSl
import Derived.Lib.SlBytesConst
set_option linter.unusedVariables false
set_option linter.unusedSimpArgs false
namespace Go.Proofs.YtfhefoaieefnkaaDoor.Rd
open Go.RowKit Go.Proofs.YtfhefoaieefnkaaDoorW.PrintWords Go.Proofs.YtfhefoaieefnkaaDoorW.PrintMore Go.Proofs.YtfhefoaieefnkaaDoor.Kit

theorem buf1 (w : World) : ∃ W, w.alloc (.cells #[.int .u8 0] 170) = W ∧ R8 170 W w.heap.size (.slice (some ⟨w.heap.size, 0, none⟩) 1 1) [0] ∧ Below w.heap.size w W :=
  ⟨_, rfl, Kd.R_of_own (own_lit w w.heap.size 170 .u8 [0] (Nat.le_refl _) (by simp)) (fun _ _ => trivial), below_alloc (Below.refl _ _) _⟩
theorem snk_c1 {w : World} {e base g : Nat} {x : Int} (h : R8 e w base (.slice (some ⟨g, 0, none⟩) 1 1) [x]) : C8 w (some ⟨g, 0, none⟩) [x] := by
  obtain ⟨A, c, e1, _, hC⟩ := r8_reads h
  injection e1 with e2 e3 e4
  subst e2
  exact hC
/-- A packet's first byte, of the new form. -/
def tagB (p : Int) : Int := Go.bits .or .u8 192 p
set_option maxHeartbeats 1600000 in
set_option maxRecDepth 100000 in
theorem sty_calls {base : Nat} {w : World} {s : Nat} {v : Value} {l : List Int} (h : Snk base w s v l) (hl : l.length ≤ 140737488355000) (p : Int) :
    Calls Tryd.prog 85 #[(.iface 113 (.pointer (some ⟨s, 0, none⟩))), .int .u8 p] w fun en w' => en = .returned .nilIface ∧ (∃ v', Snk base w' s v' (l ++ [tagB p])) ∧ Tch (fun j => j = s ∨ v.ownBlock = some j) w w' := by
  obtain ⟨W0, eW, hR0, hB0⟩ := buf1 w
  have H := Aside0.mk h
  have R0 := Aside0.mk hR0
  have B0 := Aside0.mk hB0
  have gs : w.heap.size ≠ s := by have := h.lt; omega
  have LL := Aside0.mk hl
  clear h hR0 hB0 hl
  go_enter Tryd.func85, Tryd.ntmps85
  go_upto_region 2 with (fail)
  clear eW
  obtain ⟨g, eg⟩ : ∃ g, w.heap.size = g := ⟨_, rfl⟩
  have EG := Aside0.mk eg
  rw [eg] at gs R0 B0 ⊢
  clear eg
  go_wp2_with ((with_reducible refine gate_store (t := 5) (p := 8) rfl ?_); refine store8 g (w0 := w) rfl rfl 5 (.tmp 8) (.tmp 7) rfl 170 g 1 1 0 _ _ rfl rfl infoB1 R0.out (by omega) B0.out ?_; intro W1 hR hB hG; have R1 := Aside0.mk hR; have B1 := Aside0.mk hB; clear hR hB hG)
  have hc : C8 W1.drew (some ⟨g, 0, none⟩) [tagB p] := snk_c1 (Kd.R_drew R1.out)
  have HC := Aside0.mk hc
  have HD := Aside0.mk (H.out.below (w1 := W1.drew) (by rw [EG.out]; exact below_drew B1.out))
  have ni := nil_write s
  clear hc
  go_wp2_with fail
  go_region_held3 (fun _ => True) (trivial) ((go_at_call 112; (with_reducible refine (snk_write HD.out HC.out (show 1 = [tagB p].length from rfl) (by have := LL.out; simp; omega)).mono ?_); rintro en w1 ⟨rfl, hS, hT⟩; have S1 := Aside0.mk hS; have T1 := Aside0.mk hT; clear hS hT))
  go_wp2_with fail
  go_ret
  exact ⟨rfl, S1.out, (Tch.of_below (by rw [EG.out]; exact below_drew B1.out)).trans T1.out⟩
theorem own_hi {e base : Nat} {w : World} {v : Value} {l : List Int} (h : R8 e w base v l) : ∀ j, v.ownBlock = some j → base ≤ j := Kd.R_base h
theorem Snk.tch {base : Nat} {w w1 : World} {s : Nat} {v : Value} {l : List Int} (h : Snk base w s v l) (hT : Tch (fun j => j = s ∨ v.ownBlock = some j) w w1) : Tch (fun j => base ≤ j) w w1 :=
  hT.mono (fun j q => q.elim (fun q => q ▸ h.hs) (own_hi h.rd j))
set_option maxHeartbeats 1600000 in
set_option maxRecDepth 100000 in
theorem shd_calls {base : Nat} {w : World} {s : Nat} {v : Value} {l : List Int} (h : Snk base w s v l) (hl : l.length ≤ 140737488354000) (p : Int) (n : Int) (h0 : 0 ≤ n) (h1 : n ≤ 4294967295) :
    Calls Tryd.prog 78 #[(.iface 113 (.pointer (some ⟨s, 0, none⟩))), .int .u8 p, .int .i64 n] w fun en w' => en = .returned .nilIface ∧ (∃ v', Snk base w' s v' (l ++ (tagB p :: lenB n))) ∧ Tch (fun j => base ≤ j) w w' := by
  have H := Aside0.mk h
  have LL := Aside0.mk hl
  clear h hl
  go_enter Tryd.func78, Tryd.ntmps78
  go_wp2_with (first | (go_at_call 85; (with_reducible refine (sty_calls H.out (by have := LL.out; omega) p).mono ?_); rintro en w1 ⟨rfl, hS, hT⟩; obtain ⟨v1, hs⟩ := hS; have S1 := Aside0.mk hs; have T1 := Aside0.mk (H.out.tch hT); clear hs hT) | (go_at_call 74; (with_reducible refine (sl_calls S1.out (by have := LL.out; simp; omega) n h0 h1).mono ?_); rintro en w2 ⟨rfl, hS, hT⟩; obtain ⟨v2, hs⟩ := hS; have S2 := Aside0.mk hs; have T2 := Aside0.mk (S1.out.tch hT); clear hs hT))
  go_ret
  exact ⟨rfl, ⟨v2, by have q := S2.out; rw [List.append_assoc] at q; exact q⟩, T1.out.trans T2.out⟩
/-- A constant string's bytes, three of them. -/
theorem lit3 (w : World) (x y z : Int) : C8 (w.alloc (.cells #[.int .u8 x, .int .u8 y, .int .u8 z] 5 (3, 4))) (some ⟨w.heap.size, 0, none⟩) [x, y, z] ∧ Below w.heap.size w (w.alloc (.cells #[.int .u8 x, .int .u8 y, .int .u8 z] 5 (3, 4))) := by
  refine ⟨Kd.C_of_reads (d := (0 : Int)) (h1 := fun _ => rfl) ⟨rfl, by simp, fun _ => ⟨_, rfl, fun j hj => ?_⟩⟩, below_alloc (Below.refl _ _) _⟩
  match j, hj with
  | 0, _ => show (w.alloc (.cells #[.int .u8 x, .int .u8 y, .int .u8 z] 5 (3, 4))).cell? ⟨w.heap.size, 0, none⟩ = some (.int .u8 x); simp only [World.cell?, World.alloc, Array.getElem?_push, if_true]; rfl
  | 1, _ => show (w.alloc (.cells #[.int .u8 x, .int .u8 y, .int .u8 z] 5 (3, 4))).cell? ⟨w.heap.size, 1, none⟩ = some (.int .u8 y); simp only [World.cell?, World.alloc, Array.getElem?_push, if_true]; rfl
  | 2, _ => show (w.alloc (.cells #[.int .u8 x, .int .u8 y, .int .u8 z] 5 (3, 4))).cell? ⟨w.heap.size, 2, none⟩ = some (.int .u8 z); simp only [World.cell?, World.alloc, Array.getElem?_push, if_true]; rfl
set_option maxHeartbeats 1600000 in
set_option maxRecDepth 100000 in
theorem smk_calls {base : Nat} {w : World} {s : Nat} {v : Value} {l : List Int} (h : Snk base w s v l) (hl : l.length ≤ 140737488353000) :
    Calls Tryd.prog 62 #[(.iface 113 (.pointer (some ⟨s, 0, none⟩)))] w fun en w' => en = .returned .nilIface ∧ (∃ v', Snk base w' s v' (l ++ (tagB 10 :: (lenB 3 ++ [80, 71, 80])))) ∧ Tch (fun j => base ≤ j) w w' := by
  have H := Aside0.mk h
  have LL := Aside0.mk hl
  clear h hl
  go_enter Tryd.func62, Tryd.ntmps62
  go_wp2_with (first | (go_at_call 78; (with_reducible refine (shd_calls H.out (by have := LL.out; omega) 10 3 (by decide) (by decide)).mono ?_); rintro en w1 ⟨rfl, hS, hT⟩; obtain ⟨v1, hs⟩ := hS; have S1 := Aside0.mk hs; have T1 := Aside0.mk hT; have hcv := Lib.run_convert_bytes_const (P := Tryd.prog) w1 22 5 #[.int .u8 80, .int .u8 71, .int .u8 80] 3 3 Tryd.underlying22 Tryd.underlying5; clear hs hT) | (go_at_call 112; clear hcv; refine (snk_write (S1.out.below (lit3 w1 80 71 80).2) (lit3 w1 80 71 80).1 (show 3 = [(80 : Int), 71, 80].length from rfl) (by have := LL.out; have := (lenB_length 3).2; simp; omega)).mono ?_; rintro en w2 ⟨rfl, hS, hT⟩; obtain ⟨v2, hs⟩ := hS; have S2 := Aside0.mk hs; have T2 := Aside0.mk ((Tch.of_below (lit3 w1 80 71 80).2).trans ((S1.out.below (lit3 w1 80 71 80).2).tch hT)); clear hs hT))
  go_ret
  exact ⟨rfl, ⟨v2, by have q := S2.out; rw [List.append_assoc] at q; exact q⟩, T1.out.trans T2.out⟩
/-- impl.WriteMarker: a row of the call's own. -/
theorem wmk_calls (w : World) : Calls Tryd.prog 34 #[] w fun en w' => ∃ v, en = .returned v ∧ R8 5 w' w.heap.size v [202, 3, 80, 71, 80] ∧ Below w.heap.size w w' := by
  obtain ⟨W, eW, hS0, hB0⟩ := snk_new w.heap.size w (Nat.le_refl _)
  have H0 := Aside0.mk hS0
  have B0 := Aside0.mk hB0
  have ev := Aside0.mk (show ([] : List Int) ++ (tagB 10 :: (lenB 3 ++ [80, 71, 80])) = [202, 3, 80, 71, 80] from by decide +kernel)
  clear hS0 hB0
  go_enter Tryd.func34, Tryd.ntmps34
  go_upto_region 2 with (fail)
  clear eW
  obtain ⟨g, eg⟩ : ∃ g, w.heap.size = g := ⟨_, rfl⟩
  have EG := Aside0.mk eg
  rw [eg] at H0 B0 ⊢
  clear eg
  go_wp2_with (go_at_call 62; (with_reducible refine (smk_calls H0.out (by simp)).mono ?_); rintro en w1 ⟨rfl, hS, hT⟩; obtain ⟨v1, hs⟩ := hS; have f0 := hs.c0; have S1 := Aside0.mk hs; have T1 := Aside0.mk hT; clear hs hT)
  go_ret
  have hB : Below g w w1 := by
    have b0 := B0.out
    have sz := b0.size
    exact T1.out.below b0 (by rw [← EG.out]; exact sz) (fun k q => q)
  exact ⟨v1, rfl, by rw [EG.out]; have q := S1.out.rd; rw [ev.out] at q; exact q, by rw [EG.out]; exact hB⟩
end Go.Proofs.YtfhefoaieefnkaaDoor.Rd
