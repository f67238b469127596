/- packet.serializeType, serializeHeader, SerializeMarker; impl.WriteMarker. -/
import Derived.Test.YtjdnnpfhlkgooaaDoorSl
import Derived.Lib.SlBytesConst
set_option linter.unusedVariables false
set_option linter.unusedSimpArgs false
namespace Go.Proofs.YtjdnnpfhlkgooaaDoor.Rd
open Go.RowKit Go.Proofs.YtjdnnpfhlkgooaaDoorW.PrintWords Go.Proofs.YtjdnnpfhlkgooaaDoorW.PrintMore Go.Proofs.YtjdnnpfhlkgooaaDoor.Kit

theorem buf1 (w : World) : ∃ W, w.alloc (.cells #[.int .u8 0] 181) = W ∧ R8 181 W w.heap.size (.slice (some ⟨w.heap.size, 0, none⟩) 1 1) [0] ∧ Below w.heap.size w W :=
  ⟨_, rfl, Kd.R_of_own (own_lit w w.heap.size 181 .u8 [0] (Nat.le_refl _) (by simp)) (fun _ _ => trivial), below_alloc (Below.refl _ _) _⟩
theorem snk_c1 {w : World} {e base g : Nat} {x : Int} (h : R8 e w base (.slice (some ⟨g, 0, none⟩) 1 1) [x]) : C8 w (some ⟨g, 0, none⟩) [x] := by
  obtain ⟨A, c, e1, _, hC⟩ := r8_reads h
  injection e1 with e2 e3 e4
  subst e2
  exact hC
/-- A packet's first byte, of the new form. -/
def tagB (p : Int) : Int := Go.bits .or .u8 192 p
set_option maxHeartbeats 1600000 in
set_option maxRecDepth 100000 in
theorem sty_calls {base : Nat} {w : World} {s : Nat} {v : Value} {l : List Int} (h : Snk base w s v l) (hl : l.length ≤ 140737488355000) (p : Int) :
    Calls Tryd.prog 69 #[(.iface 98 (.pointer (some ⟨s, 0, none⟩))), .int .u8 p] w fun en w' => en = .returned .nilIface ∧ (∃ v', Snk base w' s v' (l ++ [tagB p])) ∧ Tch (fun j => j = s ∨ v.ownBlock = some j) w w' := by
  obtain ⟨W0, eW, hR0, hB0⟩ := buf1 w
  have H := Aside0.mk h
  have R0 := Aside0.mk hR0
  have B0 := Aside0.mk hB0
  have gs : w.heap.size ≠ s := by have := h.lt; omega
  have LL := Aside0.mk hl
  clear h hR0 hB0 hl
  go_enter Tryd.func69, Tryd.ntmps69
  go_upto_region 2 with (fail)
  clear eW
  obtain ⟨g, eg⟩ : ∃ g, w.heap.size = g := ⟨_, rfl⟩
  have EG := Aside0.mk eg
  rw [eg] at gs R0 B0 ⊢
  clear eg
  go_wp2_with ((with_reducible refine gate_store (t := 5) (p := 8) rfl ?_); refine store8 g (w0 := w) rfl rfl 5 (.tmp 8) (.tmp 7) rfl 181 g 1 1 0 _ _ rfl rfl infoB1 R0.out (by omega) B0.out ?_; intro W1 hR hB hG; have R1 := Aside0.mk hR; have B1 := Aside0.mk hB; clear hR hB hG)
  have hc : C8 W1.drew (some ⟨g, 0, none⟩) [tagB p] := snk_c1 (Kd.R_drew R1.out)
  have HC := Aside0.mk hc
  have HD := Aside0.mk (H.out.below (w1 := W1.drew) (by rw [EG.out]; exact below_drew B1.out))
  have ni := nil_write s
  clear hc
  go_wp2_with fail
  go_region_held3 (fun _ => True) (trivial) ((go_at_call 115; (with_reducible refine (snk_write HD.out HC.out (show 1 = [tagB p].length from rfl) (by have := LL.out; simp; omega)).mono ?_); rintro en w1 ⟨rfl, hS, hT⟩; have S1 := Aside0.mk hS; have T1 := Aside0.mk hT; clear hS hT))
  go_wp2_with fail
  go_ret
  exact ⟨rfl, S1.out, (Tch.of_below (by rw [EG.out]; exact below_drew B1.out)).trans T1.out⟩
theorem own_hi {e base : Nat} {w : World} {v : Value} {l : List Int} (h : R8 e w base v l) : ∀ j, v.ownBlock = some j → base ≤ j := Kd.R_base h
theorem Snk.tch {base : Nat} {w w1 : World} {s : Nat} {v : Value} {l : List Int} (h : Snk base w s v l) (hT : Tch (fun j => j = s ∨ v.ownBlock = some j) w w1) : Tch (fun j => base ≤ j) w w1 :=
  hT.mono (fun j q => q.elim (fun q => q ▸ h.hs) (own_hi h.rd j))
set_option maxHeartbeats 1600000 in
set_option maxRecDepth 100000 in
theorem shd_calls {base : Nat} {w : World} {s : Nat} {v : Value} {l : List Int} (h : Snk base w s v l) (hl : l.length ≤ 140737488354000) (p : Int) (n : Int) (h0 : 0 ≤ n) (h1 : n ≤ 4294967295) :
    Calls Tryd.prog 55 #[(.iface 98 (.pointer (some ⟨s, 0, none⟩))), .int .u8 p, .int .i64 n] w fun en w' => en = .returned .nilIface ∧ (∃ v', Snk base w' s v' (l ++ (tagB p :: lenB n))) ∧ Tch (fun j => base ≤ j) w w' := by
  have H := Aside0.mk h
  have LL := Aside0.mk hl
  clear h hl
  go_enter Tryd.func55, Tryd.ntmps55
  go_wp2_with (first | (go_at_call 69; (with_reducible refine (sty_calls H.out (by have := LL.out; omega) p).mono ?_); rintro en w1 ⟨rfl, hS, hT⟩; obtain ⟨v1, hs⟩ := hS; have S1 := Aside0.mk hs; have T1 := Aside0.mk (H.out.tch hT); clear hs hT) | (go_at_call 70; (with_reducible refine (sl_calls S1.out (by have := LL.out; simp; omega) n h0 h1).mono ?_); rintro en w2 ⟨rfl, hS, hT⟩; obtain ⟨v2, hs⟩ := hS; have S2 := Aside0.mk hs; have T2 := Aside0.mk (S1.out.tch hT); clear hs hT))
  go_ret
  exact ⟨rfl, ⟨v2, by have q := S2.out; rw [List.append_assoc] at q; exact q⟩, T1.out.trans T2.out⟩
/-- A constant string's bytes, three of them. -/
theorem lit3 (w : World) (x y z : Int) : C8 (w.alloc (.cells #[.int .u8 x, .int .u8 y, .int .u8 z] 5 (3, 4))) (some ⟨w.heap.size, 0, none⟩) [x, y, z] ∧ Below w.heap.size w (w.alloc (.cells #[.int .u8 x, .int .u8 y, .int .u8 z] 5 (3, 4))) := by
  refine ⟨Kd.C_of_reads (d := (0 : Int)) (h1 := fun _ => rfl) ⟨rfl, by simp, fun _ => ⟨_, rfl, fun j hj => ?_⟩⟩, below_alloc (Below.refl _ _) _⟩
  match j, hj with
  | 0, _ => show (w.alloc (.cells #[.int .u8 x, .int .u8 y, .int .u8 z] 5 (3, 4))).cell? ⟨w.heap.size, 0, none⟩ = some (.int .u8 x); simp only [World.cell?, World.alloc, Array.getElem?_push, if_true]; rfl
  | 1, _ => show (w.alloc (.cells #[.int .u8 x, .int .u8 y, .int .u8 z] 5 (3, 4))).cell? ⟨w.heap.size, 1, none⟩ = some (.int .u8 y); simp only [World.cell?, World.alloc, Array.getElem?_push, if_true]; rfl
  | 2, _ => show (w.alloc (.cells #[.int .u8 x, .int .u8 y, .int .u8 z] 5 (3, 4))).cell? ⟨w.heap.size, 2, none⟩ = some (.int .u8 z); simp only [World.cell?, World.alloc, Array.getElem?_push, if_true]; rfl
end Go.Proofs.YtjdnnpfhlkgooaaDoor.Rd
