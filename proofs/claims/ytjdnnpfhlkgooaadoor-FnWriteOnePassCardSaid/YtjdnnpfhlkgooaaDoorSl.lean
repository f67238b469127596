/- packet.serializeLength into impl.sink. -/
import Derived.Test.YtjdnnpfhlkgooaaDoorSnk
set_option linter.unusedVariables false
set_option linter.unusedSimpArgs false
namespace Go.Proofs.YtjdnnpfhlkgooaaDoor.Rd
open Go.RowKit Go.Proofs.YtjdnnpfhlkgooaaDoorW.PrintWords Go.Proofs.YtjdnnpfhlkgooaaDoorW.PrintMore Go.Proofs.YtjdnnpfhlkgooaaDoor.Kit

/-- A buffer of five bytes. -/
theorem buf5 (w : World) : ∃ W, w.alloc (.cells #[.int .u8 0, .int .u8 0, .int .u8 0, .int .u8 0, .int .u8 0] 187) = W ∧ R8 187 W w.heap.size (.slice (some ⟨w.heap.size, 0, none⟩) 5 5) [0, 0, 0, 0, 0] ∧ Below w.heap.size w W :=
  ⟨_, rfl, Kd.R_of_own (own_lit w w.heap.size 187 .u8 [0, 0, 0, 0, 0] (Nat.le_refl _) (by simp)) (fun _ _ => trivial), below_alloc (Below.refl _ _) _⟩
/-- A length as it is written. -/
def lenB (n : Int) : List Int := if n < 192 then [n] else if n < 8384 then [192 + (n - 192) / 256, (n - 192) % 256] else [255, n / 16777216, n / 65536 % 256, n / 256 % 256, n % 256]
theorem lenB_length (n : Int) : 1 ≤ (lenB n).length ∧ (lenB n).length ≤ 5 := by
  unfold lenB
  split
  · simp
  · split <;> simp
theorem snk_c8 {w : World} {e base g : Nat} {k : Nat} {xs : List Int} (h : R8 e w base (.slice (some ⟨g, 0, none⟩) 5 5) xs) (hk : k ≤ 5) {ys : List Int} (hy : xs.take k = ys) : C8 w (some ⟨g, 0, none⟩) ys ∧ k = ys.length := by
  obtain ⟨A, c, e1, _, hC⟩ := r8_reads h
  have l5 : 5 = xs.length := (Kd.R_reads' h).1
  injection e1 with e2 e3 e4
  subst e2
  subst hy
  exact ⟨Kd.C_take hC (by omega), by rw [List.length_take]; omega⟩

set_option maxHeartbeats 1600000 in
set_option maxRecDepth 100000 in
theorem sl_one {base : Nat} {w : World} {s : Nat} {v : Value} {l : List Int} (h : Snk base w s v l) (hl : l.length ≤ 140737488355000) (n : Int) (h0 : 0 ≤ n) (h1 : n ≤ 4294967295) (hn : n < 192) :
    Calls Tryd.prog 70 #[.iface 98 (.pointer (some ⟨s, 0, none⟩)), .int .i64 n] w fun en w' => en = .returned .nilIface ∧ (∃ v', Snk base w' s v' (l ++ lenB n)) ∧ Tch (fun j => j = s ∨ v.ownBlock = some j) w w' := by
  obtain ⟨W0, eW, hR0, hB0⟩ := buf5 w
  have H := Aside0.mk h
  have R0 := Aside0.mk hR0
  have B0 := Aside0.mk hB0
  have gs : w.heap.size ≠ s := by have := h.lt; omega
  have GV := Aside0.mk (show v.ownBlock ≠ some w.heap.size from fun e => Nat.lt_irrefl _ (Kd.R_lt h.rd _ e))
  have LL := Aside0.mk hl
  clear h hR0 hB0 hl
  go_enter Tryd.func70, Tryd.ntmps70
  go_upto_region 2 with (fail)
  clear eW
  obtain ⟨g, eg⟩ : ∃ g, w.heap.size = g := ⟨_, rfl⟩
  have EG := Aside0.mk eg
  rw [eg] at gs GV R0 B0 ⊢
  clear eg
  go_wp2_with (first | ((with_reducible refine gate_store (t := 5) (p := 11) rfl ?_); refine store8 g (w0 := w) rfl rfl 5 (.tmp 11) (.tmp 10) rfl 187 g 5 5 0 _ _ rfl rfl infoB1 R0.out (by omega) B0.out ?_; intro W1 hR hB hG; have R1 := Aside0.mk hR; have B1 := Aside0.mk hB; clear hR hB hG))
  obtain ⟨hc, hk⟩ := snk_c8 (Kd.R_drew R1.out) (k := 1) (by omega) (ys := lenB n) (by
    rw [lenB, if_pos hn]; rfl)
  have HC := Aside0.mk hc
  have HK := Aside0.mk hk
  have HD := Aside0.mk (H.out.below (w1 := W1.drew) (by rw [EG.out]; exact below_drew B1.out))
  have ni := nil_write s
  clear hc hk
  go_wp2_with fail
  go_region_held3 (fun _ => True) (trivial) ((go_at_call 115; (with_reducible refine (snk_write HD.out HC.out HK.out (by have := LL.out; have := (lenB_length n).2; omega)).mono ?_); rintro en w1 ⟨rfl, hS, hT⟩; have S1 := Aside0.mk hS; have T1 := Aside0.mk hT; clear hS hT))
  go_wp2_with fail
  go_ret
  exact ⟨rfl, S1.out, (Tch.of_below (by rw [EG.out]; exact below_drew B1.out)).trans T1.out⟩

set_option maxHeartbeats 1600000 in
set_option maxRecDepth 100000 in
theorem sl_two {base : Nat} {w : World} {s : Nat} {v : Value} {l : List Int} (h : Snk base w s v l) (hl : l.length ≤ 140737488355000) (n : Int) (h0 : 0 ≤ n) (h1 : n ≤ 4294967295) (hn : 192 ≤ n) (hn2 : n < 8384) :
    Calls Tryd.prog 70 #[.iface 98 (.pointer (some ⟨s, 0, none⟩)), .int .i64 n] w fun en w' => en = .returned .nilIface ∧ (∃ v', Snk base w' s v' (l ++ lenB n)) ∧ Tch (fun j => j = s ∨ v.ownBlock = some j) w w' := by
  obtain ⟨W0, eW, hR0, hB0⟩ := buf5 w
  have H := Aside0.mk h
  have R0 := Aside0.mk hR0
  have B0 := Aside0.mk hB0
  have gs : w.heap.size ≠ s := by have := h.lt; omega
  have GV := Aside0.mk (show v.ownBlock ≠ some w.heap.size from fun e => Nat.lt_irrefl _ (Kd.R_lt h.rd _ e))
  have LL := Aside0.mk hl
  clear h hR0 hB0 hl
  go_enter Tryd.func70, Tryd.ntmps70
  go_upto_region 2 with (fail)
  clear eW
  obtain ⟨g, eg⟩ : ∃ g, w.heap.size = g := ⟨_, rfl⟩
  have EG := Aside0.mk eg
  rw [eg] at gs GV R0 B0 ⊢
  clear eg
  go_wp2_with (first | ((with_reducible refine gate_store (t := 5) (p := 20) rfl ?_); refine store8 g (w0 := w) rfl rfl 5 (.tmp 20) (.tmp 19) rfl 187 g 5 5 0 _ _ rfl rfl infoB1 R0.out (by omega) B0.out ?_; intro W1 hR hB hG; have R1 := Aside0.mk hR; have B1 := Aside0.mk hB; clear hR hB hG) | ((with_reducible refine gate_store (t := 5) (p := 23) rfl ?_); refine store8 g (w0 := w) rfl rfl 5 (.tmp 23) (.tmp 22) rfl 187 g 5 5 1 _ _ rfl rfl infoB1 R1.out (by omega) B1.out ?_; intro W2 hR hB hG; have R2 := Aside0.mk hR; have B2 := Aside0.mk hB; clear hR hB hG))
  obtain ⟨hc, hk⟩ := snk_c8 (Kd.R_drew R2.out) (k := 2) (by omega) (ys := lenB n) (by
    rw [lenB, if_neg (by omega), if_pos hn2]; rfl)
  have HC := Aside0.mk hc
  have HK := Aside0.mk hk
  have HD := Aside0.mk (H.out.below (w1 := W2.drew) (by rw [EG.out]; exact below_drew B2.out))
  have ni := nil_write s
  clear hc hk
  go_wp2_with fail
  go_region_held3 (fun _ => True) (trivial) ((go_at_call 115; (with_reducible refine (snk_write HD.out HC.out HK.out (by have := LL.out; have := (lenB_length n).2; omega)).mono ?_); rintro en w1 ⟨rfl, hS, hT⟩; have S1 := Aside0.mk hS; have T1 := Aside0.mk hT; clear hS hT))
  go_wp2_with fail
  go_ret
  exact ⟨rfl, S1.out, (Tch.of_below (by rw [EG.out]; exact below_drew B2.out)).trans T1.out⟩

set_option maxHeartbeats 1600000 in
set_option maxRecDepth 100000 in
theorem sl_five {base : Nat} {w : World} {s : Nat} {v : Value} {l : List Int} (h : Snk base w s v l) (hl : l.length ≤ 140737488355000) (n : Int) (h0 : 0 ≤ n) (h1 : n ≤ 4294967295) (hn : 8384 ≤ n) :
    Calls Tryd.prog 70 #[.iface 98 (.pointer (some ⟨s, 0, none⟩)), .int .i64 n] w fun en w' => en = .returned .nilIface ∧ (∃ v', Snk base w' s v' (l ++ lenB n)) ∧ Tch (fun j => j = s ∨ v.ownBlock = some j) w w' := by
  obtain ⟨W0, eW, hR0, hB0⟩ := buf5 w
  have H := Aside0.mk h
  have R0 := Aside0.mk hR0
  have B0 := Aside0.mk hB0
  have gs : w.heap.size ≠ s := by have := h.lt; omega
  have GV := Aside0.mk (show v.ownBlock ≠ some w.heap.size from fun e => Nat.lt_irrefl _ (Kd.R_lt h.rd _ e))
  have LL := Aside0.mk hl
  clear h hR0 hB0 hl
  go_enter Tryd.func70, Tryd.ntmps70
  go_upto_region 2 with (fail)
  clear eW
  obtain ⟨g, eg⟩ : ∃ g, w.heap.size = g := ⟨_, rfl⟩
  have EG := Aside0.mk eg
  rw [eg] at gs GV R0 B0 ⊢
  clear eg
  go_wp2_with (first | ((with_reducible refine gate_store (t := 5) (p := 24) rfl ?_); refine store8 g (w0 := w) rfl rfl 5 (.tmp 24) (.const (.int .u8 255)) rfl 187 g 5 5 0 _ _ rfl rfl infoB1 R0.out (by omega) B0.out ?_; intro W1 hR hB hG; have R1 := Aside0.mk hR; have B1 := Aside0.mk hB; clear hR hB hG) | ((with_reducible refine gate_store (t := 5) (p := 28) rfl ?_); refine store8 g (w0 := w) rfl rfl 5 (.tmp 28) (.tmp 27) rfl 187 g 5 5 1 _ _ rfl rfl infoB1 R1.out (by omega) B1.out ?_; intro W2 hR hB hG; have R2 := Aside0.mk hR; have B2 := Aside0.mk hB; clear hR hB hG) | ((with_reducible refine gate_store (t := 5) (p := 32) rfl ?_); refine store8 g (w0 := w) rfl rfl 5 (.tmp 32) (.tmp 31) rfl 187 g 5 5 2 _ _ rfl rfl infoB1 R2.out (by omega) B2.out ?_; intro W3 hR hB hG; have R3 := Aside0.mk hR; have B3 := Aside0.mk hB; clear hR hB hG) | ((with_reducible refine gate_store (t := 5) (p := 36) rfl ?_); refine store8 g (w0 := w) rfl rfl 5 (.tmp 36) (.tmp 35) rfl 187 g 5 5 3 _ _ rfl rfl infoB1 R3.out (by omega) B3.out ?_; intro W4 hR hB hG; have R4 := Aside0.mk hR; have B4 := Aside0.mk hB; clear hR hB hG) | ((with_reducible refine gate_store (t := 5) (p := 39) rfl ?_); refine store8 g (w0 := w) rfl rfl 5 (.tmp 39) (.tmp 38) rfl 187 g 5 5 4 _ _ rfl rfl infoB1 R4.out (by omega) B4.out ?_; intro W5 hR hB hG; have R5 := Aside0.mk hR; have B5 := Aside0.mk hB; clear hR hB hG))
  obtain ⟨hc, hk⟩ := snk_c8 (Kd.R_drew R5.out) (k := 5) (by omega) (ys := lenB n) (by
    rw [lenB, if_neg (by omega), if_neg (by omega)]; rfl)
  have HC := Aside0.mk hc
  have HK := Aside0.mk hk
  have HD := Aside0.mk (H.out.below (w1 := W5.drew) (by rw [EG.out]; exact below_drew B5.out))
  have ni := nil_write s
  clear hc hk
  go_wp2_with fail
  go_region_held3 (fun _ => True) (trivial) ((go_at_call 115; (with_reducible refine (snk_write HD.out HC.out HK.out (by have := LL.out; have := (lenB_length n).2; omega)).mono ?_); rintro en w1 ⟨rfl, hS, hT⟩; have S1 := Aside0.mk hS; have T1 := Aside0.mk hT; clear hS hT))
  go_wp2_with fail
  go_ret
  exact ⟨rfl, S1.out, (Tch.of_below (by rw [EG.out]; exact below_drew B5.out)).trans T1.out⟩

theorem sl_calls {base : Nat} {w : World} {s : Nat} {v : Value} {l : List Int} (h : Snk base w s v l) (hl : l.length ≤ 140737488355000) (n : Int) (h0 : 0 ≤ n) (h1 : n ≤ 4294967295) : Calls Tryd.prog 70 #[.iface 98 (.pointer (some ⟨s, 0, none⟩)), .int .i64 n] w fun en w' => en = .returned .nilIface ∧ (∃ v', Snk base w' s v' (l ++ lenB n)) ∧ Tch (fun j => j = s ∨ v.ownBlock = some j) w w' := by
  by_cases a : n < 192
  · exact sl_one h hl n h0 h1 a
  · by_cases b : n < 8384
    · exact sl_two h hl n h0 h1 (by omega) b
    · exact sl_five h hl n h0 h1 (by omega)
end Go.Proofs.YtjdnnpfhlkgooaaDoor.Rd
