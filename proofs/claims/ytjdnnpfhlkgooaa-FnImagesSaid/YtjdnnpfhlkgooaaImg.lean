/- spec.ImageHead, UserAttribute.ImageData, impl.Images. -/
import Derived.Test.YtjdnnpfhlkgooaaBox
import Derived.Test.YtjdnnpfhlkgooaaSbK
import Derived.Test.YtjdnnpfhlkgooaaSbl
import Derived.Test.YtjdnnpfhlkgooaaOwn
import Derived.Test.YtjdnnpfhlkgooaaCut
set_option linter.unusedVariables false
set_option linter.unusedSimpArgs false
namespace Go.Proofs.Ytjdnnpfhlkgooaa.Rd
open Go.RowKit Go.Proofs.YtjdnnpfhlkgooaaW.PrintWords Go.Proofs.YtjdnnpfhlkgooaaW.PrintMore Go.Proofs.Ytjdnnpfhlkgooaa.Kit

def head16 : List Int := [16, 0, 1, 1] ++ List.replicate 12 0
set_option maxHeartbeats 1600000 in
set_option maxRecDepth 100000 in
theorem ih_calls (w : World) : Calls Try.prog 9 #[] w fun en w' => ∃ v, en = .returned v ∧ R8 5 w' w.heap.size v head16 ∧ Below w.heap.size w w' := by
  obtain ⟨W, eW, hR, hB⟩ : ∃ W, w.alloc (.cells #[.int .u8 16, .int .u8 0, .int .u8 1, .int .u8 1] 5) = W ∧ R8 5 W w.heap.size (.slice (some ⟨w.heap.size, 0, none⟩) 4 4) [16, 0, 1, 1] ∧ Below w.heap.size w W := ⟨_, rfl, litN w [16, 0, 1, 1] (by simp), below_alloc (Below.refl _ _) _⟩
  have R0 := Aside0.mk hR
  have B0 := Aside0.mk hB
  clear hR hB
  go_enter Try.func9, Try.ntmps9
  go_wp2_with (at_builtin; refine Kd.R_append_zeros (Kd.int .u8) (w0 := w) w.heap.size rfl (.tmp 1) (.const (.int .i64 12)) 25 3 5 (.int .u8 0) 1 rfl Try.underlying25 Try.underlying3 infoB rfl (by decide) (by omega) _ [16, 0, 1, 1] 0 (12 : Int) (fun _ => True) rfl rfl rfl (fun _ _ => trivial) R0.out (by omega) B0.out B0.out.size (by decide) ?_; intro v1 w1 hR hB hG hat; have R1 := Aside0.mk hR; have B1 := Aside0.mk hB; clear hR hB hG hat)
  go_ret
  exact ⟨_, rfl, R1.out, B1.out⟩
/-- A slice of bytes as a value. -/
def kV : Kd (Option Addr × Nat × Nat) := Kd.scalar (fun p => Value.slice p.1 p.2.1 p.2.2) (fun _ => rfl)
theorem infoV : (Try.prog.info? 25).map (fun i => (i.zero, i.size, i.bytes)) = some (some (.slice none 0 0), 1, 24) := by kernel_rfl
theorem infoPt : (Try.prog.info? 70).map (fun i => (i.zero, i.size, i.bytes)) = some (some (.pointer none), 1, 8) := by kernel_rfl
/-- What these slices read. -/
def Reads (w : World) (ps : List (Option Addr × Nat × Nat)) (ls : List (List Int)) : Prop :=
  ps.length = ls.length ∧ ∀ (i : Nat) (p : Option Addr × Nat × Nat) (l : List Int), ps[i]? = some p → ls[i]? = some l → p.2.1 = l.length ∧ p.2.1 ≤ p.2.2 ∧ C8 w p.1 l
theorem Reads.nil (w : World) : Reads w [] [] := ⟨rfl, fun i p l h => by simp at h⟩
theorem Reads.below {w w1 : World} {ps : List (Option Addr × Nat × Nat)} {ls : List (List Int)} (h : Reads w ps ls) (hB : Below w.heap.size w w1) : Reads w1 ps ls :=
  ⟨h.1, fun i p l h1 h2 => ⟨(h.2 i p l h1 h2).1, (h.2 i p l h1 h2).2.1, Kd.C_below (h.2 i p l h1 h2).2.2 hB⟩⟩
theorem Reads.snoc {w : World} {ps : List (Option Addr × Nat × Nat)} {ls : List (List Int)} {A : Option Addr} {n c : Nat} {l : List Int} (h : Reads w ps ls) (e : n = l.length) (hc : n ≤ c) (hr : C8 w A l) : Reads w (ps ++ [(A, n, c)]) (ls ++ [l]) := by
  refine ⟨by rw [List.length_append, List.length_append, h.1]; rfl, fun i p q h1 h2 => ?_⟩
  by_cases hi : i < ps.length
  · rw [List.getElem?_append_left hi] at h1
    rw [List.getElem?_append_left (by rw [← h.1]; exact hi)] at h2
    exact h.2 i p q h1 h2
  · rw [List.getElem?_append_right (by omega)] at h1
    rw [List.getElem?_append_right (by rw [← h.1]; omega), ← h.1] at h2
    match hj : i - ps.length with
    | 0 =>
      rw [hj] at h1 h2
      simp at h1 h2
      subst h1 h2
      exact ⟨e, hc, hr⟩
    | j + 1 => rw [hj] at h1; simp at h1
def isImg (s : Int × List Int × List Int) : Bool := decide (s.1 = 1) && decide (16 < s.2.2.length)
/-- The images of subpackets. -/
def imgs (ss : List (Int × List Int × List Int)) : List (List Int) := (ss.filter isImg).map (fun s => s.2.2.drop 16)
theorem imgs_take {ss : List (Int × List Int × List Int)} {k : Nat} {s : Int × List Int × List Int} (h : ss[k]? = some s) : imgs (ss.take (k + 1)) = imgs (ss.take k) ++ (if isImg s = true then [s.2.2.drop 16] else []) := by
  unfold imgs
  rw [List.take_add_one, h, List.filter_append, List.map_append]
  congr 1
  by_cases q : isImg s = true
  · simp [q]
  · simp [q]
theorem imgs_len (ss : List (Int × List Int × List Int)) (k : Nat) : (imgs (ss.take k)).length ≤ k := by
  unfold imgs
  rw [List.length_map]
  exact Nat.le_trans (List.length_filter_le _ _) (by rw [List.length_take]; omega)
theorem kS_cells {W : World} {x : Int} {E C : List Int} {cs : List Value} (h : kS.K W (x, E, C) cs) : ∃ A1 c1 A2 c2, cs = [.int .u8 x, .slice A1 E.length c1, .slice A2 C.length c2] ∧ E.length ≤ c1 ∧ C8 W A1 E ∧ C.length ≤ c2 ∧ C8 W A2 C := by
  obtain ⟨cs0, cs1, e, e0, cs2, cs3, e', ⟨A1, c1, e1, l1, r1⟩, ⟨A2, c2, e2, l2, r2⟩⟩ := h
  have e0' : cs0 = [.int .u8 x] := e0
  have e1' : cs2 = [.slice A1 E.length c1] := e1
  have e2' : cs3 = [.slice A2 C.length c2] := e2
  subst e0' e1' e2' e' e
  exact ⟨A1, c1, A2, c2, rfl, l1, r1, l2, r2⟩
/-- A pointer to a subpacket. -/
abbrev kB : Kd (Int × List Int × List Int) := box 73 kS
theorem kB_get {w W : World} {A : Option Addr} {n : Nat} {ss : List (Int × List Int × List Int)} (h : kB.C w A n ss) (hB : Below w.heap.size w W) {k : Nat} (hk : k < n) {x : Int} {E C : List Int} (es : ss[k]? = some (x, E, C)) :
    ∃ ad b A1 c1 A2 c2, A = some ad ∧ W.cell? (ad.add k) = some (.pointer (some ⟨b, 0, none⟩)) ∧ W.cell? ⟨b, 0, none⟩ = some (.int .u8 x) ∧ W.cell? ⟨b, 1, none⟩ = some (.slice A1 E.length c1) ∧ W.cell? ⟨b, 2, none⟩ = some (.slice A2 C.length c2) ∧ C.length ≤ c2 ∧ C8 w A2 C := by
  obtain ⟨ad, cs, rfl, _, hK, hcc⟩ := Kd.C_get h (0, [], []) (k : Int) (by omega) (by omega)
  rw [Int.toNat_natCast, List.getD_eq_getElem?_getD, es, Option.getD_some] at hK
  obtain ⟨b, cb, rfl, hKb, hcb⟩ := hK
  obtain ⟨A1, c1, A2, c2, rfl, l1, r1, l2, r2⟩ := kS_cells hKb
  have q := hcc 0 _ rfl
  rw [Int.toNat_natCast, show k * kB.sz + 0 = k by show k * 1 + 0 = k; omega] at q
  exact ⟨ad, b, A1, c1, A2, c2, rfl, (hB.cell (World.block_lt_of_cell? w _ q)).trans q, (hB.cell (p := ⟨b, 0, none⟩) (World.block_lt_of_cell? w _ (hcb 0 _ rfl))).trans (hcb 0 _ rfl), (hB.cell (p := ⟨b, 1, none⟩) (World.block_lt_of_cell? w _ (hcb 1 _ rfl))).trans (hcb 1 _ rfl), (hB.cell (p := ⟨b, 2, none⟩) (World.block_lt_of_cell? w _ (hcb 2 _ rfl))).trans (hcb 2 _ rfl), l2, r2⟩
set_option maxHeartbeats 1600000 in
set_option maxRecDepth 100000 in
theorem id_calls {w : World} {u : Nat} {A : Option Addr} {n c : Nat} {ss : List (Int × List Int × List Int)} (x0 : w.cell? ⟨u, 0, none⟩ = some (.slice A n c)) (hC : kB.C w A n ss) (hn : n ≤ 100000000) (hl : ∀ s, s ∈ ss → s.2.2.length ≤ 100000000) :
    Calls Try.prog 26 #[.pointer (some ⟨u, 0, none⟩)] w fun en w' => ∃ v ps, en = .returned v ∧ kV.R 25 w' w.heap.size (fun _ => True) v ps ∧ Reads w ps (imgs ss) ∧ Below w.heap.size w w' := by
  have HC := Aside0.mk (And.intro hC hl)
  have EN := Aside0.mk (Kd.C_len hC)
  have n9 : n ≤ 9223372036854775807 := by omega
  clear hC hl
  go_enter Try.func26, Try.ntmps26
  go_wp2_with fail
  go_loopw [2, 10] (fun ov iv wr => ∃ (k : Nat) (ps : List (Option Addr × Nat × Nat)), iv = .int .i64 (k : Int) ∧ k ≤ n ∧ Aside0 (kV.R 25 wr w.heap.size (fun _ => True) ov ps ∧ Reads w ps (imgs (ss.take k))) ∧ Aside0 (Below w.heap.size w wr)) (fun _ iv _ => n - (intOf iv).toNat)
  case atStart => exact ⟨0, [], rfl, Nat.zero_le _, ⟨Kd.R_nil _ _ _ _ _, Reads.nil _⟩, ⟨Below.refl _ _⟩⟩
  case round =>
    obtain ⟨k, ps, rfl, hk, HR, HB⟩ := hrel
    by_cases hlt : k < n
    · obtain ⟨⟨x, E, C⟩, es⟩ : ∃ s, ss[k]? = some s := ⟨ss[k]'(by have := EN.out; omega), List.getElem?_eq_getElem _⟩
      obtain ⟨ad, b, A1, c1, A2, c2, rfl, hx, y0, y1, y2, l2, r2⟩ := kB_get HC.out.1 HB.out hlt es
      obtain ⟨m, em⟩ : ∃ m, C.length = m := ⟨_, rfl⟩
      rw [em] at y2 l2
      have ml : m ≤ 100000000 := by rw [← em]; exact HC.out.2 _ (List.mem_of_getElem? es)
      have EM := Aside0.mk em
      have ES := Aside0.mk (imgs_take es)
      have RC := Aside0.mk r2
      have CL := Aside0.mk (show ps.length ≤ 100000000 by have := imgs_len ss k; have := HR.out.2.1; omega)
      have iklt : (k : Int) < (n : Int) := by omega
      have ik0 : (0 : Int) ≤ (k : Int) := by omega
      clear es em r2 y1
      by_cases hx1 : x = 1
      · subst hx1
        by_cases hm : 16 < m
        · have im : (16 : Int) < (m : Int) := by omega
          have HM := Aside0.mk hm
          obtain ⟨A3, q1, q2, _⟩ := drop8 (P := Try.prog) Try.underlying25 infoB A2 c2 C 16 (by have := EM.out; omega) (by have := EM.out; omega) EM.out.symm
          have q3 : ∀ W : World, (Instr.slice 25 (.slice A2 m c2) (some (.int .i64 16)) none none).run Try.prog W = .ok (.slice A3 (m - 16) (c2 - 16)) W := q1
          have RD := Aside0.mk (q2 w RC.out)
          have L2 := Aside0.mk l2
          clear q1 q2 l2
          go_upto_region 5 with (fail)
          go_upto_region 6 with (((with_reducible refine gate_dst (N := 34) rfl ?_); refine Kd.R_append kV (w0 := w) (W := wr) w.heap.size rfl (.tmp 27) (.tmp 33) 24 25 (.slice none 0 0) 24 rfl Try.underlying24 infoV rfl (by decide) (by decide) _ ps (A3, m - 16, c2 - 16) [.slice A3 (m - 16) (c2 - 16)] (fun _ => True) (fun _ => False) rfl rfl rfl (fun _ h => h.elim) (fun _ _ => trivial) HR.out.1 HB.out HB.out.size (by have := CL.out; omega) ?_; intro v1 w2 hR hB hG hAt; have R2 := Aside0.mk hR; have B2 := Aside0.mk hB; clear hR hB hG hAt))
          go_wp2_with fail
          go_roundw
          case rel =>
            refine ⟨k + 1, _, by first | rfl | go_num, hlt, ⟨R2.out, ?_⟩, B2⟩
            rw [ES.out, if_pos (by have := HM.out; have := EM.out; simp [isImg]; omega)]
            exact HR.out.2.snoc (by rw [List.length_drop, EM.out]) (by have := L2.out; omega) RD.out
          case measure => simp [intOf]; omega
        · have im : ¬ (16 : Int) < (m : Int) := by omega
          have HM := Aside0.mk hm
          go_wp2_with fail
          go_roundw
          case rel =>
            refine ⟨k + 1, ps, by first | rfl | go_num, hlt, ⟨HR.out.1, ?_⟩, HB⟩
            rw [ES.out, if_neg (by have := HM.out; have := EM.out; simp [isImg]; omega), List.append_nil]
            exact HR.out.2
          case measure => simp [intOf]; omega
      · have HX := Aside0.mk hx1
        go_wp2_with fail
        go_roundw
        case rel =>
          refine ⟨k + 1, ps, by first | rfl | go_num, hlt, ⟨HR.out.1, ?_⟩, HB⟩
          rw [ES.out, if_neg (by have := HX.out; simp [isImg]; omega), List.append_nil]
          exact HR.out.2
        case measure => simp [intOf]; omega
    · obtain rfl : k = n := by omega
      obtain ⟨h1, h2⟩ := HR.out
      rw [List.take_of_length_le (by have := EN.out; omega)] at h2
      have H2 := Aside0.mk (And.intro h1 h2)
      clear h1 h2
      go_wp2_with fail
      go_ret
      exact ⟨_, ps, rfl, H2.out.1, H2.out.2, HB.out⟩
end Go.Proofs.Ytjdnnpfhlkgooaa.Rd
