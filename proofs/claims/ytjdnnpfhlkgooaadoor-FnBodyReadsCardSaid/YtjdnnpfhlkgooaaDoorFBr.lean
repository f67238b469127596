/- laws.FnBodyReads. -/
import Derived.Test.YtjdnnpfhlkgooaaDoorBrd
import Derived.Test.YtjdnnpfhlkgooaaDoorRpp
import Derived.Test.YtjdnnpfhlkgooaaDoorSame
set_option linter.unusedVariables false
set_option linter.unusedSimpArgs false
namespace Go.Proofs.YtjdnnpfhlkgooaaDoor.Rd
open Go.RowKit Go.Proofs.YtjdnnpfhlkgooaaDoorW.PrintWords Go.Proofs.YtjdnnpfhlkgooaaDoorW.PrintMore Go.Proofs.YtjdnnpfhlkgooaaDoor.Kit
open Go.Proofs.YtjdnnpfhlkgooaaDoor

attribute [local go_sem] max2_int min2_int max_two min_two
theorem mid8 (A : Option Addr) (c : Nat) (l : List Int) (a k : Nat) (hk : a + k ≤ l.length) (hc : l.length ≤ c) :
    ∃ A', (∀ W : World, (Instr.slice 22 (.slice A l.length c) (some (.int .i64 (a : Int))) (some (.int .i64 ((a : Int) + (k : Int)))) none).run Tryd.prog W = .ok (.slice A' k (c - a)) W) ∧ (∀ w, C8 w A l → C8 w A' ((l.drop a).take k)) := by
  obtain ⟨i, hi, _, hsz, _⟩ := info_partsC (P := Tryd.prog) infoB
  obtain ⟨A', h1, h2, _⟩ := print_mid_of (P := Tryd.prog) (Value.int .u8) (0 : Int) 22 5 .i64 .i64 Tryd.underlying22 hi hsz A c l (a : Int) ((a : Int) + (k : Int)) (by omega) (by omega) (by omega) hc
  have e : (l.take ((a : Int) + (k : Int)).toNat).drop (a : Int).toNat = (l.drop a).take k := by
    rw [show ((a : Int) + (k : Int)).toNat = a + k by omega, Int.toNat_natCast, List.drop_take, Nat.add_sub_cancel_left]
  have el : ((l.drop a).take k).length = k := by rw [List.length_take, List.length_drop]; omega
  rw [e] at h1 h2
  refine ⟨A', fun W => ?_, fun w h => Kd.C_of_reads (h1 := fun _ => rfl) (h2 w (Kd.reads_of_C h))⟩
  rw [h1, el, Int.toNat_natCast]
theorem kT_open {W : World} {D : List Int} {e : Int} {cs : List Value} (h : kT.K W (D, e) cs) : ∃ A1 c1, cs = [.slice A1 D.length c1, .int .i64 e] ∧ C8 W A1 D := by
  obtain ⟨cs0, cs1, e0, ⟨A1, c1, e1, l1, r1⟩, e2⟩ := h
  have e2' : cs1 = [.int .i64 e] := e2
  subst e1 e2' e0
  exact ⟨A1, c1, rfl, r1⟩
theorem steps_cons {bd zs : List Int} {z : Int} {st : List (List Int × Int)} (h : StepsOf bd (z :: zs) st) : ∃ (k : Nat) (e : Int) (st' : List (List Int × Int)), st = (bd.take k, e) :: st' ∧ k ≤ bd.length ∧ (k : Int) ≤ max 0 (min z 65536) ∧ (e = 0 ∨ e = 1 ∧ bd = []) ∧ StepsOf (bd.drop k) zs st' := by
  cases h with
  | cons a b c d => exact ⟨_, _, _, rfl, a, b, c, d⟩
set_option maxRecDepth 100000 in
theorem br_big {w : World} {A As : Option Addr} {c cz n zn : Nat} {split : Int} (hz : 2147483647 < n) : Calls Tryd.prog 3 #[.slice A n c, .int .i64 split, .slice As zn cz] w fun e w' => e = .returned (.bool true) ∧ Below w.heap.size w w' := by
  go_enter Tryd.func3, Tryd.ntmps3
  go_wp2_with fail
  go_ret
  exact ⟨rfl, Below.refl _ _⟩
set_option maxRecDepth 100000 in
theorem br_big2 {w : World} {A As : Option Addr} {c cz n zn : Nat} {split : Int} (hz : ¬ 2147483647 < n) (hz2 : 2147483647 < zn) : Calls Tryd.prog 3 #[.slice A n c, .int .i64 split, .slice As zn cz] w fun e w' => e = .returned (.bool true) ∧ Below w.heap.size w w' := by
  go_enter Tryd.func3, Tryd.ntmps3
  go_wp2_with fail
  go_ret
  exact ⟨rfl, Below.refl _ _⟩
set_option maxRecDepth 100000 in
theorem br_mid {w : World} {A As : Option Addr} {c cz n zn : Nat} {split : Int} (hz : ¬ 2147483647 < n) (hz2 : ¬ 2147483647 < zn) (hy : 1048576 < n) : Calls Tryd.prog 3 #[.slice A n c, .int .i64 split, .slice As zn cz] w fun e w' => e = .returned (.bool true) ∧ Below w.heap.size w w' := by
  go_enter Tryd.func3, Tryd.ntmps3
  go_wp2_with fail
  go_ret
  exact ⟨rfl, Below.refl _ _⟩
set_option maxRecDepth 100000 in
theorem br_mid2 {w : World} {A As : Option Addr} {c cz n zn : Nat} {split : Int} (hz : ¬ 2147483647 < n) (hz2 : ¬ 2147483647 < zn) (hy : ¬ 1048576 < n) (hy2 : 10000 < zn) : Calls Tryd.prog 3 #[.slice A n c, .int .i64 split, .slice As zn cz] w fun e w' => e = .returned (.bool true) ∧ Below w.heap.size w w' := by
  go_enter Tryd.func3, Tryd.ntmps3
  go_wp2_with fail
  go_ret
  exact ⟨rfl, Below.refl _ _⟩
set_option maxHeartbeats 1600000 in
set_option maxRecDepth 100000 in
theorem br_pno {w : World} {A As : Option Addr} {c cz n zn : Nat} {l zs : List Int} {split : Int} (hr : C8 w A l) (hc : l.length ≤ c) (hn : n = l.length) (hz : ¬ 2147483647 < n) (hz2 : ¬ 2147483647 < zn) (hy : ¬ 1048576 < n) (hy2 : ¬ 10000 < zn) {k : Nat} {hw : Int} (hw0 : hw ≠ 0) (hs : PFnBodyReads.spec_ReadPacket.f k l = some (0, [], 0, hw)) : Calls Tryd.prog 3 #[.slice A n c, .int .i64 split, .slice As zn cz] w fun e w' => e = .returned (.bool true) ∧ Below w.heap.size w w' := by
  have HS := Aside0.mk hs
  clear hs
  have HR := Aside0.mk hr
  have HC := Aside0.mk hc
  have HN := Aside0.mk hn
  clear hr hc hn
  go_enter Tryd.func3, Tryd.ntmps3
  go_wp2_with fail
  rw [HN.out]
  refine (PFnBodyReads.spec_ReadPacket.calls k A c l 0 [] 0 hw w HR.out HC.out HS.out).mono ?_
  rw [← HN.out]
  rintro en w1 ⟨v1, rfl, hR, hB⟩
  obtain ⟨A1, c1, e1, hc1, hC1⟩ := r8_reads hR
  subst e1
  have hwb : (hw != 0) = true := bne_iff_ne.2 hw0
  have B1 := Aside0.mk (below_then hB hB.size (below_alloc (Below.refl _ _) (.cells #[.int .i64 0, .slice A1 ([] : List Int).length c1] 25)))
  clear hR hB hC1 hc1
  go_wp2_with fail
  go_ret
  exact ⟨rfl, B1.out⟩
set_option maxHeartbeats 3200000 in
set_option maxRecDepth 100000 in
theorem br_law {w : World} {A As : Option Addr} {c cz n zn : Nat} {l zs : List Int} {split : Int} (hr : C8 w A l) (hc : l.length ≤ c) (hn : n = l.length) (hz : ¬ 2147483647 < n) (hz2 : ¬ 2147483647 < zn) (hy : ¬ 1048576 < n) (hy2 : ¬ 10000 < zn) {k : Nat} {tg sz : Int} {bd : List Int} (hs : PFnBodyReads.spec_ReadPacket.f k l = some (tg, bd, sz, 0)) (hbl : bd.length ≤ 100000000)
    (hz1 : (Kd.int .i64).C w As zs.length zs) (hzc : zn ≤ cz) (ezn : zn = zs.length)
    (BRC : ∀ W, Below w.heap.size w W → Calls Tryd.prog 10 #[.slice A n c, .int .i64 split, .slice As zn cz] W fun en w' => ∃ v, en = .returned (.tuple #[v, .int .i64 0]) ∧ ∃ st, kT.R 32 w' W.heap.size (fun _ => True) v st ∧ StepsOf bd zs st ∧ Below W.heap.size W w') :
    Calls Tryd.prog 3 #[.slice A n c, .int .i64 split, .slice As zn cz] w fun e w' => e = .returned (.bool true) ∧ Below w.heap.size w w' := by
  have HS := Aside0.mk hs
  have HZ := Aside0.mk (And.intro hz1 (And.intro ezn hbl))
  have BC := Aside0.mk BRC
  clear hs hz1 ezn BRC hbl
  have HR := Aside0.mk hr
  have HC := Aside0.mk hc
  have HN := Aside0.mk hn
  clear hr hc hn
  go_enter Tryd.func3, Tryd.ntmps3
  go_wp2_with fail
  rw [HN.out]
  refine (PFnBodyReads.spec_ReadPacket.calls k A c l tg bd sz 0 w HR.out HC.out HS.out).mono ?_
  rw [← HN.out]
  rintro en w1 ⟨v1, rfl, hR, hB⟩
  obtain ⟨A1, c1, e1, hc1, hC1⟩ := r8_reads hR
  subst e1
  obtain ⟨nb, enb⟩ : ∃ m, bd.length = m := ⟨_, rfl⟩
  rw [enb] at hc1 ⊢
  obtain ⟨W1, eW1, hp1, hB1⟩ : ∃ W1, w1.alloc (.cells #[.int .i64 tg, .slice A1 nb c1] 25) = W1 ∧ W1.heap[w1.heap.size]? = some (.cells #[.int .i64 tg, .slice A1 nb c1] 25 (0, 0)) ∧ Below w1.heap.size w1 W1 := ⟨_, rfl, heap_alloc_new _ _, below_alloc (Below.refl _ _) _⟩
  have p1 : W1.cell? ⟨w1.heap.size, 1, none⟩ = some (.slice A1 nb c1) := (cell_of_row _ _ 1 _ _ _ hp1).trans rfl
  have X1 := Aside0.mk (And.intro (Kd.C_below hC1 hB1) hc1)
  have B1 := Aside0.mk (below_then hB hB.size hB1)
  have PP1 := Aside0.mk p1
  have ENB := Aside0.mk enb
  have BC1 := Aside0.mk (BC.out W1 B1.out)
  have L1 := Aside0.mk (World.block_lt_of_cell? W1 _ p1)
  clear hR hB hC1 hc1 hp1 hB1 BC
  go_wp2_with fail
  clear eW1
  obtain ⟨b1, eb1⟩ : ∃ b1, w1.heap.size = b1 := ⟨_, rfl⟩
  rw [eb1] at p1 PP1 L1 ⊢
  clear eb1
  refine BC1.out.mono ?_
  rintro en w2 ⟨v, rfl, st, hV, hst, hB⟩
  obtain ⟨AO, cO, rfl, _, hCO⟩ := Kd.R_reads hV
  rw [hst.len, ← HZ.out.2.1]
  have CO := Aside0.mk (And.intro hCO hst)
  have B2 := Aside0.mk (below_then B1.out B1.out.size hB)
  have B12 := Aside0.mk hB
  clear hV hCO hst hB
  go_wp2_with fail
  go_loopw [12, 79] (fun av iv wr => ∃ (i a : Nat), av = .int .i64 (a : Int) ∧ iv = .int .i64 (i : Int) ∧ i ≤ zn ∧ a ≤ nb ∧ Aside0 (StepsOf (bd.drop a) (zs.drop i) (st.drop i)) ∧ Aside0 (Below w2.heap.size w2 wr)) (fun _ iv _ => zn - (intOf iv).toNat)
  case atStart => exact ⟨0, 0, rfl, rfl, Nat.zero_le _, Nat.zero_le _, ⟨CO.out.2⟩, ⟨Below.refl _ _⟩⟩
  case round =>
    obtain ⟨i, a, rfl, rfl, hi, ha, HS2, HW⟩ := hrel
    have BW := Aside0.mk (below_then B2.out B2.out.size HW.out)
    have BX := Aside0.mk (below_then B12.out B12.out.size HW.out)
    by_cases hlt : i < zn
    · have ez := HZ.out.2.1
      have q1 : zs.drop i = zs[i]'(by omega) :: zs.drop (i + 1) := List.drop_eq_getElem_cons (by omega)
      obtain ⟨z, zi⟩ : ∃ z, z = zs[i]'(by omega) := ⟨_, rfl⟩
      have hst := HS2.out
      rw [q1, ← zi] at hst
      obtain ⟨k, e, st', est, k1, k2, ho, hrest⟩ := steps_cons hst
      have sl : i < st.length := by rcases Nat.lt_or_ge i st.length with h | h; exact h; rw [List.drop_of_length_le h] at est; cases est
      rw [List.drop_eq_getElem_cons sl] at est
      injection est with est1 est2
      subst est2
      obtain ⟨az, cs, eA, _, hK, hcc⟩ := Kd.C_get (Kd.C_below HZ.out.1 BW.out) (0 : Int) (i : Int) (by omega) (by omega)
      subst eA
      rw [Int.toNat_natCast, List.getD_eq_getElem?_getD, List.getElem?_eq_getElem (by omega), Option.getD_some, ← zi] at hK
      rw [Int.toNat_natCast] at hcc
      have hK' : cs = [.int .i64 z] := hK
      subst hK'
      have z0 : wr.cell? (az.add (i * 1)) = some (.int .i64 z) := hcc 0 _ rfl
      rw [Nat.mul_one] at z0
      obtain ⟨ad, cs, eA, _, hK2, hcc2⟩ := Kd.C_get (Kd.C_below CO.out.1 HW.out) ([], 0) (i : Int) (by omega) (by omega)
      subst eA
      rw [Int.toNat_natCast, List.getD_eq_getElem?_getD, List.getElem?_eq_getElem sl, Option.getD_some, est1] at hK2
      rw [Int.toNat_natCast] at hcc2
      obtain ⟨A2, c2, rfl, r2⟩ := kT_open hK2
      have lk : (bd.drop a |>.take k).length = k := by rw [List.length_take]; omega
      rw [lk] at hcc2
      have y0 : wr.cell? (ad.add (i * 2)) = some (.slice A2 k c2) := hcc2 0 _ rfl
      have y1 : wr.cell? ⟨(ad.add (i * 2)).block, (ad.add (i * 2)).off + 1, none⟩ = some (.int .i64 e) := by rw [← add_field _ _ 1 (by omega)]; exact hcc2 1 _ rfl
      obtain ⟨W, eW⟩ : ∃ W, wr.alloc (.cells #[.slice A2 k c2, .int .i64 e] 32) = W := ⟨_, rfl⟩
      have hrow := heap_alloc_new wr (.cells #[.slice A2 k c2, .int .i64 e] 32)
      have BA : Below wr.heap.size wr W := eW ▸ below_alloc (Below.refl _ _) _
      rw [eW] at hrow
      have zW : W.cell? (az.add i) = some (.int .i64 z) := (BA.cell (World.block_lt_of_cell? wr _ z0)).trans z0
      have pW : W.cell? ⟨b1, 1, none⟩ = some (.slice A1 nb c1) := ((BX.out.cell (p := ⟨b1, 1, none⟩) L1.out).trans PP1.out |> fun h => (BA.cell (World.block_lt_of_cell? wr _ h)).trans h)
      rw [List.length_drop, ENB.out] at k1
      have ka : a + k ≤ nb := by omega
      have ka2 : (k : Int) ≤ (nb : Int) - (a : Int) := by omega
      have nab : nb ≤ 100000000 := by have := HZ.out.2.2; have := ENB.out; omega
      obtain ⟨A3, m1, m2⟩ := mid8 A1 c1 bd a k (by have := ENB.out; omega) (by have := X1.out.2; have := ENB.out; omega)
      rw [ENB.out] at m1
      have SC := Aside0.mk (fun (W' : World) (h : Below W.heap.size W W') => same_calls (w := W') (A := A2) (B := A3) (c := c2) (d := c1 - a) (n := k) (m := k) (Kd.C_below (Kd.C_below r2 BA) h) (Kd.C_below (Kd.C_below (m2 _ (Kd.C_below X1.out.1 BX.out)) BA) h) rfl lk.symm lk.symm)
      have HX := Aside0.mk (And.intro ho (And.intro hrest (And.intro hrow BA)))
      have iklt : (i : Int) < (zn : Int) := by omega
      have ik0 : (0 : Int) ≤ (i : Int) := by omega
      have aI : (a : Int) + (k : Int) ≤ (nb : Int) := by omega
      have KZ := Aside0.mk k2
      clear ez q1 zi hst k2 ho hrest est1 hK hcc hK2 hcc2 r2 lk m2 hrow BA
      go_upto_region 15 with (fail)
      clear eW
      obtain ⟨g, eg⟩ : ∃ g, wr.heap.size = g := ⟨_, rfl⟩
      have hrow := HX.out.2.2.1
      rw [eg] at hrow ⊢
      have x0 : W.cell? ⟨g, 0, none⟩ = some (.slice A2 k c2) := (cell_of_row _ _ 0 _ _ _ hrow).trans rfl
      have x1 : W.cell? ⟨g, 1, none⟩ = some (.int .i64 e) := (cell_of_row _ _ 1 _ _ _ hrow).trans rfl
      have gl := World.block_lt_of_cell? W _ x0
      have bl := World.block_lt_of_cell? W _ pW
      have HX1 := Aside0.mk (And.intro x0 (And.intro x1 pW))
      clear eg hrow y0 y1 z0
      have r1 : ¬ (nb : Int) - (a : Int) < (k : Int) := by omega
      have wz : IntKind.i64.wrap ((nb : Int) - (a : Int)) = (nb : Int) - (a : Int) := IntWalk.i64_in _ (by omega)
      have wz2 : IntKind.i64.wrap ((a : Int) + (k : Int)) = (a : Int) + (k : Int) := IntWalk.i64_in _ (by omega)
      have zl := World.block_lt_of_cell? W _ zW
      have hS0 : (W.cell? ⟨g, 0, none⟩ = some (.slice A2 k c2) ∧ W.cell? ⟨g, 1, none⟩ = some (.int .i64 e) ∧ W.cell? ⟨b1, 1, none⟩ = some (.slice A1 nb c1) ∧ W.cell? (az.add i) = some (.int .i64 z)) := ⟨x0, x1, pW, zW⟩
      have RB := Aside0.mk (show ∀ w5, Below W.heap.size W w5 → (w5.cell? ⟨g, 0, none⟩ = some (.slice A2 k c2) ∧ w5.cell? ⟨g, 1, none⟩ = some (.int .i64 e) ∧ w5.cell? ⟨b1, 1, none⟩ = some (.slice A1 nb c1) ∧ w5.cell? (az.add i) = some (.int .i64 z)) from fun w5 hB => ⟨(hB.cell (p := ⟨g, 0, none⟩) gl).trans HX1.out.1, (hB.cell (p := ⟨g, 1, none⟩) gl).trans HX1.out.2.1, (hB.cell (p := ⟨b1, 1, none⟩) bl).trans HX1.out.2.2, (hB.cell zl).trans zW⟩)
      obtain ⟨mz, hmz⟩ : ∃ m, (if 65536 < z then (65536 : Int) else z) = m := ⟨_, rfl⟩
      obtain ⟨M, hM⟩ : ∃ m, (if 0 < mz then mz else (0 : Int)) = m := ⟨_, rfl⟩
      have hd : decide (M < (k : Int)) = false := decide_eq_false (by have q := KZ.out; split at hmz <;> split at hM <;> omega)
      have hd2 : decide ((nb : Int) - (a : Int) < (k : Int)) = false := decide_eq_false r1
      clear r1
      go_wp2_with fail
      go_region_held3 (fun w' => w'.cell? ⟨g, 0, none⟩ = some (.slice A2 k c2) ∧ w'.cell? ⟨g, 1, none⟩ = some (.int .i64 e) ∧ w'.cell? ⟨b1, 1, none⟩ = some (.slice A1 nb c1) ∧ w'.cell? (az.add i) = some (.int .i64 z)) (first | exact hS0 | assumption | go_keep) ((go_at_call 11; (with_reducible refine (SC.out _ (below_drew (Below.refl _ _))).mono ?_); rintro en w5 ⟨rfl, hB⟩; have hB5 : Below W.heap.size W w5 := below_then (below_drew (Below.refl _ W)) (Nat.le_refl _) hB; clear hB; have hB0 := RB.out w5 hB5; have B5 := Aside0.mk hB5; clear hB5))
      have hrel2 : Aside0 (StepsOf (bd.drop (a + k)) (zs.drop (i + 1)) (st.drop (i + 1)) ∧ Below w2.heap.size w2 w5) := ⟨by have q := HX.out.2.1; rw [List.drop_drop] at q; exact q, below_then HW.out HW.out.size (below_then HX.out.2.2.2 HX.out.2.2.2.size B5.out)⟩
      have d0 := hB0.1
      have d1 := hB0.2.1
      have d2 := hB0.2.2.1
      have HO := Aside0.mk HX.out.1
      clear hS0 hB0 hmz hM hd hd2 wz x0 x1 pW zW zl gl bl
      rcases HO.out with e0 | ⟨e0, hb⟩
      · subst e0
        go_wp2_with fail
        exact ⟨⟨i + 1, a + k, by first | rfl | go_num, by first | rfl | go_num, hlt, ka, ⟨hrel2.out.1⟩, ⟨hrel2.out.2⟩⟩, by simp [intOf]; omega⟩
      · subst e0
        have q0 : ¬ (a : Int) + (k : Int) < (nb : Int) := by
          have q := congrArg List.length hb
          rw [List.length_drop, ENB.out, List.length_nil] at q
          omega
        go_wp2_with fail
        exact ⟨⟨i + 1, a + k, by first | rfl | go_num, by first | rfl | go_num, hlt, ka, ⟨hrel2.out.1⟩, ⟨hrel2.out.2⟩⟩, by simp [intOf]; omega⟩
    · obtain rfl : i = zn := by omega
      go_wp2_with fail
      go_ret
      exact ⟨rfl, BW.out⟩
theorem env_b {w W : World} {aE aU : Addr} (h : Env w w.heap.size aE aU) (hB : Below w.heap.size w W) : Env W W.heap.size aE aU := (h.kept (Tch.of_below (S := fun _ => False) hB) (fun _ f => f.elim)).up hB.size
theorem law_br (A : Option Addr) (c : Nat) (l : List Int) (split : Int) (As : Option Addr) (cz : Nat) (zs : List Int) (w : World) (hr : C8 w A l) (hc : l.length ≤ c) (hm : l.length ≤ maxLen) (hw : ∀ x ∈ l, (Lit.int .u8 x).wf = true) (hs : (Lit.int .i64 split).wf = true) (hr2 : (Kd.int .i64).C w As zs.length zs) (hc2 : zs.length ≤ cz) (hm2 : zs.length ≤ maxLen) (hw2 : ∀ x ∈ zs, (Lit.int .i64 x).wf = true) {aE aU : Addr} (hE : Env w w.heap.size aE aU) :
    Calls Tryd.prog 3 #[.slice A l.length c, .int .i64 split, .slice As zs.length cz] w fun e w' => e = .returned (.bool true) ∧ Below w.heap.size w w' := by
  by_cases hz : 2147483647 < l.length
  · exact br_big hz
  by_cases hz2 : 2147483647 < zs.length
  · exact br_big2 hz hz2
  by_cases hy : 1048576 < l.length
  · exact br_mid hz hz2 hy
  by_cases hy2 : 10000 < zs.length
  · exact br_mid2 hz hz2 hy hy2
  have hb : Bytes l := bytes_of hw
  have hzb : ∀ z ∈ zs, -9223372036854775808 ≤ z ∧ z ≤ 9223372036854775807 := fun z h => by
    have q := hw2 z h
    simp [Lit.wf, IntKind.min, IntKind.max, IntKind.signed, IntKind.bits] at q
    omega
  clear hw hm hw2 hm2 hs
  rcases hdr_total hb with ⟨e, hno⟩ | ⟨tg, n, bd, ok, rest, hh⟩
  · obtain ⟨h, h0, hs⟩ := sp_head_no hno hb
    exact br_pno (zs := zs) hr hc rfl hz hz2 hy hy2 h0 hs
  obtain ⟨k, hk⟩ := sp_head hh hb (by omega)
  cases ok with
  | false =>
    rw [if_neg (by simp)] at hk
    exact br_pno (zs := zs) hr hc rfl hz hz2 hy hy2 (by decide) hk
  | true =>
    rw [if_pos rfl] at hk
    have lb := hh.le
    refine br_law hr hc rfl hz hz2 hy hy2 hk (by omega) hr2 hc2 rfl (fun W hB => ?_)
    refine br_calls (tg := tg) (hn := n) (rest := rest) (Kd.C_below hr hB) hc rfl hb (env_b hE hB) (fun W' d s A' c' hS hE' => rdh_ok hh hS hE') (Kd.C_below hr2 hB) hc2 rfl (by omega) hzb
end Go.Proofs.YtjdnnpfhlkgooaaDoor.Rd
