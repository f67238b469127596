/- impl.Images. -/
import Derived.Test.YtjdnnpfhlkgooaaImg
import Derived.Great.BuildSlice
set_option linter.unusedVariables false
set_option linter.unusedSimpArgs false
namespace Go.Proofs.Ytjdnnpfhlkgooaa.Rd
open Go.RowKit Go.Proofs.YtjdnnpfhlkgooaaW.PrintWords Go.Proofs.YtjdnnpfhlkgooaaW.PrintMore Go.Proofs.Ytjdnnpfhlkgooaa.Kit

theorem imgs_mem {ss : List (Int × List Int × List Int)} {l : List Int} (h : l ∈ imgs ss) : ∃ s, s ∈ ss ∧ l = s.2.2.drop 16 := by
  unfold imgs at h
  obtain ⟨s, hs, rfl⟩ := List.mem_map.1 h
  exact ⟨s, (List.mem_filter.1 hs).1, rfl⟩
theorem nu_calls (w : World) (v : Value) (A : Option Addr) (n c : Nat) (e : v = .slice A n c) : Calls Try.prog 25 #[v] w fun en w' => ∃ u, en = .returned (.pointer (some ⟨u, 0, none⟩)) ∧ w'.cell? ⟨u, 0, none⟩ = some (.slice A n c) ∧ Below w.heap.size w w' := by
  subst e
  go_enter Try.func25, Try.ntmps25
  go_wp2_with fail
  go_ret
  exact ⟨w.heap.size, rfl, by simp [go_sem], below_alloc (Below.refl _ _) _⟩
set_option maxHeartbeats 1600000 in
set_option maxRecDepth 100000 in
theorem im_calls {w : World} {A : Option Addr} {n c : Nat} {ss : List (Int × List Int × List Int)} (hC : kS.C w A n ss) (hn : n ≤ 10000000) (hl : ∀ s, s ∈ ss → s.2.1.length ≤ 100 ∧ s.2.2.length ≤ 100000000) :
    Calls Try.prog 11 #[.slice A n c] w fun en w' => ∃ v, en = .returned v ∧ (Kd.slice 5 (Kd.int .u8)).R 25 w' w.heap.size (fun _ => True) v (imgs ss) ∧ Below w.heap.size w w' := by
  have HC := Aside0.mk (And.intro hC hl)
  have EN := Aside0.mk (Kd.C_len hC)
  have n9 : n ≤ 9223372036854775807 := by omega
  clear hC hl
  go_enter Try.func11, Try.ntmps11
  go_wp2_with fail
  go_loopw [3, 11] (fun ov iv wr => ∃ (k : Nat) (rv : Value), ov = rv ∧ k ≤ n ∧ iv = .int .i64 (k : Int) ∧ Aside0 (kB.R 70 wr w.heap.size (fun _ => True) rv (ss.take k)) ∧ Aside0 (Below w.heap.size w wr)) (fun _ iv _ => n - (intOf iv).toNat)
  case atStart => exact ⟨0, _, rfl, Nat.zero_le _, rfl, ⟨Kd.R_nil _ _ _ _ _⟩, ⟨Below.refl _ _⟩⟩
  case round =>
    obtain ⟨k, rv, erv, hk, rfl, HR, HB⟩ := hrel
    obtain rfl := erv.symm
    by_cases hlt : k < n
    · obtain ⟨ad, cs, rfl, _, hK, hcc⟩ := Kd.C_get (Kd.C_below HC.out.1 HB.out) (0, [], []) (k : Int) (by omega) (by omega)
      obtain ⟨⟨x, E, C⟩, es⟩ : ∃ s, ss[k]? = some s := ⟨ss[k]'(by have := EN.out; omega), List.getElem?_eq_getElem _⟩
      rw [Int.toNat_natCast, List.getD_eq_getElem?_getD, es, Option.getD_some] at hK
      obtain ⟨A1, c1, A2, c2, rfl, l1, r1, l2, r2⟩ := kS_cells hK
      obtain ⟨nE, eE⟩ : ∃ n, E.length = n := ⟨_, rfl⟩
      obtain ⟨nC, eC⟩ : ∃ n, C.length = n := ⟨_, rfl⟩
      rw [eE, eC] at hcc
      rw [Int.toNat_natCast] at hcc
      have y0 : wr.cell? (ad.add (k * 3)) = some (.int .u8 x) := hcc 0 _ rfl
      have y1 : wr.cell? ⟨(ad.add (k * 3)).block, (ad.add (k * 3)).off + 1, none⟩ = some (.slice A1 nE c1) := by rw [← add_field _ _ 1 (by omega)]; exact hcc 1 _ rfl
      have y2 : wr.cell? ⟨(ad.add (k * 3)).block, (ad.add (k * 3)).off + 2, none⟩ = some (.slice A2 nC c2) := by rw [← add_field _ _ 2 (by omega)]; exact hcc 2 _ rfl
      obtain ⟨W, eW, hrow, BW⟩ : ∃ W, wr.alloc (.cells #[.int .u8 x, .slice A1 nE c1, .slice A2 nC c2] 65) = W ∧ W.heap[wr.heap.size]? = some (.cells #[.int .u8 x, .slice A1 nE c1, .slice A2 nC c2] 65 (0, 0)) ∧ Below wr.heap.size wr W := ⟨_, rfl, heap_alloc_new _ _, below_alloc (Below.refl _ _) _⟩
      have lens := HC.out.2 _ (List.mem_of_getElem? es)
      have RE := Aside0.mk (Kd.C_below r1 BW)
      have RC := Aside0.mk (Kd.C_below r2 BW)
      have LE := Aside0.mk (show nE = E.length ∧ E.length ≤ 140737488355328 from ⟨eE.symm, by have := lens.1; simp only at this; omega⟩)
      have LC := Aside0.mk (show nC = C.length ∧ C.length ≤ 140737488355328 from ⟨eC.symm, by have := lens.2; simp only at this; omega⟩)
      have ES := Aside0.mk es
      have HW := Aside0.mk (Kd.R_below HR.out BW)
      have B0 := Aside0.mk (below_then HB.out HB.out.size BW)
      have KL := Aside0.mk (show (ss.take k).length ≤ 10000000 by rw [List.length_take]; omega)
      have iklt : (k : Int) < (n : Int) := by omega
      have ik0 : (0 : Int) ≤ (k : Int) := by omega
      have SZ := Aside0.mk BW.size
      have LTR := Aside0.mk (show ∀ j, rv.ownBlock = some j → j < wr.heap.size from fun j e => Kd.R_lt HR.out j e)
      clear hK hcc es l1 l2 r1 r2 eE eC lens BW
      go_upto_region 5 with (fail)
      clear eW y0 y1 y2
      obtain ⟨g, eg⟩ : ∃ g, wr.heap.size = g := ⟨_, rfl⟩
      rw [eg] at hrow SZ LTR ⊢
      clear eg
      have x0 := (cell_of_row _ _ 0 _ _ _ hrow).trans rfl
      have x1 := (cell_of_row _ _ 1 _ _ _ hrow).trans rfl
      have x2 := (cell_of_row _ _ 2 _ _ _ hrow).trans rfl
      have gl := blk_lt hrow
      have hS0 : W.cell? ⟨g, 0, none⟩ = some (.int .u8 x) ∧ W.cell? ⟨g, 1, none⟩ = some (.slice A1 nE c1) ∧ W.cell? ⟨g, 2, none⟩ = some (.slice A2 nC c2) := ⟨x0, x1, x2⟩
      have RB := Aside0.mk (show ∀ w', Below W.heap.size W w' → w'.cell? ⟨g, 0, none⟩ = some (.int .u8 x) ∧ w'.cell? ⟨g, 1, none⟩ = some (.slice A1 nE c1) ∧ w'.cell? ⟨g, 2, none⟩ = some (.slice A2 nC c2) from fun w' hB => ⟨(hB.cell (p := ⟨g, 0, none⟩) gl).trans hS0.1, (hB.cell (p := ⟨g, 1, none⟩) gl).trans hS0.2.1, (hB.cell (p := ⟨g, 2, none⟩) gl).trans hS0.2.2⟩)
      have NG := Aside0.mk (show rv.ownBlock ≠ some g from fun e => by have := LTR.out g e; omega)
      clear hrow gl
      go_region_held3 (fun w' => w'.cell? ⟨g, 0, none⟩ = some (.int .u8 x) ∧ w'.cell? ⟨g, 1, none⟩ = some (.slice A1 nE c1) ∧ w'.cell? ⟨g, 2, none⟩ = some (.slice A2 nC c2)) (first | exact hS0 | assumption | go_keep) ((first | (go_at_call 24; (with_reducible refine (own_calls (Kd.C_below RE.out (below_drew (Below.refl _ _))) LE.out.1 LE.out.2).mono ?_); rintro en w5 ⟨v5, rfl, hR, hB⟩; obtain ⟨A5, c5', e5, _, _⟩ := Kd.R_reads hR; rw [← LE.out.1] at e5; subst e5; have hB5 : Below W.heap.size W w5 := below_then (below_drew (Below.refl _ W)) (Nat.le_refl _) hB; have R5 := Aside0.mk (Kd.R_mono (Kd.R_lower (Kd.R_bound hR) (show w.heap.size ≤ _ from B0.out.size)) (ok' := fun j => W.heap.size ≤ j) (fun j q => q.2.1)); have hB0 := RB.out w5 hB5; have B5 := Aside0.mk hB5; clear hR hB hB5) | (go_at_call 24; (with_reducible refine (own_calls (Kd.C_below RC.out B5.out) LC.out.1 LC.out.2).mono ?_); rintro en w6 ⟨v6, rfl, hR, hB⟩; obtain ⟨A6, c6', e6, _, _⟩ := Kd.R_reads hR; rw [← LC.out.1] at e6; subst e6; have hB6 : Below W.heap.size W w6 := below_then B5.out B5.out.size hB; have R6 := Aside0.mk (Kd.R_mono (Kd.R_lower (Kd.R_bound hR) (show w.heap.size ≤ _ from Nat.le_trans B0.out.size B5.out.size)) (ok' := fun j => W.heap.size ≤ j) (fun j q => Nat.le_trans B5.out.size q.2.1)); have T6 := Aside0.mk hB; have hB0 := RB.out w6 hB6; obtain ⟨W7, eW7, hrow7, hB7⟩ : ∃ W7, w6.alloc (.cells #[.int .u8 x, .slice A5 nE c5', .slice A6 nC c6'] 73) = W7 ∧ W7.heap[w6.heap.size]? = some (.cells #[.int .u8 x, .slice A5 nE c5', .slice A6 nC c6'] 73 (0, 0)) ∧ Below w6.heap.size w6 W7 := ⟨_, rfl, heap_alloc_new _ _, below_alloc (Below.refl _ _) _⟩; have hC0 := RB.out W7 (below_then hB6 hB6.size hB7); have B6 := Aside0.mk hB6; have B7 := Aside0.mk (And.intro hrow7 hB7); clear hR hB hB6 hrow7 hB7) | ((refine Kd.R_append_step kB (w0 := w) (W := W7) w.heap.size (by rfl) (.tmp 15) (.tmp 26) 69 70 (.pointer none) 8 rfl Try.underlying69 infoPt rfl (by decide) (by decide) _ (ss.take k) (x, E, C) [.pointer (some ⟨w6.heap.size, 0, none⟩)] (fun _ => True) (fun j => W.heap.size ≤ j) rfl rfl ?hp ?hk (fun _ _ => trivial) ?ho ?hB ?hz ?hl ?_; (case hp => exact ⟨w6.heap.size, [.int .u8 x, .slice A5 nE c5', .slice A6 nC c6'], rfl, B6.out.size, Nat.le_trans B0.out.size B6.out.size, B7.out.1, ⟨[.int .u8 x], [.slice A5 nE c5', .slice A6 nC c6'], rfl, rfl, [.slice A5 nE c5'], [.slice A6 nC c6'], rfl, ⟨_, rfl, Kd.R_below (Kd.R_below R5.out T6.out) B7.out.2⟩, ⟨_, rfl, Kd.R_below R6.out B7.out.2⟩⟩⟩); (case hk => intro j hj; exact ⟨trivial, fun e => by have := LTR.out j e.symm; have := SZ.out; omega⟩); (case ho => exact Kd.R_below (Kd.R_below HW.out B6.out) B7.out.2); (case hB => exact below_then (below_then B0.out B0.out.size B6.out) (Nat.le_trans B0.out.size B6.out.size) B7.out.2); (case hz => exact Nat.le_trans (Nat.le_trans B0.out.size B6.out.size) B7.out.2.size); (case hl => have := KL.out; omega); intro v1 w7 hR hB hG _; have hT := Tch.of_grown hG; have R9 := Aside0.mk hR; have B9 := Aside0.mk hB; have hB0 := And.intro (hT.cell (p := ⟨g, 0, none⟩) hC0.1 NG.out) (And.intro (hT.cell (p := ⟨g, 1, none⟩) hC0.2.1 NG.out) (hT.cell (p := ⟨g, 2, none⟩) hC0.2.2 NG.out)); clear hR hB hG hT))))
      go_wp2_with fail
      go_roundw
      case rel =>
        refine ⟨k + 1, v1, rfl, hlt, by first | rfl | go_num, ⟨?_⟩, B9⟩
        rw [List.take_add_one, ES.out]
        exact R9.out
      case measure => simp [intOf]; omega
    · obtain rfl : k = n := by omega
      have h1 := HR.out
      rw [List.take_of_length_le (by have := EN.out; omega)] at h1
      obtain ⟨A1, c1, e1, l1, r1⟩ := Kd.R_reads h1
      rw [EN.out] at e1 l1 r1
      subst e1
      have R1 := Aside0.mk r1
      have NU := Aside0.mk (fun W => nu_calls W (.slice A1 k c1) A1 k c1 rfl)
      clear h1 l1 r1
      go_wp2_with (go_at_call 25; (with_reducible refine (NU.out _).mono ?_); rintro en w2 ⟨u, rfl, xu, hB⟩; have XU := Aside0.mk xu; have BU := Aside0.mk hB; have ID := Aside0.mk (id_calls xu (Kd.C_below R1.out hB) (by omega) (fun s hs => (HC.out.2 s hs).2)); clear xu hB)
      refine ID.out.mono ?_
      rintro en w3 ⟨v, ps, rfl, hR, hP, hB⟩
      obtain ⟨A3, c3, rfl, l3, r3⟩ := Kd.R_reads hR
      obtain ⟨m, em⟩ : ∃ m, ps.length = m := ⟨_, rfl⟩
      rw [em] at r3 ⊢
      have P3 := Aside0.mk (hP.below hB)
      have R3 := Aside0.mk r3
      have EM := Aside0.mk em
      have B3 := Aside0.mk (below_then HB.out HB.out.size (below_then BU.out BU.out.size hB))
      have m9 : m ≤ 9223372036854775807 := Kd.C_max r3
      have ML := Aside0.mk (show m ≤ 10000000 by have q := imgs_len ss k; have e := hP.1; rw [List.take_of_length_le (by have := EN.out; omega)] at q; omega)
      have LL := Aside0.mk (show ∀ l, l ∈ imgs ss → l.length ≤ 100000000 from fun l hl => by obtain ⟨s, hs, rfl⟩ := imgs_mem hl; rw [List.length_drop]; have := (HC.out.2 s hs).2; omega)
      clear hR hP hB l3 r3 em ID XU BU R1
      go_wp2_with fail
      go_loopw [6, 33] (fun ov iv wr => ∃ (j : Nat) (rv : Value), ov = rv ∧ j ≤ m ∧ iv = .int .i64 (j : Int) ∧ Aside0 ((Kd.slice 5 (Kd.int .u8)).R 25 wr w3.heap.size (fun _ => True) rv ((imgs ss).take j)) ∧ Aside0 (Below w3.heap.size w3 wr)) (fun _ iv _ => m - (intOf iv).toNat)
      case atStart => exact ⟨0, _, rfl, Nat.zero_le _, rfl, ⟨Kd.R_nil _ _ _ _ _⟩, ⟨Below.refl _ _⟩⟩
      case round =>
        obtain ⟨j, rv, erv, hj, rfl, HR, HB⟩ := hrel
        obtain rfl := erv.symm
        by_cases hjl : j < m
        · obtain ⟨⟨AL, nL, cL⟩, ep⟩ : ∃ p, ps[j]? = some p := ⟨ps[j]'(by have := EM.out; omega), List.getElem?_eq_getElem _⟩
          obtain ⟨l, el⟩ : ∃ l, (imgs ss)[j]? = some l := ⟨(imgs ss)[j]'(by have := EM.out; have := P3.out.1; omega), List.getElem?_eq_getElem _⟩
          obtain ⟨ad, cs, rfl, _, hK, hcc⟩ := Kd.C_get (Kd.C_below R3.out HB.out) (none, 0, 0) (j : Int) (by omega) (by omega)
          rw [Int.toNat_natCast, List.getD_eq_getElem?_getD, ep, Option.getD_some] at hK
          have e1 : cs = [.slice AL nL cL] := hK
          subst e1
          have hx : wr.cell? (ad.add j) = some (.slice AL nL cL) := by
            have q := hcc 0 _ rfl
            rw [Int.toNat_natCast, show j * kV.sz + 0 = j by show j * 1 + 0 = j; omega] at q
            exact q
          obtain ⟨q1, q2, q3⟩ := P3.out.2 j _ _ ep el
          simp only at q1 q2 q3
          have OC := Aside0.mk (own_calls (w := wr) (c := cL) (Kd.C_below q3 HB.out) q1 (by have := LL.out l (List.mem_of_getElem? el); omega))
          have EL := Aside0.mk el
          have QL := Aside0.mk q1
          have iklt : (j : Int) < (m : Int) := by omega
          have ik0 : (0 : Int) ≤ (j : Int) := by omega
          have TL := Aside0.mk (show ((imgs ss).take j).length ≤ 10000000 by rw [List.length_take]; have := ML.out; omega)
          have RL := Aside0.mk (show ∀ b, rv.ownBlock = some b → b < wr.heap.size from fun b e => Kd.R_lt HR.out b e)
          clear hK hcc ep el q1 q2 q3
          go_wp2_with fail
          refine OC.out.mono ?_
          rintro en w4 ⟨v4, rfl, hR4, hB4⟩
          obtain ⟨A4, c4, e4, _, _⟩ := Kd.R_reads hR4
          rw [← QL.out] at e4
          subst e4
          have R4 := Aside0.mk (Kd.R_mono (Kd.R_lower (Kd.R_bound hR4) (show w3.heap.size ≤ _ from HB.out.size)) (ok' := fun b => wr.heap.size ≤ b) (fun b q => q.2.1))
          have HR4 := Aside0.mk (Kd.R_below HR.out hB4)
          have B4 := Aside0.mk (below_then HB.out HB.out.size hB4)
          clear hR4 hB4 hx
          go_upto_region 12 with (((with_reducible refine gate_dst (N := 41) rfl ?_); refine Kd.R_append (Kd.slice 5 (Kd.int .u8)) (w0 := w3) (W := w4) w3.heap.size rfl (.tmp 37) (.tmp 40) 24 25 (.slice none 0 0) 24 rfl Try.underlying24 infoV rfl (by decide) (by decide) _ ((imgs ss).take j) l [.slice A4 nL c4] (fun _ => True) (fun b => wr.heap.size ≤ b) rfl rfl ⟨_, rfl, R4.out⟩ (fun b hb => ⟨trivial, fun e => by have := RL.out b e.symm; omega⟩) (fun _ _ => trivial) HR4.out B4.out B4.out.size (by have := TL.out; omega) ?_; intro v1 w5 hR hB hG hAt; have R5 := Aside0.mk hR; have B5 := Aside0.mk hB; clear hR hB hG hAt))
          go_wp2_with fail
          go_roundw
          case rel =>
            exact ⟨j + 1, _, rfl, hjl, by first | rfl | go_num, ⟨by rw [List.take_add_one, EL.out]; exact R5.out⟩, B5⟩
          case measure => simp [intOf]; omega
        · obtain rfl : j = m := by omega
          rw [List.take_of_length_le (by have := EM.out; have := P3.out.1; omega)] at HR
          go_wp2_with fail
          go_ret
          exact ⟨_, rfl, Kd.R_lower HR.out B3.out.size, below_then B3.out B3.out.size HB.out⟩
end Go.Proofs.Ytjdnnpfhlkgooaa.Rd
