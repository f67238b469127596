/- The law FnWithoutRemarks. -/
import Derived.Test.YtjdnnpfhlkgooaaRmw
import Derived.Test.YtjdnnpfhlkgooaaPFnWithoutRemarksx1
import Derived.Test.YtjdnnpfhlkgooaaOpenK
set_option linter.unusedVariables false
set_option linter.unusedSimpArgs false
namespace Go.Proofs.Ytjdnnpfhlkgooaa.Rmk
open Go.RowKit Go.Proofs.YtjdnnpfhlkgooaaW.PrintWords Go.Proofs.YtjdnnpfhlkgooaaW.PrintMore Go.Proofs.Ytjdnnpfhlkgooaa.Kit Go.Proofs.Ytjdnnpfhlkgooaa.PFnWithoutRemarks

theorem fits_l0 {ns : List ByteArray} (hl : ns.length ≤ 2147483647) : ∀ (k j : Nat), ns.length < k + j → j ≤ ns.length → ∃ r, laws_zzFits17.l0 k ns (ns.length : Int) (j : Int) = some r := by
  intro k
  induction k with
  | zero => intro j h1 h2; omega
  | succ k ih =>
    intro j h1 h2
    by_cases h : j < ns.length
    · rw [laws_zzFits17.l0, if_pos (by omega), if_pos (by omega), if_pos (by omega)]
      by_cases hb : ((rdOf ByteArray.empty ns (j : Int)).size : Int) > 2147483647
      · exact ⟨false, if_pos hb⟩
      · rw [if_neg hb]
        have e : wrap64 ((j : Int) + 1) = ((j + 1 : Nat) : Int) := by rw [wrap64_id (by omega) (by omega)]; rfl
        rw [e]
        exact ih (j + 1) (by omega) (by omega)
    · exact ⟨true, by rw [laws_zzFits17.l0, if_neg (by omega)]⟩
theorem fits_f (ns : List ByteArray) : ∃ r, laws_zzFits17.f (ns.length + 1) ns = some r := by
  by_cases h : (ns.length : Int) > 2147483647
  · exact ⟨false, by rw [laws_zzFits17.f, if_pos h]⟩
  · rw [laws_zzFits17.f, if_neg h]
    exact fits_l0 (by omega) _ 0 (by omega) (Nat.zero_le _)
theorem toList_beq (t : ByteArray) : (t.toList == t.toList) = true := beq_self_eq_true _
set_option maxHeartbeats 1600000 in
set_option maxRecDepth 100000 in
theorem law_rm (A : Option Addr) (c : Nat) (ns : List ByteArray) (name : ByteArray) (w : World) (hr : Kd.string.C w A ns.length ns) (hc : ns.length ≤ c) (hm : ns.length ≤ maxLen) (hw : ∀ p, p ∈ ns → goodStr p) (hs : name.size ≤ 140737488351232) :
    Calls Try.prog 4 #[.slice A ns.length c, .string name] w fun e w' => e = .returned (.bool true) ∧ Below w.heap.size w w' := by
  obtain ⟨r, hf⟩ := fits_f ns
  have CF := Aside0.mk (laws_zzFits17.calls (ns.length + 1) A c ns r w hr hc hf)
  obtain ⟨n, en⟩ : ∃ n, ns.length = n := ⟨_, rfl⟩
  have HR := Aside0.mk hr
  have EN := Aside0.mk en
  rw [en] at CF HR ⊢
  have n9 : n ≤ 9223372036854775807 := by have := Kd.C_max hr; omega
  obtain ⟨z, ez⟩ : ∃ z, name.size = z := ⟨_, rfl⟩
  have z9 : z ≤ 140737488351232 := by omega
  clear hr hc hf hm hw hs en
  go_enter Try.func4, Try.ntmps4
  go_wp2_with fail
  refine CF.out.mono ?_
  rintro en w1 ⟨rfl, hD⟩
  have B1 := Aside0.mk (show Below w.heap.size w w1 from hD.below)
  clear hD
  cases r
  · go_wp2_with fail
    go_ret
    exact ⟨rfl, B1.out⟩
  · by_cases g1 : 2147483647 < z
    · rw [← ez] at g1
      go_wp2_with fail
      go_ret
      exact ⟨rfl, B1.out⟩
    · rw [← ez] at g1
      by_cases g2 : 10000 < n
      · go_wp2_with fail
        go_ret
        exact ⟨rfl, B1.out⟩
      · by_cases g3 : 1048576 < name.size
        · go_wp2_with fail
          go_ret
          exact ⟨rfl, B1.out⟩
        · go_wp2_with fail
          go_loopw [5, 28] (fun ov iv wr => ∃ k : Nat, k ≤ n ∧ iv = .int .i64 (k : Int) ∧ Aside0 (Kd.string.R 9 wr w.heap.size (fun _ => True) ov (stay name (ns.take k))) ∧ Aside0 (Below w.heap.size w wr)) (fun _ iv _ => n - (intOf iv).toNat)
          case atStart => exact ⟨0, Nat.zero_le _, rfl, ⟨Kd.R_nil _ _ _ _ _⟩, B1⟩
          case round =>
            obtain ⟨k, hk, rfl, HS, HB⟩ := hrel
            by_cases hlt : k < n
            · obtain ⟨ad, cs, rfl, _, hK, hcc⟩ := Kd.C_get (Kd.C_below HR.out HB.out) ByteArray.empty (k : Int) (by omega) (by omega)
              obtain ⟨t, et⟩ : ∃ t, ns[k]? = some t := ⟨ns[k]'(by have := EN.out; omega), List.getElem?_eq_getElem _⟩
              rw [Int.toNat_natCast, List.getD_eq_getElem?_getD, et, Option.getD_some] at hK
              have e1 := kstr hK
              subst e1
              have hx : wr.cell? (ad.add k) = some (.string t) := by
                have q := hcc 0 _ rfl
                rw [Int.toNat_natCast, show k * Kd.string.sz + 0 = k by show k * 1 + 0 = k; omega] at q
                exact q
              have ET := Aside0.mk et
              have iklt : (k : Int) < (n : Int) := by omega
              have ik0 : (0 : Int) ≤ (k : Int) := by omega
              have TL := Aside0.mk (show (stay name (ns.take k)).length ≤ 10000 by unfold stay; exact Nat.le_trans (List.length_filter_le _ _) (by rw [List.length_take]; omega))
              clear et hcc hK
              by_cases g4 : 1048576 < t.size
              · go_wp2_with fail
                go_ret
                exact ⟨rfl, HB.out⟩
              · rcases hst : (t.toList == name.toList) with _ | _
                · have HST := Aside0.mk hst
                  go_upto_region 12 with (fail)
                  clear hx
                  go_upto_region 13 with (((with_reducible refine gate_dst (N := 41) rfl ?_); refine Kd.R_append Kd.string (w0 := w) (W := wr) w.heap.size rfl (.tmp 38) (.tmp 40) 36 9 (.string ByteArray.empty) 16 rfl Try.underlying36 infoS rfl (by decide) (by decide) _ (stay name (ns.take k)) t [.string t] (fun _ => True) (fun _ => False) rfl rfl rfl (fun _ h => h.elim) (fun _ _ => trivial) HS.out HB.out HB.out.size (by have := TL.out; omega) ?_; intro v1 w2 hR hB hG hAt; have R2 := Aside0.mk hR; have B2 := Aside0.mk hB; clear hR hB hG hAt))
                  go_wp2_with fail
                  go_roundw
                  case rel =>
                    have et := ET.out
                    have ne := HST.out
                    have e2 : stay name (ns.take (k + 1)) = stay name (ns.take k) ++ [t] := by
                      rw [List.take_add_one, et]; unfold stay; rw [List.filter_append]; simp [ne]
                    exact ⟨k + 1, hlt, by first | rfl | go_num, ⟨by rw [e2]; exact R2.out⟩, B2⟩
                  case measure => simp [intOf]; omega
                · have HST := Aside0.mk hst
                  go_wp2_with fail
                  go_roundw
                  case rel =>
                    have et := ET.out
                    have ne := HST.out
                    have e2 : stay name (ns.take (k + 1)) = stay name (ns.take k) := by
                      rw [List.take_add_one, et]; unfold stay; rw [List.filter_append]; simp [ne]
                    exact ⟨k + 1, hlt, by first | rfl | go_num, ⟨by rw [e2]; exact HS.out⟩, HB⟩
                  case measure => simp [intOf]; omega
            · obtain rfl : k = n := by omega
              have HS2 := HS.out
              rw [List.take_of_length_le (by have := EN.out; omega)] at HS2
              obtain ⟨A1, c1, rfl, l1, r1⟩ := Kd.R_reads HS2
              obtain ⟨m, em⟩ : ∃ m, (stay name ns).length = m := ⟨_, rfl⟩
              rw [em] at r1 ⊢
              have WC := Aside0.mk (wr_calls (c := c) (name := name) (Kd.C_below HR.out HB.out) (by omega))
              have R1 := Aside0.mk r1
              have EM := Aside0.mk em
              clear HS2 l1 r1 em
              go_wp2_with fail
              refine WC.out.mono ?_
              rintro en w2 ⟨v2, rfl, hR, hB⟩
              obtain ⟨A2, c2, rfl, l2, r2⟩ := Kd.R_reads hR
              rw [EM.out] at r2 ⊢
              have R2 := Aside0.mk (And.intro r2 (Kd.C_below R1.out hB))
              have B2 := Aside0.mk (below_then HB.out HB.out.size hB)
              have m9 : m ≤ 9223372036854775807 := Kd.C_max r2
              clear hR l2 r2 hB
              go_wp2_with fail
              go_loopw [53] (fun iv wr => ∃ j : Nat, j ≤ m ∧ iv = .int .i64 (j : Int) ∧ Aside0 (Below w2.heap.size w2 wr)) (fun iv _ => m - (intOf iv).toNat)
              case atStart => exact ⟨0, Nat.zero_le _, rfl, ⟨Below.refl _ _⟩⟩
              case round =>
                obtain ⟨j, hj, rfl, HW⟩ := hrel
                by_cases hjl : j < m
                · obtain ⟨t, et⟩ : ∃ t, (stay name ns)[j]? = some t := ⟨(stay name ns)[j]'(by have := EM.out; omega), List.getElem?_eq_getElem _⟩
                  obtain ⟨ad, cs, rfl, _, hK, hcc⟩ := Kd.C_get (Kd.C_below R2.out.1 HW.out) ByteArray.empty (j : Int) (by omega) (by omega)
                  obtain ⟨ae, cs2, rfl, _, hK2, hcc2⟩ := Kd.C_get (Kd.C_below R2.out.2 HW.out) ByteArray.empty (j : Int) (by omega) (by omega)
                  rw [Int.toNat_natCast, List.getD_eq_getElem?_getD, et, Option.getD_some] at hK hK2
                  have e1 := kstr hK
                  have e2 := kstr hK2
                  subst e1 e2
                  have hx : wr.cell? (ad.add j) = some (.string t) := by
                    have q := hcc 0 _ rfl
                    rw [Int.toNat_natCast, show j * Kd.string.sz + 0 = j by show j * 1 + 0 = j; omega] at q
                    exact q
                  have hy : wr.cell? (ae.add j) = some (.string t) := by
                    have q := hcc2 0 _ rfl
                    rw [Int.toNat_natCast, show j * Kd.string.sz + 0 = j by show j * 1 + 0 = j; omega] at q
                    exact q
                  have tb := toList_beq t
                  have iklt : (j : Int) < (m : Int) := by omega
                  have ik0 : (0 : Int) ≤ (j : Int) := by omega
                  clear hK hcc hK2 hcc2 et
                  go_wp2_with fail
                  have hS0 : wr.cell? (ad.add j) = some (.string t) ∧ wr.cell? (ae.add j) = some (.string t) := ⟨hx, hy⟩
                  go_region_held3 (fun w' => w'.cell? (ad.add j) = some (.string t) ∧ w'.cell? (ae.add j) = some (.string t)) (first | exact hS0 | assumption | go_keep) (fail)
                  go_wp2_with fail
                  exact ⟨⟨j + 1, hjl, by first | rfl | go_num, ⟨below_drew HW.out⟩⟩, by simp [intOf]; omega⟩
                · obtain rfl : j = m := by omega
                  go_wp2_with fail
                  go_ret
                  exact ⟨rfl, below_then B2.out B2.out.size HW.out⟩
end Go.Proofs.Ytjdnnpfhlkgooaa.Rmk
