/- s2k.Salted, walked. -/
import Derived.Test.YtkehjcppgpoobaaSalt
set_option linter.unusedVariables false
set_option linter.unusedSimpArgs false
namespace Go.Proofs.Ytkehjcppgpoobaa.Mix
open Go.RowKit Go.Proofs.YtkehjcppgpoobaaW.PrintWords Go.Proofs.YtkehjcppgpoobaaW.PrintMore Go.Proofs.Ytkehjcppgpoobaa.Kit

theorem zeros_snoc (j : Nat) : (List.replicate j (0 : Int)) ++ [0] = List.replicate (j + 1) 0 := by rw [List.replicate_succ']
theorem bytes_zeros (j : Nat) : Bytes (List.replicate j 0) := fun i => by
  rw [List.getD_eq_getElem?_getD, List.getElem?_replicate]; split <;> simp
theorem bytes_zero1 : Bytes [0] := bytes_zeros 1
theorem min_step (i n size : Nat) (h : i * n < size) : i * n + min n (size - i * n) = min ((i + 1) * n) size := by rw [Nat.succ_mul]; omega

theorem nil_sum (a : Addr) (w : World) : (nilAhead 310 70 (.pointer (some a)) "Sum").run Try.prog w = .ok (some false) w := by kernel_rfl
theorem one_len : 1 = ([0] : List Int).length := rfl
theorem lit1 (b : Int) (w : World) (e : Nat) : C8 (w.alloc (.cells #[.int .u8 b] e)) (some ⟨w.heap.size, 0, none⟩) [b] :=
  (Kd.R_reads' (Kd.R_of_own (h1 := fun _ => rfl) (enc := Value.int .u8) (ok := fun _ => True) (xs := [b]) (own_lit w w.heap.size e .u8 [b] (Nat.le_refl _) (by simp)) (fun _ _ => trivial))).2.2
/-- digest[:0]. -/
theorem cut0 (dv : Value) (base : Nat) (w : World) (bl : List Int) (h : R8 5 w base dv bl) : ∃ A m c, dv = .slice A m c ∧ m ≤ c ∧ (.slice A 0 c : Value).ownBlock = dv.ownBlock ∧ ∀ w1 : World, (∃ bl1, R8 5 w1 base dv bl1) → R8 5 w1 base (.slice A 0 c) [] := by
  obtain ⟨A, c, e, hl, _⟩ := r8_reads h
  subst e
  refine ⟨A, bl.length, c, rfl, hl, by cases A <;> rfl, fun w1 ⟨bl1, h1⟩ => ?_⟩
  obtain ⟨_, ho⟩ := Kd.own_of_R h1
  rcases ho with ⟨e, _⟩ | ⟨g, cap, cur, e, hb, hh, hc, hm, hs, _⟩
  · injection e with e1 e2 e3
    subst e1; subst e3
    exact Kd.R_nil _ _ _ _ _
  · injection e with e1 e2 e3
    subst e1; subst e3
    exact Kd.R_of_own (v := .slice (some ⟨g, 0, none⟩) 0 c) (xs := []) ⟨by simp [encs], .inr ⟨g, c, cur, rfl, hb, hh, Nat.zero_le _, hm, hs, by simp [encs]⟩⟩ (fun _ _ => trivial)

set_option maxHeartbeats 3200000 in
set_option maxRecDepth 100000 in
theorem salted_calls {w0 w : World} {d : Nat} {S M : Option Addr} {cS cM g c : Nat} {sub mask : List Int} {go size : Nat} {t0 : List Int} (I : Option Addr) (ci : Nat) (inl : List Int) (Sa : Option Addr) (ca : Nat) (salt : List Int)
    (h : Mid w0 w d S M cS cM g c sub mask (salt ++ inl) go size 0 (.slice none 0 0) t0) (hI : C8 w0 I inl) (hIB : Bytes inl) (hS : C8 w0 Sa salt) (hSB : Bytes salt) (hsz : size ≤ 65536) :
    Calls Try.prog 60 #[.slice (some ⟨go, 0, none⟩) size size, .iface 70 (.pointer (some ⟨d, 0, none⟩)), .slice I inl.length ci, .slice Sa salt.length ca] w fun e w' => e = .returned (.tuple #[]) ∧ ∃ m, size ≤ m * mask.length ∧ R8 5 w' w0.heap.size (.slice (some ⟨go, 0, none⟩) size size) (outAt sub mask (salt ++ inl) size m) ∧ Below w0.heap.size w0 w' := by
  have H0 := Aside0.mk h
  have HI := Aside0.mk hI
  have HS := Aside0.mk hS
  have HB := Aside0.mk (And.intro hIB hSB)
  have HN := Aside0.mk (And.intro h.dg.m1 h.dg.m2)
  clear h hI hS hIB hSB
  obtain ⟨n, hn⟩ : ∃ n, mask.length = n := ⟨_, rfl⟩
  have HL := Aside0.mk hn
  clear hn
  go_enter Try.func60, Try.ntmps60
  go_wp2_with fail
  go_loopw [8, 9, 10] (fun dn dv iv wr => ∃ i : Nat, i ≤ size ∧ dn = .int .i64 ((min (i * n) size : Nat) : Int) ∧ iv = .int .i64 (i : Int) ∧ Aside0 (∃ g c t, Mid w0 wr d S M cS cM g c sub mask (salt ++ inl) go size i dv t)) (fun _ _ iv _ => size - (intOf iv).toNat)
  case atStart => exact ⟨0, Nat.zero_le _, by simp, rfl, ⟨_, _, _, H0.out⟩⟩
  case round =>
    clear H0
    obtain ⟨i, hi, rfl, rfl, HM⟩ := hrel
    obtain ⟨g, c, t, hM⟩ := HM.out
    clear HM
    by_cases hlt : i * n < size
    · obtain ⟨L, eL⟩ : ∃ L, i * n = L := ⟨_, rfl⟩
      have e1 : min (i * n) size = L := by omega
      rw [e1]
      have LL := Aside0.mk eL
      have hilt : i < size := by have := HN.out; have := HL.out; have : i * 1 ≤ i * n := Nat.mul_le_mul_left _ (by omega); omega
      rw [eL] at hlt
      have HM := Aside0.mk hM
      clear hM e1 eL
      go_wp2_with (first | (go_at_call 61; (with_reducible refine (reset_calls HM.out.dg.zero HM.out.dg.hd).mono ?_); rintro e w1 ⟨rfl, hX, hT⟩; obtain ⟨g', c', hM1, _⟩ := HM.out.reset hX hT; clear HM hX hT; have HM := Aside0.mk hM1; clear hM1))
      obtain ⟨wo, hwo⟩ : ∃ wo : World, wo = w1 := ⟨_, rfl⟩
      subst hwo
      go_loopw [11] (fun jv wr => ∃ j : Nat, j ≤ i ∧ jv = .int .i64 (j : Int) ∧ Aside0 (Mid w0 wr d S M cS cM g' c' sub mask (salt ++ inl) go size i u9 (List.replicate j 0))) (fun jv _ => i - (intOf jv).toNat)
      case atStart => exact ⟨0, Nat.zero_le _, rfl, HM⟩
      case round =>
        clear HM
        obtain ⟨j, hj, rfl, HM⟩ := hrel
        by_cases hjl : j < i
        · have hA := Aside0.mk (HM.out.below (below_alloc (Below.refl _ _) (.cells #[.int .u8 0] 5)))
          have OF := Aside0.mk (HM.out.fresh (l := [0]) (Nat.le_refl _))
          go_wp2_with (go_at_call 105; (with_reducible refine (write_calls hA.out.dg (lit1 0 _ _) OF.out bytes_zero1 one_len).mono ?_); rintro e w3 ⟨rfl, hD, hT⟩; have n1 := Aside0.mk (hA.out.write hD hT); clear HM hA OF hD hT; have HM := n1; clear n1)
          go_roundw
          case rel => exact ⟨j + 1, hjl, by go_num, by rw [zeros_snoc] at HM; exact HM⟩
          case measure => simp [intOf]; omega
        · obtain rfl : j = i := by omega
          have T := Aside0.mk (hashOf_length sub mask (List.replicate j 0 ++ (salt ++ inl)))
          obtain ⟨mm, emm⟩ : ∃ mm, min (hashOf sub mask (List.replicate j 0 ++ (salt ++ inl))).length (size - L) = mm := ⟨_, rfl⟩
          have EM := Aside0.mk emm
          have hmm : L + mm ≤ size := by omega
          have hne : ¬ size = L := by omega
          have hmin := Aside0.mk (show ((L : Int) + (mm : Int)) = ((min ((j + 1) * n) size : Nat) : Int) by
            have h1 := LL.out; have h2 := T.out; have h3 := HL.out
            rw [Nat.succ_mul, h1]; omega)
          clear emm
          obtain ⟨bl, hbl, _⟩ := HM.out.dig
          obtain ⟨A, m, cv, edv, hmc, hob, hcut⟩ := cut0 u9 _ _ _ hbl
          subst edv
          have CU := Aside0.mk hcut
          have OB := Aside0.mk hob
          clear hbl hcut hob
          go_wp2_with (first | (go_at_call 105; (with_reducible refine (write_calls HM.out.dg (Kd.C_below HS.out HM.out.bel) (HM.out.old HS.out) HB.out.2 rfl).mono ?_); rintro e w4 ⟨rfl, hD, hT⟩; have n1 := Aside0.mk (HM.out.write hD hT); clear HM hD hT; have HM := n1; clear n1) | (go_at_call 105; (with_reducible refine (write_calls HM.out.dg (Kd.C_below HI.out HM.out.bel) (HM.out.old HI.out) HB.out.1 rfl).mono ?_); rintro e w5 ⟨rfl, hD, hT⟩; have n1 := Aside0.mk (HM.out.write hD hT); clear HM hD hT; have HM := n1; clear n1))
          have ns := nil_sum ⟨d, 0, none⟩
          go_region_with ((go_at_call 104; refine (sum_calls HM.out.drew.dg (CU.out _ (by obtain ⟨b1, h1, _⟩ := HM.out.drew.dig; exact ⟨b1, h1⟩)) (by simp)).mono ?_; rintro e w6 ⟨v', rfl, hR, hG, hA⟩; rw [List.nil_append, List.append_assoc] at hR; obtain ⟨A', c', e', _, _⟩ := r8_reads hR; subst e'; have R6 := Aside0.mk hR; have n1 := Aside0.mk (HM.out.drew.summed OB.out hR (by have := T.out; have := HN.out; omega) hG hA); clear HM hR hG hA; have HM := n1; clear n1))
          go_wp2_with (((with_reducible refine gate_dst (N := 46) rfl ?_); refine copy8 w0.heap.size (w0 := w0) rfl (.tmp 44) (.tmp 45) 22 22 5 rfl Try.underlying22 infoB go size size L (size - L) (size - L) (outAt sub mask (salt ++ inl) size j) (hashOf sub mask (List.replicate j 0 ++ (salt ++ inl))) A' (some ⟨go, L, none⟩) c' ?hs (fun _ => rfl) rfl rfl HM.out.out (Kd.R_reads' R6.out).2.2 ?hf HM.out.bel HM.out.bw ?_; (case hs => first | rfl | (go_simp; done)); (case hf => omega); intro w7 hR hB hG; rw [EM.out]; have n1 := Aside0.mk (HM.out.copied (by have h1 := outAt_step sub mask (salt ++ inl) size j (by rw [HL.out, LL.out]; omega); rw [HL.out, LL.out] at h1; rw [← h1]; exact hR) hG); clear HM hR hB hG; have HM := n1; clear n1))
          go_roundw
          case rel => exact ⟨j + 1, hilt, by rw [← hmin.out], by go_num, ⟨⟨_, _, _, HM.out⟩⟩⟩
          case measure => simp [intOf]; omega
    · have hmn : min (i * n) size = size := by omega
      rw [hmn]
      go_wp2
      go_end0
      exact ⟨rfl, i, by rw [HL.out]; omega, hM.out, hM.bel⟩
end Go.Proofs.Ytkehjcppgpoobaa.Mix
