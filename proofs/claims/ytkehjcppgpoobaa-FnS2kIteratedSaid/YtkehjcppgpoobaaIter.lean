/- s2k.Iterated, walked. -/
import Derived.Test.YtkehjcppgpoobaaSalt2
set_option linter.unusedVariables false
set_option linter.unusedSimpArgs false
namespace Go.Proofs.Ytkehjcppgpoobaa.Mix
open Go.RowKit Go.Proofs.YtkehjcppgpoobaaW.PrintWords Go.Proofs.YtkehjcppgpoobaaW.PrintMore Go.Proofs.Ytkehjcppgpoobaa.Kit

theorem nil_write (a : Addr) (w : World) : (nilAhead 310 70 (.pointer (some a)) "Write").run Try.prog w = .ok (some false) w := by kernel_rfl
theorem c8_take {w : World} {A : Option Addr} {l : List Int} (h : C8 w A l) (j : Nat) (hj : j ≤ l.length) : C8 w A (l.take j) := by
  obtain ⟨i0, hi0, _, hsz, _⟩ := info_parts infoB
  obtain ⟨_, h2, _⟩ := print_take_of (P := Try.prog) (Value.int .u8) (0 : Int) 22 5 .i64 Try.underlying22 hi0 hsz A l.length l (j : Int) (by omega) (by omega) (Nat.le_refl _)
  rw [Int.toNat_natCast] at h2
  exact Kd.C_of_reads (h1 := fun _ => rfl) (h2 w (Kd.reads_of_C h))
/-- A row of the call's own, cut behind its first k bytes. -/
theorem cut_own (n k : Nat) (hk : k ≤ n) : ∃ AA : Nat → Option Addr, (∀ gc (W : World), (Instr.slice 22 (.slice (some ⟨gc, 0, none⟩) n n) (some (.int .i64 (k : Int))) none none).run Try.prog W = .ok (.slice (AA gc) (n - k) (n - k)) W) ∧ ∀ gc, k < n → AA gc = some ⟨gc, k, none⟩ := by
  obtain ⟨i0, hi0, _, hsz, _⟩ := info_parts infoB
  refine ⟨fun gc => if n = k then some ⟨gc, 0, none⟩ else (some (⟨gc, 0, none⟩ : Addr)).map (·.add k), fun gc W => ?_, fun gc h => ?_⟩
  · have hel : Try.prog.elem 22 = 5 := by simp [Program.elem, Try.underlying22]
    have hu : Try.prog.underlying 22 = some (.slice (Try.prog.elem 22)) := by rw [hel]; exact Try.underlying22
    rw [run_slice_l W 22 (some ⟨gc, 0, none⟩) n n hu .i64 (k : Int) (Int.natCast_nonneg _) (by omega), hel]
    simp [sizeOf, typeInfo, hi0, hsz, sliced, Result.andThen]
  · show (if n = k then _ else _) = _
    rw [if_neg (by omega)]
    simp [add_plain]
theorem go_ne {w0 wr : World} {d : Nat} {S M : Option Addr} {cS cM g c : Nat} {sub mask x : List Int} {go size i : Nat} {dv : Value} {t : List Int} {k : Nat} (hk : wr.heap.size ≤ k) (h : Mid w0 wr d S M cS cM g c sub mask x go size i dv t) : k ≠ go := by
  have : go < wr.heap.size := own_lt8 h.out rfl
  omega
theorem copied1 (a b : List Int) (n : Nat) (hn : n = b.length + a.length) : (List.replicate n (0 : Int)).take 0 ++ (a.take (min a.length n) ++ (List.replicate n (0 : Int)).drop (0 + min a.length n)) = a ++ List.replicate b.length 0 := by
  rw [Nat.min_eq_left (by omega), List.take_zero, List.nil_append, List.take_length, List.drop_replicate, hn]
  congr 2; omega
theorem copied2 (a b : List Int) (n : Nat) (hn : n = b.length + a.length) : (a ++ List.replicate b.length 0).take a.length ++ (b.take (min b.length (n - a.length)) ++ (a ++ List.replicate b.length (0 : Int)).drop (a.length + min b.length (n - a.length))) = a ++ b := by
  have e : min b.length (n - a.length) = b.length := by omega
  rw [e, List.take_left, List.take_length, List.drop_append, List.drop_of_length_le (by omega)]
  simp
theorem Mid.kept1 {w0 wr w1 : World} {d : Nat} {S M : Option Addr} {cS cM g c : Nat} {sub mask x : List Int} {go size i : Nat} {t : List Int} {k : Nat} (h : Mid w0 wr d S M cS cM g c sub mask x go size i (.slice none 0 0) t) (hG : wr.grownBy w1 (some k)) (hc : Clear k d g S M sub mask) (ho : k ≠ go) (hb : w0.heap.size ≤ k) :
    Mid w0 w1 d S M cS cM g c sub mask x go size i (.slice none 0 0) t := by
  obtain ⟨bl, h1, h2⟩ := h.dig
  have hT := Tch.of_grown hG
  refine ⟨h.dg.kept hT (fun e => hc.d (by injection e)) (fun e => hc.g (by injection e)) (fun ad e hp q => hc.s ad e hp (by injection q with q; exact q.symm)) (fun ad e hp q => hc.m ad e hp (by injection q with q; exact q.symm)), h.co, h.cd, ⟨bl, hT.r8 h1 (fun q hq => by simp [Value.ownBlock] at hq), h2⟩, hT.r8 h.out (fun q hq e => ?_), hT.below h.bel h.bw (fun q e => by injection e with e; subst e; exact hb)⟩
  simp [Value.ownBlock] at hq
  injection e with e
  exact ho (e.trans hq.symm)

set_option maxHeartbeats 6400000 in
set_option maxRecDepth 100000 in
theorem iter_short {w0 w : World} {d : Nat} {S M : Option Addr} {cS cM g c : Nat} {sub mask : List Int} {go size : Nat} {t0 : List Int} (I : Option Addr) (ci : Nat) (inl : List Int) (Sa : Option Addr) (ca : Nat) (salt : List Int) (count n1 : Nat) (X : List Int) (hn1 : n1 = inl.length + salt.length) (h1n : 1 ≤ n1) (hX : X = cyc (salt ++ inl) n1)
    (h : Mid w0 w d S M cS cM g c sub mask X go size 0 (.slice none 0 0) t0) (hI : C8 w0 I inl) (hIB : Bytes inl) (hS : C8 w0 Sa salt) (hSB : Bytes salt) (hsz : size ≤ 65536) (hb1 : n1 ≤ 100000) (hb2 : count ≤ 2000000) (hcnt : count < n1) :
    Calls Try.prog 42 #[.slice (some ⟨go, 0, none⟩) size size, .iface 70 (.pointer (some ⟨d, 0, none⟩)), .slice I inl.length ci, .slice Sa salt.length ca, .int .i64 (count : Int)] w fun e w' => e = .returned (.tuple #[]) ∧ ∃ m, size ≤ m * mask.length ∧ R8 5 w' w0.heap.size (.slice (some ⟨go, 0, none⟩) size size) (outAt sub mask X size m) ∧ Below w0.heap.size w0 w' := by
  have H0 := Aside0.mk h
  have HI := Aside0.mk hI
  have HS := Aside0.mk hS
  have BX : Bytes X := by rw [hX]; exact cyc_bytes (by
    intro j
    rw [List.getD_eq_getElem?_getD, List.getElem?_append]
    split
    · rw [← List.getD_eq_getElem?_getD]; exact hSB j
    · rw [← List.getD_eq_getElem?_getD]; exact hIB _) _
  have hol : (salt ++ inl).length = n1 := by rw [List.length_append]; omega
  have HB := Aside0.mk (show Bytes (salt ++ inl) by
    intro j
    rw [List.getD_eq_getElem?_getD, List.getElem?_append]
    split
    · rw [← List.getD_eq_getElem?_getD]; exact hSB j
    · rw [← List.getD_eq_getElem?_getD]; exact hIB _)
  obtain ⟨one, hone⟩ : ∃ one, salt ++ inl = one := ⟨_, rfl⟩
  rw [hone] at hX hol HB
  have ON := Aside0.mk hone
  have OL := Aside0.mk hol
  have N1 := Aside0.mk hn1
  have NN : Aside0 (inl.length + salt.length = n1) := ⟨hn1.symm⟩
  have q1 : decide ((count : Int) < (n1 : Int)) = true := decide_eq_true (by omega)
  have q1' : decide (count < n1) = true := decide_eq_true hcnt
  obtain ⟨cnt, hcn⟩ : ∃ cnt, cnt = n1 := ⟨_, rfl⟩
  have CN : Aside0 (cnt = n1 ∧ n1 ≤ cnt ∧ cnt ≤ 2000000) := ⟨hcn, by omega, by omega⟩
  have XE : Aside0 (X = cyc one cnt) := ⟨by rw [hX, hcn]⟩
  have XL : Aside0 (X.length = cnt) := ⟨by rw [XE.out]; exact cyc_length one cnt (by omega)⟩
  have XB := Aside0.mk BX
  obtain ⟨AA, kAA, hAA⟩ := cut_own n1 salt.length (by omega)
  have KA := Aside0.mk hAA
  have HN := Aside0.mk (And.intro h.dg.m1 h.dg.m2)
  have li : inl.length ≤ 100000 := by omega
  have ls : salt.length ≤ 100000 := by omega
  have l1 : salt.length ≤ n1 := by omega
  clear h hI hS hIB hSB hX hone hol hn1 hcn BX hAA hcnt
  obtain ⟨n, hn⟩ : ∃ n, mask.length = n := ⟨_, rfl⟩
  have HL := Aside0.mk hn
  clear hn
  go_enter Try.func42, Try.ntmps42
  go_wp2_with (first | ((with_reducible refine gate_dst (N := 23) rfl ?_); (refine make8 w0.heap.size (w0 := w0) rfl (N := 23) rfl 22 5 (.tmp 22) (.tmp 22) rfl n1 rfl rfl ?hm Try.underlying22 infoB (by omega) H0.out.bel H0.out.bw ?_); (case hm => (have := N1.out; omega)); intro gc w1 hg hgW hgl hR hB hB2; have GF := Aside0.mk (And.intro hg hgW); have R1 := Aside0.mk hR; have n1_ := Aside0.mk (H0.out.below hB2); have CLR := Aside0.mk (Clear.fresh H0.out.dg hgW); have GO := Aside0.mk (go_ne hgW H0.out); clear H0 hg hgW hgl hR hB hB2; have H0 := n1_; clear n1_) | ((with_reducible refine gate_dst (N := 26) rfl ?_); refine copy8 w0.heap.size (w0 := w0) rfl (.tmp 24) (.tmp 25) 22 22 5 rfl Try.underlying22 infoB gc n1 n1 0 n1 n1 (List.replicate n1 0) salt Sa (some ⟨gc, 0, none⟩) ca rfl (fun _ => rfl) rfl rfl R1.out (Kd.C_below HS.out H0.out.bel) (by omega) H0.out.bel H0.out.bw ?_; intro w2 hR hB hG; rw [copied1 salt inl n1 N1.out] at hR; have n2 := Aside0.mk hR; have n1_ := Aside0.mk (H0.out.kept1 hG CLR.out GO.out GF.out.1); clear R1 H0 hR hB hG; have R1 := n2; have H0 := n1_; clear n1_ n2) | ((with_reducible refine gate_dst (N := 32) rfl ?_); refine copy8 w0.heap.size (w0 := w0) rfl (.tmp 30) (.tmp 31) 22 22 5 rfl Try.underlying22 infoB gc n1 n1 salt.length (n1 - salt.length) (n1 - salt.length) (salt ++ List.replicate inl.length 0) inl I (AA gc) ci ?hs ?hB rfl rfl R1.out (Kd.C_below HI.out H0.out.bel) ?hf H0.out.bel H0.out.bw ?_; (case hs => first | rfl | (go_simp; done)); (case hB => (intro hp; exact KA.out gc (by omega))); (case hf => (have := N1.out; omega)); intro wk hR hB hG; rw [copied2 salt inl n1 N1.out] at hR; have n2 := Aside0.mk hR; have n1_ := Aside0.mk (H0.out.kept1 hG CLR.out GO.out GF.out.1); clear R1 H0 hR hB hG; have R1 := n2; have H0 := n1_; clear n1_ n2))
  have A1 : Aside0 (Aside1 wk d go g gc one) := ⟨⟨by have := (Kd.R_reads' R1.out).2.2; rw [ON.out] at this; exact this, CLR.out.d, GO.out, CLR.out.g, own_lt8 R1.out rfl⟩⟩
  have HX : Aside0 (MidX w0 wk wk d S M cS cM g g c sub mask X go size 0 (.slice none 0 0) t0) := ⟨⟨H0.out, Tch.refl _ _, .inl rfl, fun k hk => by simp [Value.ownBlock] at hk⟩⟩
  clear H0 R1
  go_loopw [11, 12, 13] (fun dn dv iv wr => ∃ i : Nat, i ≤ size ∧ dn = .int .i64 ((min (i * n) size : Nat) : Int) ∧ iv = .int .i64 (i : Int) ∧ Aside0 (∃ g' c' t, MidX w0 wk wr d S M cS cM g g' c' sub mask X go size i dv t)) (fun _ _ iv _ => size - (intOf iv).toNat)
  case atStart => exact ⟨0, Nat.zero_le _, by simp, rfl, ⟨_, _, _, HX.out⟩⟩
  case round =>
    clear HX
    obtain ⟨i, hi, rfl, rfl, HM⟩ := hrel
    obtain ⟨g1, c1, t, hM⟩ := HM.out
    clear HM
    by_cases hlt : i * n < size
    · obtain ⟨L, eL⟩ : ∃ L, i * n = L := ⟨_, rfl⟩
      have e1 : min (i * n) size = L := by omega
      rw [e1]
      have LL := Aside0.mk eL
      have hilt : i < size := by have := HN.out; have := HL.out; have : i * 1 ≤ i * n := Nat.mul_le_mul_left _ (by omega); omega
      rw [eL] at hlt
      have HM := Aside0.mk hM
      clear hM e1 eL
      go_wp2_with (first | (go_at_call 61; (with_reducible refine (reset_calls HM.out.mid.dg.zero HM.out.mid.dg.hd).mono ?_); rintro e w1 ⟨rfl, hX, hT⟩; obtain ⟨g2, c2, hM1⟩ := HM.out.reset hX hT; clear HM hX hT; have HM := Aside0.mk hM1; clear hM1))
      go_loopw [14] (fun jv wr => ∃ j : Nat, j ≤ i ∧ jv = .int .i64 (j : Int) ∧ Aside0 (MidX w0 wk wr d S M cS cM g g2 c2 sub mask X go size i u12 (List.replicate j 0))) (fun jv _ => i - (intOf jv).toNat)
      case atStart => exact ⟨0, Nat.zero_le _, rfl, HM⟩
      case round =>
        clear HM
        obtain ⟨j, hj, rfl, HM⟩ := hrel
        by_cases hjl : j < i
        · have hA := Aside0.mk (HM.out.below (below_alloc (Below.refl _ _) (.cells #[.int .u8 0] 5)))
          have OF := Aside0.mk (HM.out.mid.fresh (l := [0]) (Nat.le_refl _))
          go_wp2_with (go_at_call 105; (with_reducible refine (write_calls hA.out.mid.dg (lit1 0 _ _) OF.out bytes_zero1 one_len).mono ?_); rintro e w3 ⟨rfl, hD, hT⟩; have n1 := Aside0.mk (hA.out.write hD hT); clear HM hA OF hD hT; have HM := n1; clear n1)
          go_roundw
          case rel => exact ⟨j + 1, hjl, by go_num, by rw [zeros_snoc] at HM; exact HM⟩
          case measure => simp [intOf]; omega
        · obtain rfl : j = i := by omega
          go_wp2_with fail
          go_loopw [15] (fun wv wr => ∃ v : Nat, v ≤ n1 ∧ wv = .int .i64 (v : Int) ∧ (v = n1 ∨ ∃ q, v = q * n1) ∧ Aside0 (MidX w0 wk wr d S M cS cM g g2 c2 sub mask X go size j u12 (List.replicate j 0 ++ X.take v))) (fun wv _ => n1 - (intOf wv).toNat)
          case atStart => exact ⟨0, Nat.zero_le _, rfl, .inr ⟨0, by simp⟩, by simpa using HM⟩
          case round =>
            clear HM
            obtain ⟨v, hv, rfl, hq, HM⟩ := hrel
            by_cases hvl : v < n1
            · obtain ⟨q, hq⟩ : ∃ q, v = q * n1 := by
                rcases hq with e | e
                · omega
                · exact e
              have hvb := CN.out.2.2
              have hcb := CN.out.1
              have TX := Aside0.mk (And.intro hq (And.intro XE.out CN.out))
              by_cases hfull : n1 < v + n1
              · obtain ⟨td, htd⟩ : ∃ td, n1 - v = td := ⟨_, rfl⟩
                have etd : ((n1 : Nat) : Int) - (v : Int) = (td : Int) := by omega
                have htn : td ≤ n1 := by omega
                have TK := Aside0.mk (show td = (one.take td).length by rw [List.length_take, OL.out]; omega)
                have TD := Aside0.mk (show td ≤ one.length by rw [OL.out]; omega)
                have FT := Aside0.mk (show (List.replicate j 0 ++ X.take v) ++ one.take td = List.replicate j 0 ++ X.take n1 by
                  obtain ⟨h1, h2, h3, _⟩ := TX.out
                  have h4 := cyc_part one cnt q (by rw [OL.out]; exact h1n) (by rw [OL.out]; omega) (by rw [OL.out]; omega)
                  rw [OL.out, ← h1, ← h2, h3, htd] at h4
                  rw [List.append_assoc, h4, List.take_of_length_le (by rw [XL.out, h3]; exact Nat.le_refl _)])
                have nw := nil_write ⟨d, 0, none⟩
                clear htd hq
                go_wp2_with fail
                go_region_with (go_at_call 105; (with_reducible refine (write_calls HM.out.drew.mid.dg (c8_take (HM.out.drew.row A1.out) td TD.out) (HM.out.drew.off A1.out) (bytes_take HB.out td) TK.out).mono ?_); rintro e w3 ⟨rfl, hD, hT⟩; have n1_ := Aside0.mk (HM.out.drew.write hD hT); clear HM hD hT; have HM := n1_; clear n1_)
                go_wp2
                clear etd
                go_roundw
                case rel => exact ⟨n1, Nat.le_refl _, rfl, .inl rfl, by rw [FT.out] at HM; exact HM⟩
                case measure => simp [intOf]; omega
              · have FT := Aside0.mk (show (List.replicate j 0 ++ X.take v) ++ one = List.replicate j 0 ++ X.take (v + n1) by
                  obtain ⟨h1, h2, h3, _⟩ := TX.out
                  have h4 := cyc_full one cnt q (by rw [OL.out]; exact h1n) (by rw [OL.out]; omega)
                  rw [OL.out, ← h1, ← h2] at h4
                  rw [List.append_assoc, h4])
                have QN := Aside0.mk (show v + n1 = (q + 1) * n1 by rw [Nat.succ_mul, hq])
                have OL2 : Aside0 (n1 = one.length) := ⟨OL.out.symm⟩
                clear hq
                go_wp2_with (go_at_call 105; (with_reducible refine (write_calls HM.out.mid.dg (HM.out.row A1.out) (HM.out.off A1.out) HB.out OL2.out).mono ?_); rintro e w3 ⟨rfl, hD, hT⟩; have n1_ := Aside0.mk (HM.out.write hD hT); clear HM hD hT; have HM := n1_; clear n1_)
                go_roundw
                case rel => exact ⟨v + n1, by omega, by go_num, .inr ⟨q + 1, QN.out⟩, by rw [FT.out] at HM; exact HM⟩
                case measure => simp [intOf]; omega
            · obtain rfl : n1 = v := by omega
              have FX := Aside0.mk (show X.take n1 = X from List.take_of_length_le (by rw [XL.out, CN.out.1]; exact Nat.le_refl _))
              rw [FX.out] at HM
              clear hq
              have T := Aside0.mk (hashOf_length sub mask (List.replicate j 0 ++ X))
              obtain ⟨mm, emm⟩ : ∃ mm, min (hashOf sub mask (List.replicate j 0 ++ X)).length (size - L) = mm := ⟨_, rfl⟩
              have EM := Aside0.mk emm
              have hmm : L + mm ≤ size := by omega
              have hne : ¬ size = L := by omega
              have hmin := Aside0.mk (show ((L : Int) + (mm : Int)) = ((min ((j + 1) * n) size : Nat) : Int) by
                have h1 := LL.out; have h2 := T.out; have h3 := HL.out
                rw [Nat.succ_mul, h1]; omega)
              clear emm
              obtain ⟨bl, hbl, _⟩ := HM.out.mid.dig
              obtain ⟨A, m, cv, edv, hmc, hob, hcut⟩ := cut0 u12 _ _ _ hbl
              subst edv
              have CU := Aside0.mk hcut
              have OB := Aside0.mk hob
              clear hbl hcut hob
              have ns := nil_sum ⟨d, 0, none⟩
              go_wp2_with fail
              go_region_with ((go_at_call 104; refine (sum_calls HM.out.drew.mid.dg (CU.out _ (by obtain ⟨b1, h1, _⟩ := HM.out.drew.mid.dig; exact ⟨b1, h1⟩)) (by simp)).mono ?_; rintro e w6 ⟨v', rfl, hR, hG, hA⟩; rw [List.nil_append] at hR; obtain ⟨A', c3, e', _, _⟩ := r8_reads hR; subst e'; have R6 := Aside0.mk hR; have n1 := Aside0.mk (HM.out.drew.summed OB.out hR (by have := T.out; have := HN.out; omega) hG hA); clear HM hR hG hA; have HM := n1; clear n1))
              go_wp2_with (((with_reducible refine gate_dst (N := 94) rfl ?_); refine copy8 w0.heap.size (w0 := w0) rfl (.tmp 92) (.tmp 93) 22 22 5 rfl Try.underlying22 infoB go size size L (size - L) (size - L) (outAt sub mask X size j) (hashOf sub mask (List.replicate j 0 ++ X)) A' (some ⟨go, L, none⟩) c3 ?hs (fun _ => rfl) rfl rfl HM.out.mid.out (Kd.R_reads' R6.out).2.2 ?hf HM.out.mid.bel HM.out.mid.bw ?_; (case hs => first | rfl | (go_simp; done)); (case hf => omega); intro w7 hR hB hG; rw [EM.out]; have n1 := Aside0.mk (HM.out.copied (by have h1 := outAt_step sub mask X size j (by rw [HL.out, LL.out]; omega); rw [HL.out, LL.out] at h1; rw [← h1]; exact hR) hG); clear HM hR hB hG; have HM := n1; clear n1))
              go_roundw
              case rel => exact ⟨j + 1, hilt, by rw [← hmin.out], by go_num, ⟨⟨_, _, _, HM.out⟩⟩⟩
              case measure => simp [intOf]; omega
    · have hmn : min (i * n) size = size := by omega
      rw [hmn]
      go_wp2
      go_end0
      exact ⟨rfl, i, by rw [HL.out]; omega, hM.mid.out, hM.mid.bel⟩

set_option maxHeartbeats 6400000 in
set_option maxRecDepth 100000 in
theorem iter_far {w0 w : World} {d : Nat} {S M : Option Addr} {cS cM g c : Nat} {sub mask : List Int} {go size : Nat} {t0 : List Int} (I : Option Addr) (ci : Nat) (inl : List Int) (Sa : Option Addr) (ca : Nat) (salt : List Int) (count n1 : Nat) (X : List Int) (hn1 : n1 = inl.length + salt.length) (h1n : 1 ≤ n1) (hX : X = cyc (salt ++ inl) count)
    (h : Mid w0 w d S M cS cM g c sub mask X go size 0 (.slice none 0 0) t0) (hI : C8 w0 I inl) (hIB : Bytes inl) (hS : C8 w0 Sa salt) (hSB : Bytes salt) (hsz : size ≤ 65536) (hb1 : n1 ≤ 100000) (hb2 : count ≤ 2000000) (hcnt : ¬ count < n1) :
    Calls Try.prog 42 #[.slice (some ⟨go, 0, none⟩) size size, .iface 70 (.pointer (some ⟨d, 0, none⟩)), .slice I inl.length ci, .slice Sa salt.length ca, .int .i64 (count : Int)] w fun e w' => e = .returned (.tuple #[]) ∧ ∃ m, size ≤ m * mask.length ∧ R8 5 w' w0.heap.size (.slice (some ⟨go, 0, none⟩) size size) (outAt sub mask X size m) ∧ Below w0.heap.size w0 w' := by
  have H0 := Aside0.mk h
  have HI := Aside0.mk hI
  have HS := Aside0.mk hS
  have BX : Bytes X := by rw [hX]; exact cyc_bytes (by
    intro j
    rw [List.getD_eq_getElem?_getD, List.getElem?_append]
    split
    · rw [← List.getD_eq_getElem?_getD]; exact hSB j
    · rw [← List.getD_eq_getElem?_getD]; exact hIB _) _
  have hol : (salt ++ inl).length = n1 := by rw [List.length_append]; omega
  have HB := Aside0.mk (show Bytes (salt ++ inl) by
    intro j
    rw [List.getD_eq_getElem?_getD, List.getElem?_append]
    split
    · rw [← List.getD_eq_getElem?_getD]; exact hSB j
    · rw [← List.getD_eq_getElem?_getD]; exact hIB _)
  obtain ⟨one, hone⟩ : ∃ one, salt ++ inl = one := ⟨_, rfl⟩
  rw [hone] at hX hol HB
  have ON := Aside0.mk hone
  have OL := Aside0.mk hol
  have N1 := Aside0.mk hn1
  have NN : Aside0 (inl.length + salt.length = n1) := ⟨hn1.symm⟩
  have q1 : decide ((count : Int) < (n1 : Int)) = false := decide_eq_false (by omega)
  have q1' : decide (count < n1) = false := decide_eq_false hcnt
  obtain ⟨cnt, hcn⟩ : ∃ cnt, cnt = count := ⟨_, rfl⟩
  have CN : Aside0 (cnt = count ∧ n1 ≤ cnt ∧ cnt ≤ 2000000) := ⟨hcn, by omega, by omega⟩
  have XE : Aside0 (X = cyc one cnt) := ⟨by rw [hX, hcn]⟩
  have XL : Aside0 (X.length = cnt) := ⟨by rw [XE.out]; exact cyc_length one cnt (by omega)⟩
  have XB := Aside0.mk BX
  obtain ⟨AA, kAA, hAA⟩ := cut_own n1 salt.length (by omega)
  have KA := Aside0.mk hAA
  have HN := Aside0.mk (And.intro h.dg.m1 h.dg.m2)
  have li : inl.length ≤ 100000 := by omega
  have ls : salt.length ≤ 100000 := by omega
  have l1 : salt.length ≤ n1 := by omega
  clear h hI hS hIB hSB hX hone hol hn1 hcn BX hAA hcnt
  obtain ⟨n, hn⟩ : ∃ n, mask.length = n := ⟨_, rfl⟩
  have HL := Aside0.mk hn
  clear hn
  go_enter Try.func42, Try.ntmps42
  go_wp2_with (first | ((with_reducible refine gate_dst (N := 23) rfl ?_); (refine make8 w0.heap.size (w0 := w0) rfl (N := 23) rfl 22 5 (.tmp 22) (.tmp 22) rfl n1 rfl rfl ?hm Try.underlying22 infoB (by omega) H0.out.bel H0.out.bw ?_); (case hm => (have := N1.out; omega)); intro gc w1 hg hgW hgl hR hB hB2; have GF := Aside0.mk (And.intro hg hgW); have R1 := Aside0.mk hR; have n1_ := Aside0.mk (H0.out.below hB2); have CLR := Aside0.mk (Clear.fresh H0.out.dg hgW); have GO := Aside0.mk (go_ne hgW H0.out); clear H0 hg hgW hgl hR hB hB2; have H0 := n1_; clear n1_) | ((with_reducible refine gate_dst (N := 26) rfl ?_); refine copy8 w0.heap.size (w0 := w0) rfl (.tmp 24) (.tmp 25) 22 22 5 rfl Try.underlying22 infoB gc n1 n1 0 n1 n1 (List.replicate n1 0) salt Sa (some ⟨gc, 0, none⟩) ca rfl (fun _ => rfl) rfl rfl R1.out (Kd.C_below HS.out H0.out.bel) (by omega) H0.out.bel H0.out.bw ?_; intro w2 hR hB hG; rw [copied1 salt inl n1 N1.out] at hR; have n2 := Aside0.mk hR; have n1_ := Aside0.mk (H0.out.kept1 hG CLR.out GO.out GF.out.1); clear R1 H0 hR hB hG; have R1 := n2; have H0 := n1_; clear n1_ n2) | ((with_reducible refine gate_dst (N := 32) rfl ?_); refine copy8 w0.heap.size (w0 := w0) rfl (.tmp 30) (.tmp 31) 22 22 5 rfl Try.underlying22 infoB gc n1 n1 salt.length (n1 - salt.length) (n1 - salt.length) (salt ++ List.replicate inl.length 0) inl I (AA gc) ci ?hs ?hB rfl rfl R1.out (Kd.C_below HI.out H0.out.bel) ?hf H0.out.bel H0.out.bw ?_; (case hs => first | rfl | (go_simp; done)); (case hB => (intro hp; exact KA.out gc (by omega))); (case hf => (have := N1.out; omega)); intro wk hR hB hG; rw [copied2 salt inl n1 N1.out] at hR; have n2 := Aside0.mk hR; have n1_ := Aside0.mk (H0.out.kept1 hG CLR.out GO.out GF.out.1); clear R1 H0 hR hB hG; have R1 := n2; have H0 := n1_; clear n1_ n2))
  have A1 : Aside0 (Aside1 wk d go g gc one) := ⟨⟨by have := (Kd.R_reads' R1.out).2.2; rw [ON.out] at this; exact this, CLR.out.d, GO.out, CLR.out.g, own_lt8 R1.out rfl⟩⟩
  have HX : Aside0 (MidX w0 wk wk d S M cS cM g g c sub mask X go size 0 (.slice none 0 0) t0) := ⟨⟨H0.out, Tch.refl _ _, .inl rfl, fun k hk => by simp [Value.ownBlock] at hk⟩⟩
  clear H0 R1
  go_loopw [11, 12, 13] (fun dn dv iv wr => ∃ i : Nat, i ≤ size ∧ dn = .int .i64 ((min (i * n) size : Nat) : Int) ∧ iv = .int .i64 (i : Int) ∧ Aside0 (∃ g' c' t, MidX w0 wk wr d S M cS cM g g' c' sub mask X go size i dv t)) (fun _ _ iv _ => size - (intOf iv).toNat)
  case atStart => exact ⟨0, Nat.zero_le _, by simp, rfl, ⟨_, _, _, HX.out⟩⟩
  case round =>
    clear HX
    obtain ⟨i, hi, rfl, rfl, HM⟩ := hrel
    obtain ⟨g1, c1, t, hM⟩ := HM.out
    clear HM
    by_cases hlt : i * n < size
    · obtain ⟨L, eL⟩ : ∃ L, i * n = L := ⟨_, rfl⟩
      have e1 : min (i * n) size = L := by omega
      rw [e1]
      have LL := Aside0.mk eL
      have hilt : i < size := by have := HN.out; have := HL.out; have : i * 1 ≤ i * n := Nat.mul_le_mul_left _ (by omega); omega
      rw [eL] at hlt
      have HM := Aside0.mk hM
      clear hM e1 eL
      go_wp2_with (first | (go_at_call 61; (with_reducible refine (reset_calls HM.out.mid.dg.zero HM.out.mid.dg.hd).mono ?_); rintro e w1 ⟨rfl, hX, hT⟩; obtain ⟨g2, c2, hM1⟩ := HM.out.reset hX hT; clear HM hX hT; have HM := Aside0.mk hM1; clear hM1))
      go_loopw [14] (fun jv wr => ∃ j : Nat, j ≤ i ∧ jv = .int .i64 (j : Int) ∧ Aside0 (MidX w0 wk wr d S M cS cM g g2 c2 sub mask X go size i u12 (List.replicate j 0))) (fun jv _ => i - (intOf jv).toNat)
      case atStart => exact ⟨0, Nat.zero_le _, rfl, HM⟩
      case round =>
        clear HM
        obtain ⟨j, hj, rfl, HM⟩ := hrel
        by_cases hjl : j < i
        · have hA := Aside0.mk (HM.out.below (below_alloc (Below.refl _ _) (.cells #[.int .u8 0] 5)))
          have OF := Aside0.mk (HM.out.mid.fresh (l := [0]) (Nat.le_refl _))
          go_wp2_with (go_at_call 105; (with_reducible refine (write_calls hA.out.mid.dg (lit1 0 _ _) OF.out bytes_zero1 one_len).mono ?_); rintro e w3 ⟨rfl, hD, hT⟩; have n1 := Aside0.mk (hA.out.write hD hT); clear HM hA OF hD hT; have HM := n1; clear n1)
          go_roundw
          case rel => exact ⟨j + 1, hjl, by go_num, by rw [zeros_snoc] at HM; exact HM⟩
          case measure => simp [intOf]; omega
        · obtain rfl : j = i := by omega
          go_wp2_with fail
          go_loopw [15] (fun wv wr => ∃ v : Nat, v ≤ count ∧ wv = .int .i64 (v : Int) ∧ (v = count ∨ ∃ q, v = q * n1) ∧ Aside0 (MidX w0 wk wr d S M cS cM g g2 c2 sub mask X go size j u12 (List.replicate j 0 ++ X.take v))) (fun wv _ => count - (intOf wv).toNat)
          case atStart => exact ⟨0, Nat.zero_le _, rfl, .inr ⟨0, by simp⟩, by simpa using HM⟩
          case round =>
            clear HM
            obtain ⟨v, hv, rfl, hq, HM⟩ := hrel
            by_cases hvl : v < count
            · obtain ⟨q, hq⟩ : ∃ q, v = q * n1 := by
                rcases hq with e | e
                · omega
                · exact e
              have hvb := CN.out.2.2
              have hcb := CN.out.1
              have TX := Aside0.mk (And.intro hq (And.intro XE.out CN.out))
              by_cases hfull : count < v + n1
              · obtain ⟨td, htd⟩ : ∃ td, count - v = td := ⟨_, rfl⟩
                have etd : ((count : Nat) : Int) - (v : Int) = (td : Int) := by omega
                have htn : td ≤ n1 := by omega
                have TK := Aside0.mk (show td = (one.take td).length by rw [List.length_take, OL.out]; omega)
                have TD := Aside0.mk (show td ≤ one.length by rw [OL.out]; omega)
                have FT := Aside0.mk (show (List.replicate j 0 ++ X.take v) ++ one.take td = List.replicate j 0 ++ X.take count by
                  obtain ⟨h1, h2, h3, _⟩ := TX.out
                  have h4 := cyc_part one cnt q (by rw [OL.out]; exact h1n) (by rw [OL.out]; omega) (by rw [OL.out]; omega)
                  rw [OL.out, ← h1, ← h2, h3, htd] at h4
                  rw [List.append_assoc, h4, List.take_of_length_le (by rw [XL.out, h3]; exact Nat.le_refl _)])
                have nw := nil_write ⟨d, 0, none⟩
                clear htd hq
                go_wp2_with fail
                go_region_with (go_at_call 105; (with_reducible refine (write_calls HM.out.drew.mid.dg (c8_take (HM.out.drew.row A1.out) td TD.out) (HM.out.drew.off A1.out) (bytes_take HB.out td) TK.out).mono ?_); rintro e w3 ⟨rfl, hD, hT⟩; have n1_ := Aside0.mk (HM.out.drew.write hD hT); clear HM hD hT; have HM := n1_; clear n1_)
                go_wp2
                clear etd
                go_roundw
                case rel => exact ⟨count, Nat.le_refl _, rfl, .inl rfl, by rw [FT.out] at HM; exact HM⟩
                case measure => simp [intOf]; omega
              · have FT := Aside0.mk (show (List.replicate j 0 ++ X.take v) ++ one = List.replicate j 0 ++ X.take (v + n1) by
                  obtain ⟨h1, h2, h3, _⟩ := TX.out
                  have h4 := cyc_full one cnt q (by rw [OL.out]; exact h1n) (by rw [OL.out]; omega)
                  rw [OL.out, ← h1, ← h2] at h4
                  rw [List.append_assoc, h4])
                have QN := Aside0.mk (show v + n1 = (q + 1) * n1 by rw [Nat.succ_mul, hq])
                have OL2 : Aside0 (n1 = one.length) := ⟨OL.out.symm⟩
                clear hq
                go_wp2_with (go_at_call 105; (with_reducible refine (write_calls HM.out.mid.dg (HM.out.row A1.out) (HM.out.off A1.out) HB.out OL2.out).mono ?_); rintro e w3 ⟨rfl, hD, hT⟩; have n1_ := Aside0.mk (HM.out.write hD hT); clear HM hD hT; have HM := n1_; clear n1_)
                go_roundw
                case rel => exact ⟨v + n1, by omega, by go_num, .inr ⟨q + 1, QN.out⟩, by rw [FT.out] at HM; exact HM⟩
                case measure => simp [intOf]; omega
            · obtain rfl : count = v := by omega
              have FX := Aside0.mk (show X.take count = X from List.take_of_length_le (by rw [XL.out, CN.out.1]; exact Nat.le_refl _))
              rw [FX.out] at HM
              clear hq
              have T := Aside0.mk (hashOf_length sub mask (List.replicate j 0 ++ X))
              obtain ⟨mm, emm⟩ : ∃ mm, min (hashOf sub mask (List.replicate j 0 ++ X)).length (size - L) = mm := ⟨_, rfl⟩
              have EM := Aside0.mk emm
              have hmm : L + mm ≤ size := by omega
              have hne : ¬ size = L := by omega
              have hmin := Aside0.mk (show ((L : Int) + (mm : Int)) = ((min ((j + 1) * n) size : Nat) : Int) by
                have h1 := LL.out; have h2 := T.out; have h3 := HL.out
                rw [Nat.succ_mul, h1]; omega)
              clear emm
              obtain ⟨bl, hbl, _⟩ := HM.out.mid.dig
              obtain ⟨A, m, cv, edv, hmc, hob, hcut⟩ := cut0 u12 _ _ _ hbl
              subst edv
              have CU := Aside0.mk hcut
              have OB := Aside0.mk hob
              clear hbl hcut hob
              have ns := nil_sum ⟨d, 0, none⟩
              go_wp2_with fail
              go_region_with ((go_at_call 104; refine (sum_calls HM.out.drew.mid.dg (CU.out _ (by obtain ⟨b1, h1, _⟩ := HM.out.drew.mid.dig; exact ⟨b1, h1⟩)) (by simp)).mono ?_; rintro e w6 ⟨v', rfl, hR, hG, hA⟩; rw [List.nil_append] at hR; obtain ⟨A', c3, e', _, _⟩ := r8_reads hR; subst e'; have R6 := Aside0.mk hR; have n1 := Aside0.mk (HM.out.drew.summed OB.out hR (by have := T.out; have := HN.out; omega) hG hA); clear HM hR hG hA; have HM := n1; clear n1))
              go_wp2_with (((with_reducible refine gate_dst (N := 94) rfl ?_); refine copy8 w0.heap.size (w0 := w0) rfl (.tmp 92) (.tmp 93) 22 22 5 rfl Try.underlying22 infoB go size size L (size - L) (size - L) (outAt sub mask X size j) (hashOf sub mask (List.replicate j 0 ++ X)) A' (some ⟨go, L, none⟩) c3 ?hs (fun _ => rfl) rfl rfl HM.out.mid.out (Kd.R_reads' R6.out).2.2 ?hf HM.out.mid.bel HM.out.mid.bw ?_; (case hs => first | rfl | (go_simp; done)); (case hf => omega); intro w7 hR hB hG; rw [EM.out]; have n1 := Aside0.mk (HM.out.copied (by have h1 := outAt_step sub mask X size j (by rw [HL.out, LL.out]; omega); rw [HL.out, LL.out] at h1; rw [← h1]; exact hR) hG); clear HM hR hB hG; have HM := n1; clear n1))
              go_roundw
              case rel => exact ⟨j + 1, hilt, by rw [← hmin.out], by go_num, ⟨⟨_, _, _, HM.out⟩⟩⟩
              case measure => simp [intOf]; omega
    · have hmn : min (i * n) size = size := by omega
      rw [hmn]
      go_wp2
      go_end0
      exact ⟨rfl, i, by rw [HL.out]; omega, hM.mid.out, hM.mid.bel⟩

end Go.Proofs.Ytkehjcppgpoobaa.Mix
