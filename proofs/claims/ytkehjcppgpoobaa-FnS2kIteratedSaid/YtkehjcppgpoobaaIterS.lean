/- impl.S2kIterated and spec.S2kIterated, walked. -/
import Derived.Test.YtkehjcppgpoobaaIter
import Derived.Test.YtkehjcppgpoobaaS2k
set_option linter.unusedVariables false
set_option linter.unusedSimpArgs false
namespace Go.Proofs.Ytkehjcppgpoobaa.Mix
open Go.RowKit Go.Proofs.YtkehjcppgpoobaaW.PrintWords Go.Proofs.YtkehjcppgpoobaaW.PrintMore Go.Proofs.Ytkehjcppgpoobaa.Kit

/-- How many bytes are hashed. -/
def cntOf (count n1 : Nat) : Nat := if count < n1 then n1 else count
theorem cntOf_le (count n1 : Nat) : n1 ≤ cntOf count n1 ∧ cntOf count n1 ≤ count + n1 := by unfold cntOf; split <;> omega
theorem iter_calls {w0 w : World} {d : Nat} {S M : Option Addr} {cS cM g c : Nat} {sub mask : List Int} {go size : Nat} {t0 : List Int} (I : Option Addr) (ci : Nat) (inl : List Int) (Sa : Option Addr) (ca : Nat) (salt : List Int) (count n1 : Nat) (X : List Int) (hn1 : n1 = inl.length + salt.length) (h1n : 1 ≤ n1) (hX : X = cyc (salt ++ inl) (cntOf count n1))
    (h : Mid w0 w d S M cS cM g c sub mask X go size 0 (.slice none 0 0) t0) (hI : C8 w0 I inl) (hIB : Bytes inl) (hS : C8 w0 Sa salt) (hSB : Bytes salt) (hsz : size ≤ 65536) (hb1 : n1 ≤ 100000) (hb2 : count ≤ 2000000) :
    Calls Try.prog 42 #[.slice (some ⟨go, 0, none⟩) size size, .iface 70 (.pointer (some ⟨d, 0, none⟩)), .slice I inl.length ci, .slice Sa salt.length ca, .int .i64 (count : Int)] w fun e w' => e = .returned (.tuple #[]) ∧ ∃ m, size ≤ m * mask.length ∧ R8 5 w' w0.heap.size (.slice (some ⟨go, 0, none⟩) size size) (outAt sub mask X size m) ∧ Below w0.heap.size w0 w' := by
  by_cases hc : count < n1
  · exact iter_short I ci inl Sa ca salt count n1 X hn1 h1n (by rw [hX, cntOf, if_pos hc]) h hI hIB hS hSB hsz hb1 hb2 hc
  · exact iter_far I ci inl Sa ca salt count n1 X hn1 h1n (by rw [hX, cntOf, if_neg hc]) h hI hIB hS hSB hsz hb1 hb2 hc

set_option maxHeartbeats 3200000 in
set_option maxRecDepth 100000 in
theorem iimpl_calls (As : Option Addr) (cs : Nat) (sub : List Int) (Am : Option Addr) (cm : Nat) (mask : List Int) (A : Option Addr) (c : Nat) (x : List Int) (Sa : Option Addr) (ca : Nat) (salt : List Int) (size count : Nat) (w : World) (X : List Int)
    (hs : C8 w As sub) (hsl : sub.length = 256) (hsB : Bytes sub) (hm : C8 w Am mask) (hm1 : 1 ≤ mask.length) (hm2 : mask.length ≤ 64) (hmB : Bytes mask) (hl : C8 w A x) (hlB : Bytes x) (hS : C8 w Sa salt) (hSB : Bytes salt) (hsz : size ≤ 65536) (hx : x.length ≤ 4096) (hsa : salt.length ≤ 4096) (h1 : 1 ≤ x.length + salt.length) (hc : count ≤ 16384)
    (hX : X = cyc (salt ++ x) (cntOf count (x.length + salt.length))) :
    Calls Try.prog 18 #[.agg #[.slice As sub.length cs, .slice Am mask.length cm], .int .i64 (size : Int), .slice A x.length c, .slice Sa salt.length ca, .int .i64 (count : Int)] w fun e w' => ∃ go m, size ≤ m * mask.length ∧ e = .returned (.tuple #[.slice (some ⟨go, 0, none⟩) size size, .bool true]) ∧ R8 5 w' w.heap.size (.slice (some ⟨go, 0, none⟩) size size) ((cat sub mask X m).take size) ∧ Below w.heap.size w w' := by
  have HS := Aside0.mk hs
  have HM := Aside0.mk hm
  have HL := Aside0.mk hl
  have HT := Aside0.mk hS
  have HX := Aside0.mk hX
  have HB := Aside0.mk (And.intro hsB (And.intro hmB (And.intro hlB hSB)))
  have HN := Aside0.mk (And.intro hm1 (And.intro hm2 hsl))
  have d1 : decide ((65536 : Int) < (size : Int)) = false := decide_eq_false (by omega)
  have d1' : decide (65536 < size) = false := decide_eq_false (by omega)
  have d2 : decide ((1048576 : Int) < (count : Int)) = false := decide_eq_false (by omega)
  have d2' : decide (1048576 < count) = false := decide_eq_false (by omega)
  have d3 : (((x.length : Int) + (salt.length : Int)) == 0) = false := beq_eq_false_iff_ne.2 (by omega)
  have d3' : decide ((x.length : Int) + (salt.length : Int) = 0) = false := decide_eq_false (by omega)
  have hs0 : (0 : Int) ≤ (size : Int) := by omega
  have B0 := Aside0.mk (show Below w.heap.size w ((w.alloc (.cells #[.slice As sub.length cs, .slice Am mask.length cm] 24)).alloc (.cells #[.slice As sub.length cs, .slice Am mask.length cm] 24)) by go_grown)
  clear hs hm hl hS hsB hmB hlB hSB hm1 hm2 hsl hX
  go_enter Try.func18, Try.ntmps18
  go_wp2_with (first | (go_at_call 38; (with_reducible refine (iright_yes _ _ _ _ _ _ HN.out.1 HN.out.2.1 _ HN.out.2.2).mono ?_); rintro e w' ⟨rfl, rfl⟩) | ((with_reducible refine gate_dst (N := 37) rfl ?_); refine make8 w.heap.size (w0 := w) rfl (N := 37) rfl 22 5 (.tmp 36) (.tmp 36) rfl size rfl rfl rfl Try.underlying22 infoB (by omega) B0.out (by simp; omega) ?_; intro go w1 _ _ _ hR hB1 hB2; have k0 := pw_cell_below hB2 (a := ⟨w.heap.size, 0, none⟩) (v := .slice As sub.length cs) (by simp [go_sem]); have k1 := pw_cell_below hB2 (a := ⟨w.heap.size, 1, none⟩) (v := .slice Am mask.length cm) (by simp [go_sem]); have R1 := Aside0.mk hR; have B1 := Aside0.mk hB1; clear hR hB1 hB2 B0) | (go_at_call 40; (with_reducible refine (make_calls As cs sub Am cm mask _ (Kd.C_below HS.out B1.out) HN.out.2.2 HB.out.1 (Kd.C_below HM.out B1.out) HN.out.1 HN.out.2.1 HB.out.2.1).mono ?_); rintro e w2 ⟨d, S, M, cS, cM, rfl, hX, hS, hM, hB⟩; obtain ⟨g, c2, hMid⟩ := mid_new (w0 := w) (x := X) (go := go) (size := size) hX hS hM hB R1.out B1.out; have D1 := Aside0.mk hMid; clear hX hS hM hB hMid) | (go_at_call 42; (with_reducible refine (iter_calls A c x Sa ca salt count _ X rfl h1 HX.out D1.out HL.out HB.out.2.2.1 HT.out HB.out.2.2.2 hsz ?hb1 ?hb2).mono ?_); (case hb1 => omega); (case hb2 => omega); rintro e w3 ⟨rfl, m, h1, h2, h3⟩; have P := Aside0.mk (And.intro h1 (And.intro h2 h3)); clear h1 h2 h3))
  go_ret2
  obtain ⟨h1, h2, h3⟩ := P.out
  exact ⟨go, m, h1, rfl, by rw [← outAt_end sub mask X size m h1]; exact h2, h3⟩

/-- A row's own block is none that the bytes lie in. -/
def OffB (v : Value) (A : Option Addr) (l : List Int) : Prop := ∀ kk, v.ownBlock = some kk → Off (fun b => b = kk) A l
theorem OffB.grown {w w1 : World} {v v1 : Value} {A : Option Addr} {l : List Int} (h : OffB v A l) (hc : C8 w A l) (hG : w.grownBy w1 v.ownBlock) (hA : v1.ownBlock = v.ownBlock ∨ ∃ b, v1.ownBlock = some b ∧ w.heap.size ≤ b) : C8 w1 A l ∧ OffB v1 A l := by
  refine ⟨(Tch.of_grown hG).c8 hc (fun ad e hp k => h _ k ad e hp rfl), fun kk hk ad e hp q => ?_⟩
  rcases hA with e1 | ⟨b, e1, hb⟩
  · exact h kk (by rw [← e1]; exact hk) ad e hp q
  · rw [hk] at e1
    injection e1 with e1
    have := c8_lt hc ad e hp
    have q' : ad.block = kk := q
    omega
def lenV : Value → Nat
  | .slice _ n _ => n
  | _ => 0
theorem stretched_n (As : Option Addr) (cs : Nat) (sub : List Int) (Am : Option Addr) (cm : Nat) (mask : List Int) (A : Option Addr) (c : Nat) (x : List Int) (size : Nat) (w : World) (n : Nat) (hn : n = x.length)
    (hs : C8 w As sub) (hsl : sub.length = 256) (hsB : Bytes sub) (hm : C8 w Am mask) (hm1 : 1 ≤ mask.length) (hm2 : mask.length ≤ 64) (hmB : Bytes mask) (hl : C8 w A x) (hlB : Bytes x) (hx : x.length ≤ 100000000) (hsz : size ≤ 65536) :
    Calls Try.prog 41 #[.iface 73 (.agg #[.slice As sub.length cs, .slice Am mask.length cm]), .int .i64 (size : Int), .slice A n c] w fun e w' => ∃ B d m, size ≤ m * mask.length ∧ e = .returned (.slice B size d) ∧ C8 w' B ((cat sub mask x m).take size) ∧ Below w.heap.size w w' := by
  subst hn
  exact stretched_calls As cs sub Am cm mask A c x size w hs hsl hsB hm hm1 hm2 hmB hl hlB hx hsz
theorem bytes_two {a b : List Int} (ha : Bytes a) (hb : Bytes b) : Bytes (a ++ b) := by
  intro j
  rw [List.getD_eq_getElem?_getD, List.getElem?_append]
  split
  · rw [← List.getD_eq_getElem?_getD]; exact ha j
  · rw [← List.getD_eq_getElem?_getD]; exact hb _

set_option maxHeartbeats 3200000 in
set_option maxRecDepth 100000 in
theorem ispec_short (As : Option Addr) (cs : Nat) (sub : List Int) (Am : Option Addr) (cm : Nat) (mask : List Int) (A : Option Addr) (c : Nat) (x : List Int) (Sa : Option Addr) (ca : Nat) (salt : List Int) (size count n1 : Nat) (w : World) (X : List Int)
    (hs : C8 w As sub) (hsl : sub.length = 256) (hsB : Bytes sub) (hm : C8 w Am mask) (hm1 : 1 ≤ mask.length) (hm2 : mask.length ≤ 64) (hmB : Bytes mask) (hl : C8 w A x) (hlB : Bytes x) (hS : C8 w Sa salt) (hSB : Bytes salt) (hsz : size ≤ 65536) (hx : x.length ≤ 4096) (hsa : salt.length ≤ 4096) (hn1 : n1 = x.length + salt.length) (h1 : 1 ≤ n1) (hc : count ≤ 16384) (hcnt : count < n1)
    (hX : X = cyc (salt ++ x) n1) :
    Calls Try.prog 19 #[.iface 73 (.agg #[.slice As sub.length cs, .slice Am mask.length cm]), .int .i64 (size : Int), .slice A x.length c, .slice Sa salt.length ca, .int .i64 (count : Int)] w fun e w' => ∃ B d m, size ≤ m * mask.length ∧ e = .returned (.slice B size d) ∧ C8 w' B ((cat sub mask X m).take size) ∧ Below w.heap.size w w' := by
  have HS := Aside0.mk hs
  have HM := Aside0.mk hm
  have HL := Aside0.mk hl
  have HT := Aside0.mk hS
  have HB := Aside0.mk (And.intro hsB (And.intro hmB (bytes_two hSB hlB)))
  have HN := Aside0.mk (And.intro hm1 (And.intro hm2 hsl))
  have hol : (salt ++ x).length = n1 := by rw [List.length_append]; omega
  obtain ⟨one, hone⟩ : ∃ one, salt ++ x = one := ⟨_, rfl⟩
  rw [hone] at hX hol HB
  have ON := Aside0.mk hone
  have OL := Aside0.mk hol
  have XE := Aside0.mk hX
  have OL2 : Aside0 (n1 = one.length) := ⟨hol.symm⟩
  have XL : Aside0 (n1 = X.length) := ⟨by rw [hX]; exact (cyc_length one _ (by omega)).symm⟩
  have N1 := Aside0.mk hn1
  have q1 : decide ((count : Int) < (n1 : Int)) = true := decide_eq_true (by omega)
  have q1' : decide (count < n1) = true := decide_eq_true hcnt
  have hcn : n1 ≤ n1 := by omega
  have hn2 : n1 ≤ 8192 := by omega
  have z1 : ((n1 : Int) == 0) = false := beq_eq_false_iff_ne.2 (by omega)
  have z2 : ¬ (n1 : Int) = 0 := by omega
  have z3 : ¬ n1 = 0 := by omega
  clear hs hm hl hS hsB hmB hlB hSB hm1 hm2 hsl hX hone hol hn1
  go_enter Try.func19, Try.ntmps19
  go_wp2_with (first | ((with_reducible refine gate_dst (N := 13) rfl ?_); refine lit8 w.heap.size 5 (w0 := w) rfl (N := 13) rfl [] ?hr (Below.refl _ _) (Nat.le_refl _) (by simp) ?_; (case hr => first | (go_simp; done) | (go_simp; rfl)); intro g0 w1 _ _ _ hR hB _; have R1 := Aside0.mk hR; have B1 := Aside0.mk hB; clear hR hB) | ((with_reducible refine gate_dst (N := 15) rfl ?_); refine append8 w.heap.size (w0 := w) rfl (.tmp 13) (.tmp 14) 22 5 rfl Try.underlying22 infoB _ _ salt _ _ rfl rfl rfl R1.out (Kd.C_below HT.out B1.out) B1.out (below_size B1.out) ?hl ?_; (case hl => simp; omega); intro v2 w2 hR hB _ _; rw [List.nil_append] at hR; clear R1 B1; have R1 := Aside0.mk hR; have B1 := Aside0.mk hB; clear hR hB) | ((with_reducible refine gate_dst (N := 17) rfl ?_); refine append8 w.heap.size (w0 := w) rfl (.tmp 15) (.tmp 16) 22 5 rfl Try.underlying22 infoB _ _ x _ _ rfl rfl rfl R1.out (Kd.C_below HL.out B1.out) B1.out (below_size B1.out) ?hl ?_; (case hl => omega); intro v3 w3 hR hB _ _; rw [ON.out] at hR; obtain ⟨Ao, co, eo, hoc, hor⟩ := r8_reads hR; rw [OL.out] at eo hoc; subst eo; have O1 := Aside0.mk hor; clear R1 B1 hR hor; have B1 := Aside0.mk hB; clear hB))
  go_loopw [12] (fun v wr => ∃ k : Nat, Aside0 (R8 5 wr w.heap.size v (repN one k)) ∧ Aside0 (C8 wr Ao one) ∧ Aside0 (Below w.heap.size w wr) ∧ Aside0 (OffB v Ao one) ∧ k * n1 ≤ n1 + n1) (fun v _ => n1 + n1 - lenV v)
  case atStart => exact ⟨0, ⟨Kd.R_nil _ _ _ _ _⟩, O1, B1, ⟨fun kk e => by simp [Value.ownBlock] at e⟩, by omega⟩
  case round =>
    clear O1 B1
    obtain ⟨k, HR, HO, HW, HF, hk⟩ := hrel
    obtain ⟨Av, cv, ev, hcv, hrv⟩ := r8_reads HR.out
    obtain ⟨L, eL⟩ : ∃ L, k * n1 = L := ⟨_, rfl⟩
    have eln := repN_length one k
    rw [OL.out, eL] at eln
    rw [eln] at ev hcv
    subst ev
    have EL := Aside0.mk (And.intro eln eL)
    rw [eL] at hk
    by_cases hlt : L < n1
    · clear eln eL hrv
      go_wp2_with ((with_reducible refine gate_dst (N := 33) rfl ?_); refine append8 w.heap.size (w0 := w) rfl (.tmp 31) (.tmp 32) 22 5 rfl Try.underlying22 infoB (.slice Av L cv) (repN one k) one Ao co rfl rfl OL2.out HR.out HO.out HW.out (below_size HW.out) ?hl ?_; (case hl => rw [EL.out.1, OL.out]; omega); intro v5 w5 hR hB hG hA; have FF := Aside0.mk (HF.out.grown HO.out hG hA); have R5 := Aside0.mk (show R8 5 w5 w.heap.size v5 (repN one (k + 1)) from hR); have B5 := Aside0.mk hB; have LV := Aside0.mk (show L + n1 ≤ lenV v5 by obtain ⟨A7, c7, e7, _, _⟩ := r8_reads hR; subst e7; show L + n1 ≤ (repN one k ++ one).length; rw [List.length_append, EL.out.1, OL.out]; exact Nat.le_refl _); clear hR hB hG hA)
      go_roundw
      case rel => exact ⟨k + 1, R5, ⟨FF.out.1⟩, B5, ⟨FF.out.2⟩, by rw [Nat.succ_mul, EL.out.2]; omega⟩
      case measure => have := LV.out; show n1 + n1 - lenV v5 < n1 + n1 - L; omega
    · obtain ⟨i0, hi0, _, hszz, _⟩ := info_parts infoB
      have htl : ((repN one k).take n1).length = n1 := by rw [List.length_take, eln]; omega
      obtain ⟨h1', h2', _⟩ := print_take_of (P := Try.prog) (Value.int .u8) (0 : Int) 22 5 .i64 Try.underlying22 hi0 hszz Av cv (repN one k) (n1 : Int) (by omega) (by omega) (by omega)
      rw [Int.toNat_natCast, htl, eln] at h1'
      rw [Int.toNat_natCast, htl] at h2'
      have hX7 : (repN one k).take n1 = X := by rw [XE.out]; exact cyc_eq one _ k (by rw [OL.out]; exact h1) (by rw [OL.out, eL]; omega)
      have hc8 : C8 wr Av X := by
        have h4 := h2' wr (Kd.reads_of_C (Kd.R_reads' HR.out).2.2)
        rw [hX7] at h4
        have h5 := Kd.C_of_reads (h1 := fun _ => rfl) h4
        rw [C8, ← XL.out]; exact h5
      have H8 := Aside0.mk hc8
      have XBy : Aside0 (Bytes X ∧ X.length ≤ 100000000) := ⟨by rw [XE.out]; exact cyc_bytes HB.out.2.2 _, by rw [← XL.out]; omega⟩
      clear h2' hX7 hc8 htl eln eL hrv
      go_wp2_with (go_at_call 41; (with_reducible refine (stretched_n As cs sub Am cm mask Av cv X size _ n1 XL.out (Kd.C_below HS.out HW.out) HN.out.2.2 HB.out.1 (Kd.C_below HM.out HW.out) HN.out.1 HN.out.2.1 HB.out.2.1 H8.out XBy.out.1 XBy.out.2 hsz).mono ?_); rintro e w6 ⟨B, d, m, g1, rfl, g2, g3⟩; have P := Aside0.mk (And.intro g1 (And.intro g2 (below_then HW.out (below_size HW.out) g3))); clear g1 g2 g3)
      go_ret
      exact ⟨B, d, m, P.out.1, rfl, P.out.2.1, P.out.2.2⟩

set_option maxHeartbeats 3200000 in
set_option maxRecDepth 100000 in
theorem ispec_far (As : Option Addr) (cs : Nat) (sub : List Int) (Am : Option Addr) (cm : Nat) (mask : List Int) (A : Option Addr) (c : Nat) (x : List Int) (Sa : Option Addr) (ca : Nat) (salt : List Int) (size count n1 : Nat) (w : World) (X : List Int)
    (hs : C8 w As sub) (hsl : sub.length = 256) (hsB : Bytes sub) (hm : C8 w Am mask) (hm1 : 1 ≤ mask.length) (hm2 : mask.length ≤ 64) (hmB : Bytes mask) (hl : C8 w A x) (hlB : Bytes x) (hS : C8 w Sa salt) (hSB : Bytes salt) (hsz : size ≤ 65536) (hx : x.length ≤ 4096) (hsa : salt.length ≤ 4096) (hn1 : n1 = x.length + salt.length) (h1 : 1 ≤ n1) (hc : count ≤ 16384) (hcnt : ¬ count < n1)
    (hX : X = cyc (salt ++ x) count) :
    Calls Try.prog 19 #[.iface 73 (.agg #[.slice As sub.length cs, .slice Am mask.length cm]), .int .i64 (size : Int), .slice A x.length c, .slice Sa salt.length ca, .int .i64 (count : Int)] w fun e w' => ∃ B d m, size ≤ m * mask.length ∧ e = .returned (.slice B size d) ∧ C8 w' B ((cat sub mask X m).take size) ∧ Below w.heap.size w w' := by
  have HS := Aside0.mk hs
  have HM := Aside0.mk hm
  have HL := Aside0.mk hl
  have HT := Aside0.mk hS
  have HB := Aside0.mk (And.intro hsB (And.intro hmB (bytes_two hSB hlB)))
  have HN := Aside0.mk (And.intro hm1 (And.intro hm2 hsl))
  have hol : (salt ++ x).length = n1 := by rw [List.length_append]; omega
  obtain ⟨one, hone⟩ : ∃ one, salt ++ x = one := ⟨_, rfl⟩
  rw [hone] at hX hol HB
  have ON := Aside0.mk hone
  have OL := Aside0.mk hol
  have XE := Aside0.mk hX
  have OL2 : Aside0 (n1 = one.length) := ⟨hol.symm⟩
  have XL : Aside0 (count = X.length) := ⟨by rw [hX]; exact (cyc_length one _ (by omega)).symm⟩
  have N1 := Aside0.mk hn1
  have q1 : decide ((count : Int) < (n1 : Int)) = false := decide_eq_false (by omega)
  have q1' : decide (count < n1) = false := decide_eq_false hcnt
  have hcn : n1 ≤ count := by omega
  have hn2 : n1 ≤ 8192 := by omega
  have z1 : ((n1 : Int) == 0) = false := beq_eq_false_iff_ne.2 (by omega)
  have z2 : ¬ (n1 : Int) = 0 := by omega
  have z3 : ¬ n1 = 0 := by omega
  clear hs hm hl hS hsB hmB hlB hSB hm1 hm2 hsl hX hone hol hn1
  go_enter Try.func19, Try.ntmps19
  go_wp2_with (first | ((with_reducible refine gate_dst (N := 13) rfl ?_); refine lit8 w.heap.size 5 (w0 := w) rfl (N := 13) rfl [] ?hr (Below.refl _ _) (Nat.le_refl _) (by simp) ?_; (case hr => first | (go_simp; done) | (go_simp; rfl)); intro g0 w1 _ _ _ hR hB _; have R1 := Aside0.mk hR; have B1 := Aside0.mk hB; clear hR hB) | ((with_reducible refine gate_dst (N := 15) rfl ?_); refine append8 w.heap.size (w0 := w) rfl (.tmp 13) (.tmp 14) 22 5 rfl Try.underlying22 infoB _ _ salt _ _ rfl rfl rfl R1.out (Kd.C_below HT.out B1.out) B1.out (below_size B1.out) ?hl ?_; (case hl => simp; omega); intro v2 w2 hR hB _ _; rw [List.nil_append] at hR; clear R1 B1; have R1 := Aside0.mk hR; have B1 := Aside0.mk hB; clear hR hB) | ((with_reducible refine gate_dst (N := 17) rfl ?_); refine append8 w.heap.size (w0 := w) rfl (.tmp 15) (.tmp 16) 22 5 rfl Try.underlying22 infoB _ _ x _ _ rfl rfl rfl R1.out (Kd.C_below HL.out B1.out) B1.out (below_size B1.out) ?hl ?_; (case hl => omega); intro v3 w3 hR hB _ _; rw [ON.out] at hR; obtain ⟨Ao, co, eo, hoc, hor⟩ := r8_reads hR; rw [OL.out] at eo hoc; subst eo; have O1 := Aside0.mk hor; clear R1 B1 hR hor; have B1 := Aside0.mk hB; clear hB))
  go_loopw [12] (fun v wr => ∃ k : Nat, Aside0 (R8 5 wr w.heap.size v (repN one k)) ∧ Aside0 (C8 wr Ao one) ∧ Aside0 (Below w.heap.size w wr) ∧ Aside0 (OffB v Ao one) ∧ k * n1 ≤ count + n1) (fun v _ => count + n1 - lenV v)
  case atStart => exact ⟨0, ⟨Kd.R_nil _ _ _ _ _⟩, O1, B1, ⟨fun kk e => by simp [Value.ownBlock] at e⟩, by omega⟩
  case round =>
    clear O1 B1
    obtain ⟨k, HR, HO, HW, HF, hk⟩ := hrel
    obtain ⟨Av, cv, ev, hcv, hrv⟩ := r8_reads HR.out
    obtain ⟨L, eL⟩ : ∃ L, k * n1 = L := ⟨_, rfl⟩
    have eln := repN_length one k
    rw [OL.out, eL] at eln
    rw [eln] at ev hcv
    subst ev
    have EL := Aside0.mk (And.intro eln eL)
    rw [eL] at hk
    by_cases hlt : L < count
    · clear eln eL hrv
      go_wp2_with ((with_reducible refine gate_dst (N := 33) rfl ?_); refine append8 w.heap.size (w0 := w) rfl (.tmp 31) (.tmp 32) 22 5 rfl Try.underlying22 infoB (.slice Av L cv) (repN one k) one Ao co rfl rfl OL2.out HR.out HO.out HW.out (below_size HW.out) ?hl ?_; (case hl => rw [EL.out.1, OL.out]; omega); intro v5 w5 hR hB hG hA; have FF := Aside0.mk (HF.out.grown HO.out hG hA); have R5 := Aside0.mk (show R8 5 w5 w.heap.size v5 (repN one (k + 1)) from hR); have B5 := Aside0.mk hB; have LV := Aside0.mk (show L + n1 ≤ lenV v5 by obtain ⟨A7, c7, e7, _, _⟩ := r8_reads hR; subst e7; show L + n1 ≤ (repN one k ++ one).length; rw [List.length_append, EL.out.1, OL.out]; exact Nat.le_refl _); clear hR hB hG hA)
      go_roundw
      case rel => exact ⟨k + 1, R5, ⟨FF.out.1⟩, B5, ⟨FF.out.2⟩, by rw [Nat.succ_mul, EL.out.2]; omega⟩
      case measure => have := LV.out; show count + n1 - lenV v5 < count + n1 - L; omega
    · obtain ⟨i0, hi0, _, hszz, _⟩ := info_parts infoB
      have htl : ((repN one k).take count).length = count := by rw [List.length_take, eln]; omega
      obtain ⟨h1', h2', _⟩ := print_take_of (P := Try.prog) (Value.int .u8) (0 : Int) 22 5 .i64 Try.underlying22 hi0 hszz Av cv (repN one k) (count : Int) (by omega) (by omega) (by omega)
      rw [Int.toNat_natCast, htl, eln] at h1'
      rw [Int.toNat_natCast, htl] at h2'
      have hX7 : (repN one k).take count = X := by rw [XE.out]; exact cyc_eq one _ k (by rw [OL.out]; exact h1) (by rw [OL.out, eL]; omega)
      have hc8 : C8 wr Av X := by
        have h4 := h2' wr (Kd.reads_of_C (Kd.R_reads' HR.out).2.2)
        rw [hX7] at h4
        have h5 := Kd.C_of_reads (h1 := fun _ => rfl) h4
        rw [C8, ← XL.out]; exact h5
      have H8 := Aside0.mk hc8
      have XBy : Aside0 (Bytes X ∧ X.length ≤ 100000000) := ⟨by rw [XE.out]; exact cyc_bytes HB.out.2.2 _, by rw [← XL.out]; omega⟩
      clear h2' hX7 hc8 htl eln eL hrv
      go_wp2_with (go_at_call 41; (with_reducible refine (stretched_n As cs sub Am cm mask Av cv X size _ count XL.out (Kd.C_below HS.out HW.out) HN.out.2.2 HB.out.1 (Kd.C_below HM.out HW.out) HN.out.1 HN.out.2.1 HB.out.2.1 H8.out XBy.out.1 XBy.out.2 hsz).mono ?_); rintro e w6 ⟨B, d, m, g1, rfl, g2, g3⟩; have P := Aside0.mk (And.intro g1 (And.intro g2 (below_then HW.out (below_size HW.out) g3))); clear g1 g2 g3)
      go_ret
      exact ⟨B, d, m, P.out.1, rfl, P.out.2.1, P.out.2.2⟩

theorem ispec_calls (As : Option Addr) (cs : Nat) (sub : List Int) (Am : Option Addr) (cm : Nat) (mask : List Int) (A : Option Addr) (c : Nat) (x : List Int) (Sa : Option Addr) (ca : Nat) (salt : List Int) (size count : Nat) (w : World) (X : List Int)
    (hs : C8 w As sub) (hsl : sub.length = 256) (hsB : Bytes sub) (hm : C8 w Am mask) (hm1 : 1 ≤ mask.length) (hm2 : mask.length ≤ 64) (hmB : Bytes mask) (hl : C8 w A x) (hlB : Bytes x) (hS : C8 w Sa salt) (hSB : Bytes salt) (hsz : size ≤ 65536) (hx : x.length ≤ 4096) (hsa : salt.length ≤ 4096) (h1 : 1 ≤ x.length + salt.length) (hc : count ≤ 16384)
    (hX : X = cyc (salt ++ x) (cntOf count (x.length + salt.length))) :
    Calls Try.prog 19 #[.iface 73 (.agg #[.slice As sub.length cs, .slice Am mask.length cm]), .int .i64 (size : Int), .slice A x.length c, .slice Sa salt.length ca, .int .i64 (count : Int)] w fun e w' => ∃ B d m, size ≤ m * mask.length ∧ e = .returned (.slice B size d) ∧ C8 w' B ((cat sub mask X m).take size) ∧ Below w.heap.size w w' := by
  by_cases hcnt : count < x.length + salt.length
  · exact ispec_short As cs sub Am cm mask A c x Sa ca salt size count _ w X hs hsl hsB hm hm1 hm2 hmB hl hlB hS hSB hsz hx hsa rfl h1 hc hcnt (by rw [hX, cntOf, if_pos hcnt])
  · exact ispec_far As cs sub Am cm mask A c x Sa ca salt size count _ w X hs hsl hsB hm hm1 hm2 hmB hl hlB hS hSB hsz hx hsa rfl h1 hc hcnt (by rw [hX, cntOf, if_neg hcnt])
end Go.Proofs.Ytkehjcppgpoobaa.Mix
