/- spec.stretched, walked. -/
import Derived.Test.YtkehjcppgpoobaaSaltW
set_option linter.unusedVariables false
set_option linter.unusedSimpArgs false
namespace Go.Proofs.Ytkehjcppgpoobaa.Mix
open Go.RowKit Go.Proofs.YtkehjcppgpoobaaW.PrintWords Go.Proofs.YtkehjcppgpoobaaW.PrintMore Go.Proofs.Ytkehjcppgpoobaa.Kit

section
variable {P : Program} {ops : Array Oper} {o : Oper} {a : Act} {Q : Exit → Act → World → Prop} {K : Act → World → Prop} {E : Prop}
/-- make([]byte, n): what it comes to. -/
theorem made_run (t e : TypeId) (n : Nat) (ht : P.underlying t = some (.slice e)) (hinfo : (P.info? e).map (fun i => (i.zero, i.size, i.bytes)) = some (some (.int .u8 0), 1, 1)) (hn : n ≤ 281474976710656) (W : World) :
    (Instr.makeSlice t (.int .i64 (n : Int)) (.int .i64 (n : Int))).run P W = .ok (.slice (some ⟨W.heap.size, 0, none⟩) n n) (W.alloc (.cells (madeCells (Value.int IntKind.u8 0).cells n) e)) := by
  obtain ⟨i0, hi, hzz⟩ := Option.map_eq_some_iff.1 hinfo
  simp only [Prod.mk.injEq] at hzz
  obtain ⟨hz0, hz1, hz2⟩ := hzz
  have hr := run_make (P := P) W t e i0 (.int .u8 0) ht hi hz0 .i64 .i64 (n : Int) (n : Int) (by omega) (by omega) (by rw [hz2]; omega) (by omega)
  simp only [Int.toNat_natCast] at hr
  rw [hz1, Nat.mul_one] at hr
  exact hr
theorem made8 (e : TypeId) (n : Nat) (hn : n ≤ 281474976710656) (W : World) : R8 e (W.alloc (.cells (madeCells (Value.int IntKind.u8 0).cells n) e)) W.heap.size (.slice (some ⟨W.heap.size, 0, none⟩) n n) (List.replicate n 0) :=
  Kd.R_of_own (v := .slice (some ⟨W.heap.size, 0, none⟩) n n) (by rw [List.length_replicate]; exact own_made W W.heap.size e .u8 n (Nat.le_refl _) (by omega)) (fun _ _ => trivial)
/-- append(v, xs...) as a step. -/
theorem appendS {W : World} (base : Nat) (hgd : o.guard = none) (s x : Operand) (t e : TypeId)
    (ho : o.op = .call { callee := .builtin .append, args := #[s, x], argTypes := #[t, t] })
    (ht : P.underlying t = some (.slice e)) (hinfo : (P.info? e).map (fun i => (i.zero, i.size, i.bytes)) = some (some (.int .u8 0), 1, 1))
    (v : Value) (xs ys : List Int) (A : Option Addr) (c : Nat) {m : Nat} (hs : a.eval s = v) (hx : a.eval x = .slice A m c) (hmy : m = ys.length)
    (HO : R8 e W base v xs) (HR : C8 W A ys) (hbase : base ≤ W.heap.size) (hl : xs.length + ys.length ≤ 140737488355328)
    (h : ∀ v1 w1, R8 e w1 base v1 (xs ++ ys) → Below base W w1 → W.grownBy w1 v.ownBlock → (v1.ownBlock = v.ownBlock ∨ ∃ b, v1.ownBlock = some b ∧ W.heap.size ≤ b) → K (a.put o.dst v1) w1) :
    if Region.wanted o (yielded ops a.tmps) = true then Oper.wp P o a W K Q else E := by
  subst hmy
  have hw : Region.wanted o (yielded ops a.tmps) = true := by simp [Region.wanted, hgd]
  have := Kd.R_append_rows_step (P := P) (ops := ops) (o := o) (a := a) (Q := Q) (Kc := K) (Kd.int .u8) (w0 := W) base hw s x t e (.int .u8 0) 1 ho ht hinfo rfl (by decide) (by decide) v xs ys A ys.length c (fun _ => True) (fun _ => False) hs hx HO HR (fun _ _ h => h) (fun _ h => h.elim) (fun _ _ => trivial) (Below.refl _ _) hbase (by omega) h
  rw [if_pos hw] at this
  rw [if_pos hw]
  exact this
end
theorem bytes_cat {x : List Int} (i : Nat) (h : Bytes x) : Bytes (List.replicate i 0 ++ x) := by
  intro j
  rw [List.getD_eq_getElem?_getD, List.getElem?_append]
  split
  · rw [← List.getD_eq_getElem?_getD]; exact bytes_zeros i j
  · rw [← List.getD_eq_getElem?_getD]; exact h _
theorem nil_msum (l : Array Value) (w : World) : (nilAhead 310 73 (.agg l) "Sum").run Try.prog w = .ok (some false) w := by kernel_rfl

set_option maxHeartbeats 3200000 in
set_option maxRecDepth 100000 in
theorem stretched_calls (As : Option Addr) (cs : Nat) (sub : List Int) (Am : Option Addr) (cm : Nat) (mask : List Int) (A : Option Addr) (c : Nat) (x : List Int) (size : Nat) (w : World)
    (hs : C8 w As sub) (hsl : sub.length = 256) (hsB : Bytes sub) (hm : C8 w Am mask) (hm1 : 1 ≤ mask.length) (hm2 : mask.length ≤ 64) (hmB : Bytes mask) (hl : C8 w A x) (hlB : Bytes x) (hx : x.length ≤ 100000000) (hsz : size ≤ 65536) :
    Calls Try.prog 41 #[.iface 73 (.agg #[.slice As sub.length cs, .slice Am mask.length cm]), .int .i64 (size : Int), .slice A x.length c] w fun e w' => ∃ B d m, size ≤ m * mask.length ∧ e = .returned (.slice B size d) ∧ C8 w' B ((cat sub mask x m).take size) ∧ Below w.heap.size w w' := by
  have HS := Aside0.mk hs
  have HM := Aside0.mk hm
  have HL := Aside0.mk hl
  have HB := Aside0.mk (And.intro hsB (And.intro hmB hlB))
  have HN := Aside0.mk (And.intro hm1 (And.intro hm2 (And.intro hsl hx)))
  clear hs hm hl hsB hmB hlB hm1 hm2 hsl hx
  obtain ⟨n, hn⟩ : ∃ n, mask.length = n := ⟨_, rfl⟩
  have HE := Aside0.mk hn
  clear hn
  go_enter Try.func41, Try.ntmps41
  go_wp2_with fail
  go_loopw [7, 8] (fun v iv wr => ∃ i : Nat, i ≤ size ∧ iv = .int .i64 (i : Int) ∧ Aside0 (R8 5 wr w.heap.size v (cat sub mask x i)) ∧ Aside0 (Below w.heap.size w wr)) (fun _ iv _ => size - (intOf iv).toNat)
  case atStart => exact ⟨0, Nat.zero_le _, rfl, ⟨Kd.R_nil _ _ _ _ _⟩, ⟨Below.refl _ _⟩⟩
  case round =>
    obtain ⟨i, hi, rfl, HR, HW⟩ := hrel
    obtain ⟨Av, cv, ev, hcv, _⟩ := r8_reads HR.out
    subst ev
    obtain ⟨L, eL⟩ : ∃ L, i * n = L := ⟨_, rfl⟩
    have eln := cat_length sub mask x i
    rw [HE.out, eL] at eln
    rw [eln] at hcv ⊢
    rw [eln] at HR
    have EL := Aside0.mk (And.intro eln eL)
    by_cases hlt : L < size
    · have hilt : i < size := by have := HN.out; have := HE.out; have : i * 1 ≤ i * n := Nat.mul_le_mul_left _ (by omega); omega
      clear eln eL hcv
      have ns := nil_msum #[.slice As sub.length cs, .slice Am mask.length cm]
      obtain ⟨X, eX⟩ : ∃ X, List.replicate i 0 ++ x = X := ⟨_, rfl⟩
      have XE := Aside0.mk (And.intro eX (show Bytes X by rw [← eX]; exact bytes_cat i HB.out.2.2))
      clear eX
      have CH := Aside0.mk ((below_drew (Below.refl wr.heap.size wr)).alloc (Nat.le_refl _) (.cells (madeCells (Value.int IntKind.u8 0).cells i) 5))
      have hmk := made_run (P := Try.prog) 22 5 i Try.underlying22 infoB (by omega)
      go_wp2_with fail
      go_region_held3 (fun w' => Below w.heap.size w w') (first | assumption | (exact HW.out.drew) | (exact (HW.out.drew).alloc (below_size HW.out.drew) _)) (first | (refine appendS wr.heap.size rfl (.tmp 18) (.tmp 19) 22 5 rfl Try.underlying22 infoB _ _ x _ _ rfl rfl rfl (made8 5 i (by omega) wr.drew) ?_ (below_size CH.out) ?_ ?_; (focus (exact Kd.C_below HL.out (below_then HW.out (below_size HW.out) CH.out))); (focus (have := HN.out; simp; omega)); intro v1 w1 hR hB _ _; rw [XE.out.1] at hR; obtain ⟨A20, c20, e20, _, hr20⟩ := r8_reads hR; subst e20; have R20 := Aside0.mk hr20; clear hR hr20; have n1 := Aside0.mk (CH.out.trans hB); clear CH; have CH := n1; clear n1; have hB0 : Below w.heap.size w w1 := (below_then HW.out (below_size HW.out) CH.out)) | (go_at_call 107; (with_reducible refine (msum_calls As cs sub Am cm mask A20 c20 X _ (Kd.C_below HS.out (below_then HW.out (below_size HW.out) CH.out)) HN.out.2.2.1 HB.out.1 (Kd.C_below HM.out (below_then HW.out (below_size HW.out) CH.out)) HN.out.1 HN.out.2.1 HB.out.2.1 R20.out XE.out.2).mono ?_); rintro e w1 ⟨v4, rfl, hR, hB⟩; obtain ⟨A24, c24, e24, _, hr24⟩ := r8_reads hR; subst e24; have R24 := Aside0.mk hr24; clear R20 hR hr24; have n1 := Aside0.mk (below_then CH.out (below_size CH.out) hB); clear CH; have CH := n1; clear n1; have hB0 : Below w.heap.size w w1 := (below_then HW.out (below_size HW.out) CH.out)) | (refine appendS w.heap.size rfl (.tmp 15) (.tmp 24) 22 5 rfl Try.underlying22 infoB (.slice Av L cv) (cat sub mask x i) (hashOf sub mask X) A24 c24 rfl rfl rfl (Kd.R_below HR.out CH.out) R24.out (below_size (below_then HW.out (below_size HW.out) CH.out)) ?_ ?_; (focus (rw [hashOf_length, EL.out.1]; have := HN.out; omega)); intro v5 w1 hR hB _ _; have hB0 : Below w.heap.size w w1 := (below_then HW.out (below_size HW.out) CH.out).trans hB; have R25 := Aside0.mk hR; clear R24 hR))
      all_goals
        go_wp2
        go_roundw
        case rel => exact ⟨i + 1, hilt, by go_num, ⟨by rw [cat, XE.out.1]; exact R25.out⟩, ⟨by assumption⟩⟩
        case measure => simp [intOf]; omega
    · have hsL : size ≤ L := by omega
      obtain ⟨kk, hk2⟩ : ∃ kk, i = kk := ⟨_, rfl⟩
      obtain ⟨i0, hi0, _, hszz, _⟩ := info_parts infoB
      have htl : ((cat sub mask x i).take size).length = size := by rw [List.length_take, eln]; omega
      obtain ⟨h1, h2, h3⟩ := print_take_of (P := Try.prog) (Value.int .u8) (0 : Int) 22 5 .i64 Try.underlying22 hi0 hszz Av cv (cat sub mask x i) (size : Int) (by omega) (by omega) (by omega)
      rw [Int.toNat_natCast, htl, eln] at h1
      rw [Int.toNat_natCast, htl] at h2
      have h4 := h2 wr (by have := (Kd.R_reads' HR.out).2.2; exact Kd.reads_of_C this)
      have H4 := Aside0.mk h4
      have FIN := Aside0.mk (show size ≤ i * mask.length by rw [HE.out, eL]; exact hsL)
      have TL := Aside0.mk htl
      clear h2 h3 h4 eln eL hk2 htl
      go_wp2
      go_ret
      exact ⟨Av, cv, i, FIN.out, rfl, by have := Kd.C_of_reads (h1 := fun _ => rfl) H4.out; rw [C8, TL.out]; exact this, HW.out⟩
end Go.Proofs.Ytkehjcppgpoobaa.Mix
