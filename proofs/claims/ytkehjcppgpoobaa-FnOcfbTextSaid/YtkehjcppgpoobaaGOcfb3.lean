/- Lemmas on the seat's program, in order (8 texts in one); the last text's theorems rest on them. -/
import Derived.Test.YtkehjcppgpoobaaGOcfb2
import Derived.Test.YtkehjcppgpoobaaGOcfb1
import Derived.Test.YtkehjcppgpoobaaProg
/- spec.Ocfb over plain data, walked. -/
set_option linter.unusedVariables false
set_option linter.unusedSimpArgs false
namespace Go.Proofs.Ytkehjcppgpoobaa.Ocf
open Go.RowKit Go.Proofs.YtkehjcppgpoobaaW.PrintWords Go.Proofs.YtkehjcppgpoobaaW.PrintMore Go.Proofs.Ytkehjcppgpoobaa.Kit Go.Proofs.Ytkehjcppgpoobaa.Mix Go.Proofs.Ytkehjcppgpoobaa.Blk Go.Proofs.Ytkehjcppgpoobaa.PFnOcfb

/-- A block of random bytes, the last two told twice. -/
def told (r : List Int) : List Int := r ++ r.drop (r.length - 2)
theorem told_length {r : List Int} (h : 2 ≤ r.length) : (told r).length = r.length + 2 := by
  rw [told, List.length_append, List.length_drop]; omega
theorem told_f (r : List Int) (h : 2 ≤ r.length) (h2 : r.length ≤ 100000) : spec_twiceTold.f r = some (told r) := by
  unfold spec_twiceTold.f
  have e : wrap64 ((r.length : Int) - 2) = ((r.length - 2 : Nat) : Int) := by rw [wrap64_id (by omega) (by omega)]; omega
  refine bind_of rfl ?_
  rw [if_pos (by simp; omega)]
  refine bind_of rfl ?_
  rw [e, if_pos (by omega), if_pos (by omega), Int.toNat_natCast, if_pos (by simp; omega), List.nil_append]
  rfl
theorem bytes_app {a b : List Int} (ha : Bytes a) (hb : Bytes b) : Bytes (a ++ b) := by
  intro i
  rw [List.getD_eq_getElem?_getD, List.getElem?_append]
  by_cases h : i < a.length
  · rw [if_pos h, ← List.getD_eq_getElem?_getD]; exact ha i
  · rw [if_neg h, ← List.getD_eq_getElem?_getD]; exact hb _
theorem bytes_drop {l : List Int} (h : Bytes l) (k : Nat) : Bytes (l.drop k) := bytesC_drop h k
theorem told_bytes {r : List Int} (h : Bytes r) : Bytes (told r) := bytes_app h (bytesC_drop h _)
theorem zeros_bytes (n : Nat) : Bytes (List.replicate n 0) := by
  intro i
  rw [List.getD_eq_getElem?_getD, List.getElem?_replicate]
  split <;> simp
theorem outN_bytes {E : List Int → List Int} {n : Nat} {back : Bool} (hE : ∀ x, Bytes (E x)) : ∀ (l : List Int) (s : List Int × Nat), Bytes l → Bytes s.1 → Bytes (outN E n back s l) := by
  intro l
  induction l with
  | nil => intro s _ _; exact nil_bytes
  | cons b l ih =>
    intro s hl hs
    have hb : 0 ≤ b ∧ b ≤ 255 := hl 0
    have hl' : Bytes l := fun i => by have := hl (i + 1); simpa using this
    have hf : Bytes (fre E n s) := by unfold fre; split; exact hE _; exact hs
    have ho : 0 ≤ out1 E n s b ∧ out1 E n s b ≤ 255 := by
      have := hf (usd n s)
      exact xr_range this.1 this.2 hb.1 hb.2
    intro i
    cases i with
    | zero => exact ho
    | succ i =>
      have := ih (st1 E n back s b) hl' (by unfold st1; cases back; exact bytes_set hf _ ho.1 ho.2; exact bytes_set hf _ hb.1 hb.2) i
      simpa [outN] using this
theorem told_k (A0 : Option Addr) (c0 : Nat) (l0 : List Int) (w : World) {n0 : Nat} (h0 : n0 = l0.length) (hr0 : C8 w A0 l0) (hc0 : n0 ≤ c0) (h : 2 ≤ l0.length) (h2 : l0.length ≤ 100000) :
    Calls Try.prog 45 #[.slice A0 n0 c0] w fun e w' => ∃ v, e = .returned v ∧ R8 5 w' w.heap.size v (told l0) ∧ Below w.heap.size w w' := by
  subst h0
  exact (spec_twiceTold.calls A0 c0 l0 _ w hr0 hc0 (told_f l0 h h2)).mono (fun e w' h => h)
/-- What follows the first bytes: begun anew from them but two, or just on. -/
def after (E : List Int → List Int) (n : Nat) (back resync : Bool) (first text plain : List Int) : List Int :=
  if resync then outN E n back (first.drop 2, n) plain else (outN E n back (List.replicate n 0, n) (text ++ plain)).drop (n + 2)

set_option maxHeartbeats 3200000 in
set_option maxRecDepth 100000 in
theorem ocfb_calls (Ap : Option Addr) (cp : Nat) (perm : List Int) (As : Option Addr) (cs : Nat) (sub : List Int) (Am : Option Addr) (cm : Nat) (mask : List Int) (Ar : Option Addr) (cr : Nat) (R : List Int) (At : Option Addr) (ct : Nat) (T : List Int) (resync : Bool) (w : World)
    (hp : C8 w Ap perm) (hs : C8 w As sub) (hm : C8 w Am mask) (hr : Right perm sub mask) (h2 : 2 ≤ mask.length) (hR : C8 w Ar R) (hRB : Bytes R) (hRl : R.length = mask.length) (hRc : R.length ≤ cr) (hT : C8 w At T) (hTB : Bytes T) (hTc : T.length ≤ ct) (hTl : T.length ≤ 1000000) {nr nt : Nat} (hnr : nr = R.length) (hnt : nt = T.length) :
    Calls Try.prog 23 #[.iface 79 (.agg #[.slice Ap perm.length cp, .slice As sub.length cs, .slice Am mask.length cm]), .slice Ar nr cr, .bool resync, .slice At nt ct] w fun e w' => ∃ A1 c1 A2 n2 c2, e = .returned (.tuple #[.slice A1 (mask.length + 2) c1, .slice A2 n2 c2]) ∧
      C8 w' A1 (outN (enc perm sub mask) mask.length false (List.replicate mask.length 0, mask.length) (told R)) ∧ mask.length + 2 ≤ c1 ∧
      (∀ first, first = outN (enc perm sub mask) mask.length false (List.replicate mask.length 0, mask.length) (told R) → n2 = (after (enc perm sub mask) mask.length false resync first (told R) T).length ∧ C8 w' A2 (after (enc perm sub mask) mask.length false resync first (told R) T)) ∧ n2 ≤ c2 ∧ Below w.heap.size w w' := by
  subst hnr
  subst hnt
  have HP := Aside0.mk hp
  have HS := Aside0.mk hs
  have HM := Aside0.mk hm
  have HR := Aside0.mk hr
  have HX := Aside0.mk hR
  have HT := Aside0.mk hT
  have HB := Aside0.mk (And.intro hRB hTB)
  have HL := Aside0.mk hRl
  have HC := Aside0.mk (And.intro hRc hTc)
  have m1 := hr.m1
  have m2 := hr.m2
  have hmk := made_run (P := Try.prog) 22 5 mask.length Try.underlying22 infoB (by omega)
  rw [hRl]
  clear hp hs hm hr hR hT hRB hTB hRl hRc hTc
  go_enter Try.func23, Try.ntmps23
  go_wp2_with (go_at_call 110; (with_reducible refine (dsize_calls Ap perm.length cp As sub.length cs Am mask.length cm).mono ?_); rintro e w1 ⟨rfl, hBs⟩)
  go_region_held3 (fun w' => Below w.heap.size w w') (first | assumption | (exact below_drew hBs) | (exact (below_drew hBs).alloc (below_size (below_drew hBs)) _) | (exact hB0.alloc (below_size hB0) _)) (first | (go_at_call 45; (with_reducible refine (told_k Ar cr R _ HL.out.symm (Kd.C_below HX.out ?hbt) (by have := HC.out.1; have := HL.out; omega) (by rw [HL.out]; exact h2) (by rw [HL.out]; omega)).mono ?_); (case hbt => first | (exact below_drew hBs) | (exact (below_drew hBs).alloc (below_size (below_drew hBs)) _)); rintro e w2 ⟨v17, rfl, hR, hB17⟩; obtain ⟨A17, c17, e17, hc17, hr17⟩ := r8_reads hR; subst e17; rw [told_length (by rw [HL.out]; exact h2), HL.out] at hc17 ⊢; have R17 := Aside0.mk hr17; have C17 := Aside0.mk hc17; clear hR hr17; have hB0 : Below w.heap.size w w2 := (by first | (exact below_then (below_drew hBs) (below_size (below_drew hBs)) hB17) | (exact below_then ((below_drew hBs).alloc (below_size (below_drew hBs)) _) (below_size ((below_drew hBs).alloc (below_size (below_drew hBs)) _)) hB17))) | (go_at_call 44; (with_reducible refine (cfb_calls Ap cp perm As cs sub Am cm mask _ _ (List.replicate mask.length 0) A17 c17 (told R) false _ (Kd.C_below HP.out ?hb) (Kd.C_below HS.out ?hb) (Kd.C_below HM.out ?hb) HR.out ?hz (zeros_bytes _) List.length_replicate ?hr (told_bytes HB.out.1) (by rw [told_length (by rw [HL.out]; exact h2), HL.out]; exact C17.out) (by rw [told_length (by rw [HL.out]; exact h2), HL.out]; omega) List.length_replicate.symm (by rw [told_length (by rw [HL.out]; exact h2), HL.out])).mono ?_); (case hb => first | assumption | (exact hB0) | (exact hB0.alloc (below_size hB0) _)); (case hz => first | (exact (Kd.R_reads' (made8 5 mask.length (by omega) _)).2.2) | (exact Kd.C_below (Kd.R_reads' (Kd.R_drew (made8 5 mask.length (by omega) _))).2.2 hB17)); (case hr => first | (exact R17.out) | (exact Kd.C_alloc R17.out _)); rintro e w3 ⟨v18, rfl, hR, hB18⟩; obtain ⟨A18, c18, e18, hc18, hr18⟩ := r8_reads hR; subst e18; rw [outN_length, told_length (by rw [HL.out]; exact h2), HL.out] at hc18 ⊢; have R18 := Aside0.mk hr18; have C18 := Aside0.mk hc18; clear hR hr18; have hB1 : Below w.heap.size w w3 := (by first | (exact below_then hB0 (below_size hB0) hB18) | (exact below_then (hB0.alloc (below_size hB0) _) (below_size (hB0.alloc (below_size hB0) _)) hB18))))
  all_goals
    obtain ⟨F, eF⟩ : ∃ F, outN (enc perm sub mask) mask.length false (List.replicate mask.length 0, mask.length) (told R) = F := ⟨_, rfl⟩
    rw [eF] at R18
    have EF := Aside0.mk eF
    have FL := Aside0.mk (show F.length = mask.length + 2 by rw [← eF, outN_length, told_length (by rw [HL.out]; exact h2), HL.out])
    have FB := Aside0.mk (show Bytes F by rw [← eF]; exact outN_bytes (fun x => enc_bytes HR.out) _ _ (told_bytes HB.out.1) (zeros_bytes _))
    have BW := Aside0.mk hB1
    clear R17 C17 eF hB1
    cases resync
    · have hadd : IntKind.i64.wrap ((mask.length : Int) + 2) = (mask.length : Int) + 2 := IntWalk.i64_in _ (by omega)
      have hB3 := BW.out
      clear hB0 hB17 hB18 hBs
      go_wp2_with fail
      go_region_held3 (fun w' => Below w3.heap.size w3 w') (first | assumption | (exact below_drew (Below.refl _ _)) | (exact (below_drew (Below.refl _ _)).alloc (Nat.le_refl _) _) | (exact hB0.alloc (below_size hB0) _) | (exact hB6.alloc (below_size hB6) _)) (first | (go_at_call 45; (with_reducible refine (told_k Ar cr R _ HL.out.symm (Kd.C_below HX.out ?hbt) (by have := HC.out.1; have := HL.out; omega) (by rw [HL.out]; exact h2) (by rw [HL.out]; omega)).mono ?_); (case hbt => first | (exact below_drew hB3) | (exact (below_drew hB3).alloc (below_size (below_drew hB3)) _)); rintro e w5 ⟨v17, rfl, hR31, hB31⟩; obtain ⟨A17, c17, e17, hc17, _⟩ := r8_reads hR31; subst e17; rw [told_length (by rw [HL.out]; exact h2), HL.out] at hR31 hc17 ⊢; have hB0 : Below w3.heap.size w3 w5 := (by first | (exact below_then (below_drew (Below.refl _ _)) (Nat.le_refl _) hB31) | (exact below_then ((below_drew (Below.refl _ _)).alloc (Nat.le_refl _) _) (by simp) hB31))) | (refine appendS w3.heap.size rfl (.tmp 31) (.tmp 32) 22 5 rfl Try.underlying22 infoB (.slice A17 (mask.length + 2) c17) (told R) T At ct rfl rfl rfl ?_ ?_ ?_ ?_ ?_; (focus (first | (exact Kd.R_lower hR31 (by first | (exact Nat.le_refl _) | (simp; done) | (simp; omega))) | (exact Kd.R_lower (Kd.R_below hR31 (below_alloc (Below.refl _ _) _)) (by first | (exact Nat.le_refl _) | (simp; done) | (simp; omega))))); (focus (first | (exact Kd.C_below HT.out (below_then BW.out (below_size BW.out) hB0)) | (exact Kd.C_below HT.out ((below_then BW.out (below_size BW.out) hB0).alloc (below_size (below_then BW.out (below_size BW.out) hB0)) _)))); (focus (first | (exact below_size hB0) | (exact below_size (hB0.alloc (below_size hB0) _)))); (focus (rw [told_length (by rw [HL.out]; exact h2), HL.out]; omega)); intro v33 w6 hR33 hBa hG hAt; obtain ⟨A33, c33, e33, hc33, hr33⟩ := r8_reads hR33; subst e33; rw [List.length_append, told_length (by rw [HL.out]; exact h2), HL.out] at hc33 ⊢; have R33 := Aside0.mk hr33; have hB6 : Below w3.heap.size w3 w6 := (by first | (exact hB0.trans hBa) | (exact (hB0.alloc (below_size hB0) _).trans hBa))) | (go_at_call 44; (with_reducible refine (cfb_calls Ap cp perm As cs sub Am cm mask _ _ (List.replicate mask.length 0) A33 c33 (told R ++ T) false _ (Kd.C_below HP.out ?hb) (Kd.C_below HS.out ?hb) (Kd.C_below HM.out ?hb) HR.out ?hz (zeros_bytes _) List.length_replicate ?hr (bytes_app (told_bytes HB.out.1) HB.out.2) (by rw [List.length_append, told_length (by rw [HL.out]; exact h2), HL.out]; exact hc33) (by rw [List.length_append, told_length (by rw [HL.out]; exact h2), HL.out]; omega) List.length_replicate.symm (by rw [List.length_append, told_length (by rw [HL.out]; exact h2), HL.out])).mono ?_); (case hb => first | (exact (below_then BW.out (below_size BW.out) hB6)) | (exact (below_then BW.out (below_size BW.out) hB6).alloc (below_size (below_then BW.out (below_size BW.out) hB6)) _)); (case hz => first | (exact (Kd.R_reads' (made8 5 mask.length (by omega) _)).2.2) | (exact Tch.c8 (Tch.of_grown hG) (Kd.C_below (Kd.R_reads' (Kd.R_drew (made8 5 mask.length (by omega) _))).2.2 hB31) (fun ad e hp hk => by injection e with e; subst e; have q1 := Kd.R_base hR31 _ hk; have q2 := Kd.R_lt hR31 _ hk; first | omega | (simp at q1; done) | (simp at q1; omega) | (simp at q1 q2; done) | (simp at q1 q2; omega))) | (exact Tch.c8 (Tch.of_grown hG) (Kd.R_reads' (made8 5 mask.length (by omega) _)).2.2 (fun ad e hp hk => by injection e with e; subst e; have q1 := Kd.R_base hR31 _ hk; have q2 := Kd.R_lt hR31 _ hk; first | omega | (simp at q1; done) | (simp at q1; omega) | (simp at q1 q2; done) | (simp at q1 q2; omega)))); (case hr => first | (exact R33.out) | (exact Kd.C_alloc R33.out _)); rintro e w7 ⟨v34, rfl, hR, hB34⟩; obtain ⟨A34, c34, e34, hc34, hr34⟩ := r8_reads hR; subst e34; rw [outN_length, List.length_append, told_length (by rw [HL.out]; exact h2), HL.out] at hc34 ⊢; obtain ⟨Ax, x1, x2, x3⟩ := drop8 (P := Try.prog) (t := 22) (e := 5) Try.underlying22 infoB A34 c34 (outN (enc perm sub mask) mask.length false (List.replicate mask.length 0, mask.length) (told R ++ T)) (mask.length + 2) (by rw [outN_length, List.length_append, told_length (by rw [HL.out]; exact h2), HL.out]; omega) (by rw [outN_length, List.length_append, told_length (by rw [HL.out]; exact h2), HL.out]; exact hc34) (n := mask.length + 2 + T.length) (by rw [outN_length, List.length_append, told_length (by rw [HL.out]; exact h2), HL.out]); have X2 := Aside0.mk (x2 _ hr34); have y1 : ∀ W : World, (Instr.slice 22 (.slice A34 (mask.length + 2 + T.length) c34) (some (.int .i64 ((mask.length : Int) + 2))) none none).run Try.prog W = .ok (.slice Ax (mask.length + 2 + T.length - (mask.length + 2)) (c34 - (mask.length + 2))) W := x1; clear hr34 hR x1 x2 x3; have hB7 : Below w3.heap.size w3 w7 := (by first | (exact below_then hB6 (below_size hB6) hB34) | (exact below_then (hB6.alloc (below_size hB6) _) (below_size (hB6.alloc (below_size hB6) _)) hB34))))
      all_goals
        go_wp2_with fail
        go_ret2
        exact ⟨_, _, _, _, _, rfl, by rw [EF.out]; exact Kd.C_below R18.out hB7, C18.out, fun first e => ⟨by show _ = ((outN _ _ _ _ _).drop _).length; rw [List.length_drop, outN_length, List.length_append, told_length (by rw [HL.out]; exact h2), HL.out]; omega, X2.out⟩, by omega, below_then BW.out (below_size BW.out) hB7⟩
    · obtain ⟨Ad, d1, d2, d3⟩ := drop8 (P := Try.prog) (t := 22) (e := 5) Try.underlying22 infoB A18 c18 F 2 (by rw [FL.out]; omega) (by rw [FL.out]; exact C18.out) FL.out.symm
      have D2 := Aside0.mk d2
      have e1 : mask.length + 2 - 2 = mask.length := by omega
      rw [e1] at d1
      have d1' : ∀ W : World, (Instr.slice 22 (.slice A18 (mask.length + 2) c18) (some (.int .i64 2)) none none).run Try.prog W = .ok (.slice Ad mask.length (c18 - 2)) W := d1
      clear d2 d3 e1 d1
      go_wp2_with fail
      (with_reducible refine (cfb_calls Ap cp perm As cs sub Am cm mask Ad (c18 - 2) (F.drop 2) At ct T false _ (Kd.C_below HP.out BW.out) (Kd.C_below HS.out BW.out) (Kd.C_below HM.out BW.out) HR.out (D2.out _ R18.out) (bytes_drop FB.out 2) (by rw [List.length_drop, FL.out]; omega) (Kd.C_below HT.out BW.out) HB.out.2 HC.out.2 (by omega) (by rw [List.length_drop, FL.out]; omega) rfl).mono ?_)
      rintro e w4 ⟨v25, rfl, hR, hB25⟩
      obtain ⟨A25, c25, e25, hc25, hr25⟩ := r8_reads hR
      subst e25
      have R25 := Aside0.mk hr25
      have C25 := Aside0.mk hc25
      have B25 := Aside0.mk hB25
      clear hR hr25 hB25
      go_wp2
      go_ret2
      exact ⟨_, _, _, _, _, rfl, by rw [EF.out]; exact Kd.C_below R18.out B25.out, C18.out, fun first e => by rw [EF.out] at e; subst e; exact ⟨rfl, R25.out⟩, C25.out, below_then BW.out (below_size BW.out) B25.out⟩
end Go.Proofs.Ytkehjcppgpoobaa.Ocf

/- The first bytes of the feedback mode, and the register behind them, in plain lists. -/
set_option linter.unusedVariables false
set_option linter.unusedSimpArgs false
namespace Go.Proofs.Ytkehjcppgpoobaa.Ocf
open Go.RowKit Go.Proofs.YtkehjcppgpoobaaW.PrintWords Go.Proofs.YtkehjcppgpoobaaW.PrintMore Go.Proofs.Ytkehjcppgpoobaa.Kit Go.Proofs.Ytkehjcppgpoobaa.Mix Go.Proofs.Ytkehjcppgpoobaa.Blk Go.Proofs.Ytkehjcppgpoobaa.PFnOcfb

/-- X, its first k bytes those of l, exclusive-ored with f. -/
def part (f l X : List Int) (k : Nat) : List Int := segO f 0 (l.take k) ++ X.drop k
theorem part_zero (f l X : List Int) : part f l X 0 = X := by simp [part, segO]
theorem segO_snoc (f : List Int) (l : List Int) (b : Int) : ∀ u, segO f u (l ++ [b]) = segO f u l ++ [xr (f.getD (u + l.length) 0) b] := by
  induction l with
  | nil => intro u; rfl
  | cons c l ih =>
    intro u
    rw [List.cons_append, segO, ih, segO, List.length_cons, show u + (l.length + 1) = u + 1 + l.length by omega]
    rfl
theorem part_length (f l X : List Int) (k : Nat) (h : k ≤ l.length) (hX : k ≤ X.length) : (part f l X k).length = X.length := by
  rw [part, List.length_append, segO_length, List.length_take, List.length_drop]; omega
theorem part_step (f l X : List Int) (k : Nat) (h : k < l.length) (hX : k < X.length) : (part f l X k).set k (xr (f.getD k 0) (l.getD k 0)) = part f l X (k + 1) := by
  have hl : (segO f 0 (l.take k)).length = k := by rw [segO_length, List.length_take]; omega
  rw [part, part, List.set_append_right _ _ (by omega), hl, Nat.sub_self, List.drop_eq_getElem_cons hX, List.set_cons_zero, List.take_succ_eq_append_getElem h, segO_snoc, List.append_assoc, List.length_take, Nat.zero_add, Nat.min_eq_left (by omega), List.getD_eq_getElem?_getD (l := l), List.getElem?_eq_getElem h]
  rfl
theorem part_getD (f l X : List Int) (k : Nat) (h : k ≤ l.length) : (part f l X k).getD k 0 = X.getD k 0 := by
  have hl : (segO f 0 (l.take k)).length = k := by rw [segO_length, List.length_take]; omega
  rw [part, List.getD_eq_getElem?_getD, List.getElem?_append_right (by omega), hl, Nat.sub_self, List.getElem?_drop, Nat.add_zero, ← List.getD_eq_getElem?_getD]
section
variable {E : List Int → List Int} {n : Nat} {back : Bool}
theorem keepsB (f : List Int) (hf : Bytes f) (l : List Int) (hl : Bytes l) : Bytes (keeps back f 0 l) := by
  unfold keeps; cases back
  · exact segO_bytes hf hl 0
  · exact hl
/-- Two blocks' worth: n bytes, and two. -/
theorem first_two (z t : List Int) (h2 : 2 ≤ n) (hE : ∀ x, (E x).length = n) (ht : t.length = n + 2) :
    outN E n back (z, n) t = segO (E z) 0 (t.take n) ++ segO (E (keeps back (E z) 0 (t.take n))) 0 (t.drop n) := by
  have h1 := block E n back z t (by omega) (hE z) (k := n) (by omega)
  have hd : (t.drop n).length = 2 := by rw [List.length_drop]; omega
  have h3 := block E n back (keeps back (E z) 0 (t.take n)) (t.drop n) (by omega) (hE _) (k := 2) (by omega)
  rw [h1, h3, List.take_of_length_le (show (t.drop n).length ≤ 2 by omega), List.drop_of_length_le (show (t.drop n).length ≤ 2 by omega)]
  simp [outN]
theorem first_two_st (z t : List Int) (h2 : 2 ≤ n) (hE : ∀ x, (E x).length = n) (ht : t.length = n + 2) :
    stN E n back (z, n) t = (keeps back (E (keeps back (E z) 0 (t.take n))) 0 (t.drop n) ++ (E (keeps back (E z) 0 (t.take n))).drop 2, 2) := by
  have hl : (t.take n).length = n := by rw [List.length_take]; omega
  have hd : (t.drop n).length = 2 := by rw [List.length_drop]; omega
  have e1 : t ≠ [] := by intro e; rw [e] at ht; simp at ht
  have e2 : t.drop n ≠ [] := by intro e; rw [e] at hd; simp at hd
  have s1 := (seg E n back (t.take n) (E z) 0 (hE z) (by omega)).2
  have s2 := (seg E n back (t.drop n) (E (keeps back (E z) 0 (t.take n))) 0 (hE _) (by omega)).2
  rw [stN_full E n back z t (by omega) e1]
  conv => lhs; rw [← List.take_append_drop n t]
  rw [stN_append, s1, hl, Nat.zero_add, List.take_zero, List.nil_append, List.drop_of_length_le (by rw [hE z]; exact Nat.le_refl _), List.append_nil, stN_full E n back _ _ (by omega) e2, s2, hd]
  rfl
theorem set_two (f : List Int) (a b : Int) (h : 2 ≤ f.length) : (f.set 0 a).set 1 b = [a, b] ++ f.drop 2 := by
  match f, h with
  | x :: y :: f, _ => rfl
theorem two_of (l : List Int) (h : l.length = 2) : l = [l.getD 0 0, l.getD 1 0] := by
  match l, h with
  | [a, b], _ => rfl
end
section
variable {E : List Int → List Int} {n : Nat} {back : Bool}
/-- The first bytes t0, a, b; the register behind them. -/
theorem firsts {z t0 E1 : List Int} {a b : Int} (h2 : 2 ≤ n) (hE : ∀ x, (E x).length = n) (h0 : t0.length = n) (e1 : E (keeps back (E z) 0 t0) = E1) :
    outN E n back (z, n) (t0 ++ [a, b]) = segO (E z) 0 t0 ++ [xr (E1.getD 0 0) a, xr (E1.getD 1 0) b] ∧
    stN E n back (z, n) (t0 ++ [a, b]) = ((E1.set 0 (if back then a else xr (E1.getD 0 0) a)).set 1 (if back then b else xr (E1.getD 1 0) b), 2) := by
  have hl : (t0 ++ [a, b]).length = n + 2 := by simp [h0]
  have g1 := first_two (back := back) z (t0 ++ [a, b]) h2 hE hl
  have g2 := first_two_st (back := back) z (t0 ++ [a, b]) h2 hE hl
  have k1 : (t0 ++ [a, b]).take n = t0 := by rw [← h0]; simp
  have k2 : (t0 ++ [a, b]).drop n = [a, b] := by rw [← h0]; simp
  rw [k1, k2, e1] at g1 g2
  have hE1 : E1.length = n := by rw [← e1]; exact hE _
  refine ⟨g1, ?_⟩
  rw [g2, set_two _ _ _ (by omega)]
  cases back <;> rfl
end
theorem told_two (R : List Int) (h : 2 ≤ R.length) : told R = R ++ [R.getD (R.length - 2) 0, R.getD (R.length - 1) 0] := by
  have hd : (R.drop (R.length - 2)).length = 2 := by rw [List.length_drop]; omega
  rw [told, two_of _ hd]
  simp only [List.getD_eq_getElem?_getD, List.getElem?_drop]
  rw [show R.length - 2 + 0 = R.length - 2 by omega, show R.length - 2 + 1 = R.length - 1 by omega]
theorem set_end (K X : List Int) (n : Nat) (a b : Int) (hK : K.length = n) (hX : X.length = 2) : ((K ++ X).set n a).set (n + 1) b = K ++ [a, b] := by
  match X, hX with
  | [x, y], _ =>
    subst hK
    simp
/-- The register behind the first bytes t. -/
def begun (E : List Int → List Int) (n : Nat) (back resync : Bool) (first t : List Int) : List Int × Nat :=
  if resync then (E (first.drop 2), 0) else stN E n back (List.replicate n 0, n) t
/-- What follows, by the package's register, is what the specification says. -/
theorem begun_after {E : List Int → List Int} {n : Nat} {back resync : Bool} {first t plain : List Int} (hn : 0 < n) (ht : t.length = n + 2) :
    outN E n back (begun E n back resync first t) plain = after E n back resync first t plain := by
  unfold begun after
  cases resync
  · rw [if_neg (by decide), if_neg (by decide), outN_append, List.drop_append_of_le_length (by rw [outN_length, ht]; exact Nat.le_refl _), List.drop_of_length_le (by rw [outN_length, ht]; exact Nat.le_refl _), List.nil_append]
  · rw [if_pos rfl, if_pos rfl, outN_full E n back _ _ hn]
end Go.Proofs.Ytkehjcppgpoobaa.Ocf

/- NewOCFBEncrypter, walked. -/
set_option linter.unusedVariables false
set_option linter.unusedSimpArgs false
namespace Go.Proofs.Ytkehjcppgpoobaa.Ocf
open Go.RowKit Go.Proofs.YtkehjcppgpoobaaW.PrintWords Go.Proofs.YtkehjcppgpoobaaW.PrintMore Go.Proofs.Ytkehjcppgpoobaa.Kit Go.Proofs.Ytkehjcppgpoobaa.Mix Go.Proofs.Ytkehjcppgpoobaa.Blk

theorem neu_new {lo hi : Nat} {w w1 : World} {a : Nat} {P S M : Option Addr} {cP cS cM : Nat} {perm sub mask : List Int} (h : Blk lo hi w a P S M cP cS cM perm sub mask) (hB : Below w.heap.size w w1) (T : Nat) :
    ∃ W1, ((w1.alloc (.cells (madeCells #[Value.int IntKind.u8 0] mask.length) 5)).alloc (.cells #[.iface 114 (.pointer (some ⟨a, 0, none⟩)), .slice (some ⟨w1.heap.size, 0, none⟩) mask.length mask.length, .int .i64 0] T)).alloc (.cells (madeCells #[Value.int IntKind.u8 0] (mask.length + 2)) 5) = W1 ∧
      ∃ x f g, w1.heap.size + 1 = x ∧ w1.heap.size = f ∧ w1.heap.size + 1 + 1 = g ∧ Neu w lo hi W1 x f a g (mask.length + 2) (mask.length + 2) P S M cP cS cM perm sub mask (List.replicate mask.length 0) 0 (List.replicate (mask.length + 2) 0) := by
  have hz := below_size hB
  have m2 := h.rt.m2
  have k1 := made8 5 mask.length (by omega) w1
  have k2 := made8 5 (mask.length + 2) (by omega) ((w1.alloc (.cells (madeCells #[Value.int IntKind.u8 0] mask.length) 5)).alloc (.cells #[.iface 114 (.pointer (some ⟨a, 0, none⟩)), .slice (some ⟨w1.heap.size, 0, none⟩) mask.length mask.length, .int .i64 0] T))
  have hb1 := below_alloc (Below.refl w1.heap.size w1) (.cells (madeCells #[Value.int IntKind.u8 0] mask.length) 5)
  have hb2 := below_alloc (Below.refl _ (w1.alloc (.cells (madeCells #[Value.int IntKind.u8 0] mask.length) 5))) (.cells #[.iface 114 (.pointer (some ⟨a, 0, none⟩)), .slice (some ⟨w1.heap.size, 0, none⟩) mask.length mask.length, .int .i64 0] T)
  have hb3 := below_alloc (Below.refl _ ((w1.alloc (.cells (madeCells #[Value.int IntKind.u8 0] mask.length) 5)).alloc (.cells #[.iface 114 (.pointer (some ⟨a, 0, none⟩)), .slice (some ⟨w1.heap.size, 0, none⟩) mask.length mask.length, .int .i64 0] T))) (.cells (madeCells #[Value.int IntKind.u8 0] (mask.length + 2)) 5)
  have hb := below_then (below_then hb1 (below_size hb1) hb2) (below_size (below_then hb1 (below_size hb1) hb2)) hb3
  have hs := h.hs
  have es : ((w1.alloc (.cells (madeCells #[Value.int IntKind.u8 0] mask.length) 5)).alloc (.cells #[.iface 114 (.pointer (some ⟨a, 0, none⟩)), .slice (some ⟨w1.heap.size, 0, none⟩) mask.length mask.length, .int .i64 0] T)).heap.size = w1.heap.size + 1 + 1 := by simp
  rw [es] at k2
  refine ⟨_, rfl, _, _, _, rfl, rfl, rfl, ⟨⟨(h.below hB).below hb, ?_, ?_, ?_, ?_, ?_, ?_, by omega, by omega, by omega, Nat.zero_le _⟩, ?_, zeros_bytes _, by omega, by omega, by omega, hs, by omega, by omega, below_then hB hz hb⟩⟩
  · simp [go_sem]
  · simp [go_sem]
  · simp [go_sem]
  · simp [go_sem]
  · exact Kd.R_lower (Kd.R_below (Kd.R_below k1 hb2) hb3) hz
  · exact zeros_bytes _
  · exact Kd.R_lower k2 (by omega)

set_option pp.deepTerms true in
set_option maxHeartbeats 3200000 in
set_option maxRecDepth 100000 in
theorem newE_calls {lo hi : Nat} {w : World} {a : Nat} {P S M : Option Addr} {cP cS cM : Nat} {perm sub mask : List Int} (h : Blk lo hi w a P S M cP cS cM perm sub mask) (h2 : 2 ≤ mask.length)
    {A : Option Addr} {c n : Nat} {R : List Int} (hR : C8 w A R) (hRB : Bytes R) (hRl : R.length = mask.length) (hn : n = R.length) (resync : Bool) :
    Calls Try.prog 51 #[.iface 114 (.pointer (some ⟨a, 0, none⟩)), .slice A n c, .bool resync] w fun e w' => ∃ x f g, e = .returned (.tuple #[.iface 118 (.pointer (some ⟨x, 0, none⟩)), .slice (some ⟨g, 0, none⟩) (mask.length + 2) (mask.length + 2)]) ∧
      ∀ st F, outN (enc perm sub mask) mask.length false (List.replicate mask.length 0, mask.length) (told R) = F → begun (enc perm sub mask) mask.length false resync F (told R) = st → Neu w lo hi w' x f a g (mask.length + 2) (mask.length + 2) P S M cP cS cM perm sub mask st.1 st.2 F := by
  subst hn
  have m2 := h.rt.m2
  obtain ⟨ad, rfl⟩ : ∃ ad, A = some ad := by
    obtain ⟨ad, e, _⟩ := Kd.at_int hR 0 (by omega) (by omega)
    exact ⟨ad, e⟩
  have hmk := made_run (P := Try.prog) 22 5 mask.length Try.underlying22 infoB (by omega)
  have hmk2 : ∀ W : World, (Instr.makeSlice 22 (.int .i64 ((mask.length : Int) + 2)) (.int .i64 ((mask.length : Int) + 2))).run Try.prog W = .ok (.slice (some ⟨W.heap.size, 0, none⟩) (mask.length + 2) (mask.length + 2)) (W.alloc (.cells (madeCells (Value.int IntKind.u8 0).cells (mask.length + 2)) 5)) := made_run (P := Try.prog) 22 5 (mask.length + 2) Try.underlying22 infoB (by omega)
  have HR := Aside0.mk hR
  have HB := Aside0.mk hRB
  have HL := Aside0.mk hRl
  have HH := Aside0.mk h
  rw [hRl]
  clear h hR hRB hRl
  go_enter Try.func51, Try.ntmps51
  go_wp2_with (go_at_call 112; (with_reducible refine (size_calls HH.out).mono ?_); rintro e w1 ⟨rfl, hB⟩)
  obtain ⟨W1, eW, x, f, g, ex, ef, eg, hN⟩ := neu_new HH.out hB 119
  have N1 := Aside0.mk hN
  rw [eW, eg, ex, ef]
  clear eW ex ef eg hN hB hmk hmk2 HH
  have c1 := N1.out.st.c1
  have ni := nil_encI a
  go_still_tail 12, (by kernel_rfl)
  change wpList _ _ _ _ _ W1.drew
  have N1d := Aside0.mk N1.out.drew
  clear c1 ni N1
  generalize W1.drew = W1d at N1d ⊢
  go_wp2_with (go_at_call 114; (with_reducible refine (encrypt_calls (x := List.replicate mask.length 0) N1d.out.st.blk (Kd.R_reads' N1d.out.st.rf).2.2 (by rw [List.length_replicate]; exact Nat.le_refl _) (zeros_bytes _) N1d.out.st.rf (Nat.le_of_eq (Nat.zero_add _)) (Nat.le_refl _) (Nat.le_refl _) ?hbs List.length_replicate.symm).mono ?_); (case hbs => exact Nat.le_trans (Kd.R_base N1d.out.st.rf f rfl) (Nat.le_of_lt (Kd.R_lt N1d.out.st.rf f rfl))); rintro e W2 ⟨rfl, hR, hT⟩; have N2 := Aside0.mk (N1d.out.encd hT hR); clear N1d hR hT)
  obtain ⟨Z, eZ⟩ : ∃ Z, enc perm sub mask (List.replicate mask.length 0) = Z := ⟨_, rfl⟩
  rw [eZ] at N2
  have ZE := Aside0.mk eZ
  clear eZ
  go_loopw [11] (fun i wr => ∃ k : Nat, k ≤ mask.length ∧ i = .int .i64 (k : Int) ∧ Aside0 (Neu w lo hi wr x f a g (mask.length + 2) (mask.length + 2) P S M cP cS cM perm sub mask Z 0 (part Z R (List.replicate (mask.length + 2) 0) k))) (fun i _ => mask.length - (intOf i).toNat)
  case atStart => exact ⟨0, Nat.zero_le _, rfl, ⟨by rw [part_zero]; exact N2.out⟩⟩
  case round =>
    clear N2
    obtain ⟨k, hk, rfl, NR⟩ := hrel
    by_cases hlt : k < mask.length
    · have c1 := NR.out.st.c1
      have zl := NR.out.st.len
      obtain ⟨fy, fz⟩ := Kd.R_celln (0 : Int) (h1 := fun _ => rfl) (enc := Value.int .u8) NR.out.st.rf (k : Int) (by omega) (by omega)
      have rs : rdOf 0 Z (k : Int) = Z.getD k 0 := by unfold rdOf; rw [Int.toNat_natCast]
      rw [Int.toNat_natCast, rs] at fy
      clear fz rs
      obtain ⟨gy, gz⟩ := Kd.R_celln (0 : Int) (h1 := fun _ => rfl) (enc := Value.int .u8) NR.out.pr (k : Int) (by omega) (by omega)
      rw [Int.toNat_natCast] at gy gz
      have rl := HL.out
      obtain ⟨ad', ea, hx⟩ := Kd.at_int (Kd.C_below HR.out NR.out.bl) (k : Int) (by omega) (by omega)
      injection ea with ea
      subst ea
      rw [Int.toNat_natCast, rdn] at hx
      have hb := HB.out k
      have hq := NR.out.st.bF k
      obtain ⟨b, eb⟩ : ∃ b, R.getD k 0 = b := ⟨_, rfl⟩
      obtain ⟨q, eq⟩ : ∃ q, Z.getD k 0 = q := ⟨_, rfl⟩
      rw [eb] at hx hb
      rw [eq] at fy hq
      have EB := Aside0.mk (And.intro eb eq)
      have BB := Aside0.mk (And.intro hb hq)
      have kI : (k : Int) < (mask.length : Int) := by omega
      have kJ : (k : Int) < (mask.length : Int) + 2 := by omega
      clear eb eq hb hq rl zl
      go_wp2_with fail
      go_still_tail 15, (by kernel_rfl)
      change wpList _ _ _ _ _ wr.drew
      go_wp2_with fail
      have vv := xr_range BB.out.1.1 BB.out.1.2 BB.out.2.1 BB.out.2.2
      have n1 := NR.out.drew.lay k vv.1 vv.2
      have e1 : (part Z R (List.replicate (mask.length + 2) 0) k).set k (xr b q) = part Z R (List.replicate (mask.length + 2) 0) (k + 1) := by
        have := part_step Z R (List.replicate (mask.length + 2) 0) k (by have := HL.out; omega) (by rw [List.length_replicate]; omega)
        rw [EB.out.1, EB.out.2, xr_comm BB.out.2 BB.out.1] at this
        exact this
      rw [e1] at n1
      go_roundw
      case rel => exact ⟨k + 1, hlt, by go_num, ⟨n1⟩⟩
      case measure => simp [intOf]; omega
    · obtain rfl : k = mask.length := by omega
      go_wp2_with fail
      obtain ⟨K0, eK⟩ : ∃ K0, segO Z 0 R = K0 := ⟨_, rfl⟩
      have kB : Bytes K0 := by rw [← eK]; exact segO_bytes NR.out.st.bF HB.out 0
      have kl : K0.length = mask.length := by rw [← eK, segO_length]; exact HL.out
      have eP : part Z R (List.replicate (mask.length + 2) 0) mask.length = K0 ++ [0, 0] := by
        rw [part, List.take_of_length_le (by rw [HL.out]; exact Nat.le_refl _), eK, List.drop_replicate, show mask.length + 2 - mask.length = 2 by omega]; rfl
      rw [eP] at NR
      have KK := Aside0.mk (And.intro eK (And.intro kB kl))
      obtain ⟨t1, t2⟩ := take8 (P := Try.prog) (t := 22) (e := 5) Try.underlying22 infoB (some ⟨g, 0, none⟩) (mask.length + 2) (K0 ++ [0, 0]) mask.length (by rw [List.length_append, kl]; omega) (by rw [List.length_append, kl]; exact Nat.le_refl _) (n := mask.length + 2) (by rw [List.length_append, kl]; rfl)
      have T2 := Aside0.mk t2
      have et : (K0 ++ [0, 0]).take mask.length = K0 := by rw [← kl]; simp
      rw [et] at T2
      clear eK kB eP kl et t2
      have c1 := NR.out.st.c1
      have ni := nil_encI a
      go_still_tail 11, (by kernel_rfl)
      change wpList _ _ _ _ _ wr.drew
      have NRd := Aside0.mk NR.out.drew
      clear c1 ni NR
      generalize wr.drew = wrd at NRd ⊢
      go_wp2_with (go_at_call 114; (with_reducible refine (encrypt_calls (x := K0) NRd.out.st.blk (T2.out _ NRd.out.len.2.2) (by rw [KK.out.2.2]; exact Nat.le_refl _) KK.out.2.1 NRd.out.st.rf (Nat.le_of_eq (Nat.zero_add _)) (Nat.le_refl _) (Nat.le_refl _) ?hbs KK.out.2.2.symm).mono ?_); (case hbs => exact Nat.le_trans (Kd.R_base NRd.out.st.rf f rfl) (Nat.le_of_lt (Kd.R_lt NRd.out.st.rf f rfl))); rintro e W3 ⟨rfl, hR, hT⟩; have N3 := Aside0.mk (NRd.out.encd hT hR); clear NRd hR hT)
      obtain ⟨E1, eE⟩ : ∃ E1, enc perm sub mask K0 = E1 := ⟨_, rfl⟩
      rw [eE] at N3
      have EE := Aside0.mk eE
      clear eE t1
      have c1 := N3.out.st.c1
      have e1l : E1.length = mask.length := N3.out.st.len
      have fy : W3.cell? ⟨f, 0, none⟩ = some (.int .u8 (E1.getD 0 0)) := (Kd.R_celln (0 : Int) (h1 := fun _ => rfl) (enc := Value.int .u8) N3.out.st.rf (0 : Int) (by omega) (by omega)).1
      obtain ⟨gy, gz⟩ := Kd.R_celln (0 : Int) (h1 := fun _ => rfl) (enc := Value.int .u8) N3.out.pr ((mask.length : Int)) (by omega) (by omega)
      have rl := HL.out
      obtain ⟨ad', ea, hx⟩ := Kd.at_int (Kd.C_below HR.out N3.out.bl) ((mask.length : Int) - 2) (by omega) (by omega)
      injection ea with ea
      subst ea
      have to1 : ((mask.length : Int) - 2).toNat = mask.length - 2 := by omega
      have to2 : ((mask.length : Int)).toNat = mask.length := by omega
      rw [to1] at hx
      rw [to2] at gy gz
      have rt : rd R ((mask.length : Int) - 2) = R.getD (mask.length - 2) 0 := by unfold rd; rw [to1]
      rw [rt] at hx
      have hb := HB.out (mask.length - 2)
      have hq := N3.out.st.bF 0
      obtain ⟨b0, eb⟩ : ∃ b, R.getD (mask.length - 2) 0 = b := ⟨_, rfl⟩
      obtain ⟨q0, eq⟩ : ∃ q, E1.getD 0 0 = q := ⟨_, rfl⟩
      rw [eb] at hx hb
      rw [eq] at fy hq
      have EB0 := Aside0.mk (And.intro eb eq)
      have BB0 := Aside0.mk (And.intro hq hb)
      have hw : IntKind.i64.wrap ((mask.length : Int) - 2) = (mask.length : Int) - 2 := IntWalk.i64_in _ (by omega)
      have hv : IntKind.i64.wrap ((mask.length : Int) + 1) = (mask.length : Int) + 1 := IntWalk.i64_in _ (by omega)
      have p0 : 0 < mask.length := by omega
      have p0' : (0 : Int) < (mask.length : Int) := by omega
      have p0a : 0 ≤ (mask.length : Int) - 2 := by omega
      have p0f : 2 ≤ (mask.length : Int) := by omega
      have p0g : 2 ≤ mask.length := by omega
      have p0b : (mask.length : Int) - 2 < (mask.length : Int) := by omega
      have p0c : mask.length < mask.length + 2 := by omega
      have p0d : (mask.length : Int) < (mask.length : Int) + 2 := by omega
      have p0e : 0 ≤ (mask.length : Int) := by omega
      clear eb eq hb hq rl rt e1l
      go_wp2_with fail
      go_still_tail 15, (by kernel_rfl)
      change wpList _ _ _ _ _ W3.drew
      go_wp2_with fail
      change Code.wp _ _ _ _ (W3.setCell ⟨g, mask.length, none⟩ (.int .u8 (xr q0 b0))).drew
      have N4 := Aside0.mk (N3.out.lay (mask.length) (xr_range BB0.out.1.1 BB0.out.1.2 BB0.out.2.1 BB0.out.2.2).1 (xr_range BB0.out.1.1 BB0.out.1.2 BB0.out.2.1 BB0.out.2.2).2).drew
      clear c1 fy gy gz hx hw hv p0 p0' p0a p0b p0c p0d p0e p0f p0g to1 to2 N3
      generalize (W3.setCell ⟨g, mask.length, none⟩ (.int .u8 (xr q0 b0))).drew = W4 at N4 ⊢
      cases resync
      · have c1 := N4.out.st.c1
        have e1l : E1.length = mask.length := N4.out.st.len
        have fy : W4.cell? ⟨f, 1, none⟩ = some (.int .u8 (E1.getD 1 0)) := (Kd.R_celln (0 : Int) (h1 := fun _ => rfl) (enc := Value.int .u8) N4.out.st.rf (1 : Int) (by omega) (by omega)).1
        obtain ⟨gy, gz⟩ := Kd.R_celln (0 : Int) (h1 := fun _ => rfl) (enc := Value.int .u8) N4.out.pr ((mask.length : Int) + 1) (by omega) (by omega)
        have rl := HL.out
        obtain ⟨ad', ea, hx⟩ := Kd.at_int (Kd.C_below HR.out N4.out.bl) ((mask.length : Int) - 1) (by omega) (by omega)
        injection ea with ea
        subst ea
        have to1 : ((mask.length : Int) - 1).toNat = mask.length - 1 := by omega
        have to2 : ((mask.length : Int) + 1).toNat = mask.length + 1 := by omega
        rw [to1] at hx
        rw [to2] at gy gz
        have rt : rd R ((mask.length : Int) - 1) = R.getD (mask.length - 1) 0 := by unfold rd; rw [to1]
        rw [rt] at hx
        have hb := HB.out (mask.length - 1)
        have hq := N4.out.st.bF 1
        obtain ⟨b1, eb⟩ : ∃ b, R.getD (mask.length - 1) 0 = b := ⟨_, rfl⟩
        obtain ⟨q1, eq⟩ : ∃ q, E1.getD 1 0 = q := ⟨_, rfl⟩
        rw [eb] at hx hb
        rw [eq] at fy hq
        have EB1 := Aside0.mk (And.intro eb eq)
        have BB1 := Aside0.mk (And.intro hq hb)
        have hw : IntKind.i64.wrap ((mask.length : Int) - 1) = (mask.length : Int) - 1 := IntWalk.i64_in _ (by omega)
        have hv : IntKind.i64.wrap ((mask.length : Int) + 1) = (mask.length : Int) + 1 := IntWalk.i64_in _ (by omega)
        have p1 : 1 < mask.length := by omega
        have p1' : (1 : Int) < (mask.length : Int) := by omega
        have p1a : 0 ≤ (mask.length : Int) - 1 := by omega
        have p1f : 1 ≤ (mask.length : Int) := by omega
        have p1g : 1 ≤ mask.length := by omega
        have p1b : (mask.length : Int) - 1 < (mask.length : Int) := by omega
        have p1c : mask.length + 1 < mask.length + 2 := by omega
        have p1d : (mask.length : Int) + 1 < (mask.length : Int) + 2 := by omega
        have p1e : 0 ≤ (mask.length : Int) + 1 := by omega
        clear eb eq hb hq rl rt e1l
        go_wp2_with fail
        go_still_tail 16, (by kernel_rfl)
        change wpList _ _ _ _ _ W4.drew
        go_wp2_with fail
        change Code.wp _ _ _ _ (W4.setCell ⟨g, mask.length + 1, none⟩ (.int .u8 (xr q1 b1))).drew
        have N5 := Aside0.mk (N4.out.lay (mask.length + 1) (xr_range BB1.out.1.1 BB1.out.1.2 BB1.out.2.1 BB1.out.2.2).1 (xr_range BB1.out.1.1 BB1.out.1.2 BB1.out.2.1 BB1.out.2.2).2).drew
        clear c1 fy gy gz hx hw hv p1 p1' p1a p1b p1c p1d p1e p1f p1g to1 to2 N4
        generalize (W4.setCell ⟨g, mask.length + 1, none⟩ (.int .u8 (xr q1 b1))).drew = W5 at N5 ⊢
        have hF : ((K0 ++ [0, 0]).set mask.length (xr q0 b0)).set (mask.length + 1) (xr q1 b1) = K0 ++ [xr q0 b0, xr q1 b1] := set_end K0 [0, 0] _ _ _ KK.out.2.2 rfl
        rw [hF] at N5
        clear hF
        have VV := Aside0.mk (And.intro (xr_range BB0.out.1.1 BB0.out.1.2 BB0.out.2.1 BB0.out.2.2) (xr_range BB1.out.1.1 BB1.out.1.2 BB1.out.2.1 BB1.out.2.2))
        have FF := Aside0.mk (show outN (enc perm sub mask) mask.length false (List.replicate mask.length 0, mask.length) (told R) = K0 ++ [xr q0 b0, xr q1 b1] ∧ stN (enc perm sub mask) mask.length false (List.replicate mask.length 0, mask.length) (told R) = ((E1.set 0 (xr q0 b0)).set 1 (xr q1 b1), 2) by
          have ht := told_two R (by rw [HL.out]; exact h2)
          rw [HL.out] at ht
          have f1 := firsts (E := enc perm sub mask) (n := mask.length) (back := false) (z := List.replicate mask.length 0) (t0 := R) (E1 := E1) (a := R.getD (mask.length - 2) 0) (b := R.getD (mask.length - 1) 0) h2 (fun x => enc_length _ _ _ x) HL.out (by show enc perm sub mask (segO (enc perm sub mask (List.replicate mask.length 0)) 0 R) = E1; rw [ZE.out, KK.out.1, EE.out])
          rw [← ht, ZE.out, KK.out.1, EB0.out.1, EB0.out.2, EB1.out.1, EB1.out.2] at f1
          exact f1)
        obtain ⟨v0, e0⟩ : ∃ v, xr q0 b0 = v := ⟨_, rfl⟩
        obtain ⟨v1, e1⟩ : ∃ v, xr q1 b1 = v := ⟨_, rfl⟩
        obtain ⟨F, eF⟩ : ∃ F, K0 ++ [v0, v1] = F := ⟨_, rfl⟩
        rw [e0, e1, eF] at FF N5
        rw [e0, e1] at VV
        have GG := Aside0.mk (show F.length = mask.length + 2 ∧ F.getD mask.length 0 = v0 ∧ F.getD (mask.length + 1) 0 = v1 by
          rw [← eF, ← KK.out.2.2]
          exact ⟨by simp, by simp, by simp⟩)
        clear e0 e1 eF EB0 EB1 BB0 BB1
        go_wp2_with fail
        have c1 := N5.out.st.c1
        have el := N5.out.st.len
        have fy := (Kd.R_celln (0 : Int) (h1 := fun _ => rfl) (enc := Value.int .u8) N5.out.st.rf (0 : Int) (by omega) (by omega))
        obtain ⟨fy, fz⟩ := fy
        change W5.cell? ⟨f, 0, none⟩ = _ at fy
        change W5.frozen? ⟨f, 0, none⟩ = _ at fz
        obtain ⟨gy, gz⟩ := Kd.R_celln (0 : Int) (h1 := fun _ => rfl) (enc := Value.int .u8) N5.out.pr ((mask.length : Int)) (by omega) (by omega)
        have to2 : ((mask.length : Int)).toNat = mask.length := by omega
        have rt : rdOf 0 F ((mask.length : Int)) = v0 := by unfold rdOf; rw [to2]; exact GG.out.2.1
        rw [to2, rt] at gy
        have hv : IntKind.i64.wrap ((mask.length : Int) + 1) = (mask.length : Int) + 1 := IntWalk.i64_in _ (by omega)
        have p1 : 0 < mask.length := by omega
        have p2 : (0 : Int) < (mask.length : Int) := by omega
        have p3 : mask.length < mask.length + 2 := by omega
        have p4 : (mask.length : Int) < (mask.length : Int) + 2 := by omega
        have p5 : 0 ≤ (mask.length : Int) := by omega
        clear rt gz el
        skip
        skip
        skip
        skip
        go_wp2_with fail
        go_still_tail 9, (by kernel_rfl)
        change wpList _ _ _ _ _ W5.drew
        go_wp2_with fail
        change Code.wp _ _ _ _ (W5.setCell ⟨f, 0, none⟩ (.int .u8 v0)).drew
        have N6 := Aside0.mk (N5.out.put 0 VV.out.1.1 VV.out.1.2).drew
        clear c1 fy fz gy hv p1 p2 p3 p4 p5 to2 N5
        generalize (W5.setCell ⟨f, 0, none⟩ (.int .u8 v0)).drew = W6 at N6 ⊢
        have c1 := N6.out.st.c1
        have el := N6.out.st.len
        have fy := (Kd.R_celln (0 : Int) (h1 := fun _ => rfl) (enc := Value.int .u8) N6.out.st.rf (1 : Int) (by omega) (by omega))
        obtain ⟨fy, fz⟩ := fy
        change W6.cell? ⟨f, 1, none⟩ = _ at fy
        change W6.frozen? ⟨f, 1, none⟩ = _ at fz
        obtain ⟨gy, gz⟩ := Kd.R_celln (0 : Int) (h1 := fun _ => rfl) (enc := Value.int .u8) N6.out.pr ((mask.length : Int) + 1) (by omega) (by omega)
        have to2 : ((mask.length : Int) + 1).toNat = mask.length + 1 := by omega
        have rt : rdOf 0 F ((mask.length : Int) + 1) = v1 := by unfold rdOf; rw [to2]; exact GG.out.2.2
        rw [to2, rt] at gy
        have hv : IntKind.i64.wrap ((mask.length : Int) + 1) = (mask.length : Int) + 1 := IntWalk.i64_in _ (by omega)
        have p1 : 1 < mask.length := by omega
        have p2 : (1 : Int) < (mask.length : Int) := by omega
        have p3 : mask.length + 1 < mask.length + 2 := by omega
        have p4 : (mask.length : Int) + 1 < (mask.length : Int) + 2 := by omega
        have p5 : 0 ≤ (mask.length : Int) + 1 := by omega
        clear rt gz el
        have c2 := N6.out.st.c2
        have z2 := N6.out.st.z2
        have xf := N6.out.st.xf
        have xf2 := xf.symm
        go_wp2_with fail
        go_still_tail 10, (by kernel_rfl)
        change wpList _ _ _ _ _ W6.drew
        go_wp2_with fail
        have N8 := Aside0.mk ((N6.out.put 1 VV.out.2.1 VV.out.2.2).used 2 h2).drew
        go_ret2
        exact ⟨x, f, g, rfl, fun st F' e1 e2 => by
          rw [FF.out.1] at e1
          subst e1
          have e3 : begun (enc perm sub mask) mask.length false false F (told R) = ((E1.set 0 v0).set 1 v1, 2) := FF.out.2
          rw [e3] at e2
          subst e2
          exact N8.out⟩
      · have c1 := N4.out.st.c1
        have e1l : E1.length = mask.length := N4.out.st.len
        have fy : W4.cell? ⟨f, 1, none⟩ = some (.int .u8 (E1.getD 1 0)) := (Kd.R_celln (0 : Int) (h1 := fun _ => rfl) (enc := Value.int .u8) N4.out.st.rf (1 : Int) (by omega) (by omega)).1
        obtain ⟨gy, gz⟩ := Kd.R_celln (0 : Int) (h1 := fun _ => rfl) (enc := Value.int .u8) N4.out.pr ((mask.length : Int) + 1) (by omega) (by omega)
        have rl := HL.out
        obtain ⟨ad', ea, hx⟩ := Kd.at_int (Kd.C_below HR.out N4.out.bl) ((mask.length : Int) - 1) (by omega) (by omega)
        injection ea with ea
        subst ea
        have to1 : ((mask.length : Int) - 1).toNat = mask.length - 1 := by omega
        have to2 : ((mask.length : Int) + 1).toNat = mask.length + 1 := by omega
        rw [to1] at hx
        rw [to2] at gy gz
        have rt : rd R ((mask.length : Int) - 1) = R.getD (mask.length - 1) 0 := by unfold rd; rw [to1]
        rw [rt] at hx
        have hb := HB.out (mask.length - 1)
        have hq := N4.out.st.bF 1
        obtain ⟨b1, eb⟩ : ∃ b, R.getD (mask.length - 1) 0 = b := ⟨_, rfl⟩
        obtain ⟨q1, eq⟩ : ∃ q, E1.getD 1 0 = q := ⟨_, rfl⟩
        rw [eb] at hx hb
        rw [eq] at fy hq
        have EB1 := Aside0.mk (And.intro eb eq)
        have BB1 := Aside0.mk (And.intro hq hb)
        have hw : IntKind.i64.wrap ((mask.length : Int) - 1) = (mask.length : Int) - 1 := IntWalk.i64_in _ (by omega)
        have hv : IntKind.i64.wrap ((mask.length : Int) + 1) = (mask.length : Int) + 1 := IntWalk.i64_in _ (by omega)
        have p1 : 1 < mask.length := by omega
        have p1' : (1 : Int) < (mask.length : Int) := by omega
        have p1a : 0 ≤ (mask.length : Int) - 1 := by omega
        have p1f : 1 ≤ (mask.length : Int) := by omega
        have p1g : 1 ≤ mask.length := by omega
        have p1b : (mask.length : Int) - 1 < (mask.length : Int) := by omega
        have p1c : mask.length + 1 < mask.length + 2 := by omega
        have p1d : (mask.length : Int) + 1 < (mask.length : Int) + 2 := by omega
        have p1e : 0 ≤ (mask.length : Int) + 1 := by omega
        clear eb eq hb hq rl rt e1l
        go_wp2_with fail
        go_still_tail 16, (by kernel_rfl)
        change wpList _ _ _ _ _ W4.drew
        go_wp2_with fail
        change Code.wp _ _ _ _ (W4.setCell ⟨g, mask.length + 1, none⟩ (.int .u8 (xr q1 b1))).drew
        have N5 := Aside0.mk (N4.out.lay (mask.length + 1) (xr_range BB1.out.1.1 BB1.out.1.2 BB1.out.2.1 BB1.out.2.2).1 (xr_range BB1.out.1.1 BB1.out.1.2 BB1.out.2.1 BB1.out.2.2).2).drew
        clear c1 fy gy gz hx hw hv p1 p1' p1a p1b p1c p1d p1e p1f p1g to1 to2 N4
        generalize (W4.setCell ⟨g, mask.length + 1, none⟩ (.int .u8 (xr q1 b1))).drew = W5 at N5 ⊢
        have hF : ((K0 ++ [0, 0]).set mask.length (xr q0 b0)).set (mask.length + 1) (xr q1 b1) = K0 ++ [xr q0 b0, xr q1 b1] := set_end K0 [0, 0] _ _ _ KK.out.2.2 rfl
        rw [hF] at N5
        clear hF
        have VV := Aside0.mk (And.intro (xr_range BB0.out.1.1 BB0.out.1.2 BB0.out.2.1 BB0.out.2.2) (xr_range BB1.out.1.1 BB1.out.1.2 BB1.out.2.1 BB1.out.2.2))
        have FF := Aside0.mk (show outN (enc perm sub mask) mask.length false (List.replicate mask.length 0, mask.length) (told R) = K0 ++ [xr q0 b0, xr q1 b1] ∧ stN (enc perm sub mask) mask.length false (List.replicate mask.length 0, mask.length) (told R) = ((E1.set 0 (xr q0 b0)).set 1 (xr q1 b1), 2) by
          have ht := told_two R (by rw [HL.out]; exact h2)
          rw [HL.out] at ht
          have f1 := firsts (E := enc perm sub mask) (n := mask.length) (back := false) (z := List.replicate mask.length 0) (t0 := R) (E1 := E1) (a := R.getD (mask.length - 2) 0) (b := R.getD (mask.length - 1) 0) h2 (fun x => enc_length _ _ _ x) HL.out (by show enc perm sub mask (segO (enc perm sub mask (List.replicate mask.length 0)) 0 R) = E1; rw [ZE.out, KK.out.1, EE.out])
          rw [← ht, ZE.out, KK.out.1, EB0.out.1, EB0.out.2, EB1.out.1, EB1.out.2] at f1
          exact f1)
        obtain ⟨v0, e0⟩ : ∃ v, xr q0 b0 = v := ⟨_, rfl⟩
        obtain ⟨v1, e1⟩ : ∃ v, xr q1 b1 = v := ⟨_, rfl⟩
        obtain ⟨F, eF⟩ : ∃ F, K0 ++ [v0, v1] = F := ⟨_, rfl⟩
        rw [e0, e1, eF] at FF N5
        rw [e0, e1] at VV
        have GG := Aside0.mk (show F.length = mask.length + 2 ∧ F.getD mask.length 0 = v0 ∧ F.getD (mask.length + 1) 0 = v1 by
          rw [← eF, ← KK.out.2.2]
          exact ⟨by simp, by simp, by simp⟩)
        clear e0 e1 eF EB0 EB1 BB0 BB1
        obtain ⟨Ad, d1, d2, _⟩ := drop8 (P := Try.prog) (t := 22) (e := 5) Try.underlying22 infoB (some ⟨g, 0, none⟩) (mask.length + 2) F 2 (by rw [GG.out.1]; omega) (by rw [GG.out.1]; exact Nat.le_refl _) GG.out.1.symm
        have D2 := Aside0.mk d2
        have hm0 : ¬ mask.length = 0 := by omega
        have e1 : mask.length + 2 - 2 = mask.length := by omega
        rw [e1] at d1
        have d1' : ∀ W : World, (Instr.slice 22 (.slice (some ⟨g, 0, none⟩) (mask.length + 2) (mask.length + 2)) (some (.int .i64 2)) none none).run Try.prog W = .ok (.slice Ad mask.length mask.length) W := d1
        clear d2 e1 d1
        go_wp2_with fail
        have c1 := N5.out.st.c1
        have ni := nil_encI a
        go_still_tail 10, (by kernel_rfl)
        change wpList _ _ _ _ _ W5.drew
        have N5d := Aside0.mk N5.out.drew
        clear c1 ni N5
        generalize W5.drew = W5d at N5d ⊢
        go_wp2_with (go_at_call 114; (with_reducible refine (encrypt_calls (x := F.drop 2) N5d.out.st.blk (D2.out _ N5d.out.len.2.2) (by rw [List.length_drop, GG.out.1]; omega) (bytes_drop N5d.out.bL 2) N5d.out.st.rf (Nat.le_of_eq (Nat.zero_add _)) (Nat.le_refl _) (Nat.le_refl _) ?hbs (by rw [List.length_drop, GG.out.1]; omega)).mono ?_); (case hbs => exact Nat.le_trans (Kd.R_base N5d.out.st.rf f rfl) (Nat.le_of_lt (Kd.R_lt N5d.out.st.rf f rfl))); rintro e W6 ⟨rfl, hR, hT⟩; have N6 := Aside0.mk (N5d.out.encd hT hR); clear N5d hR hT)
        go_wp2_with fail
        go_ret2
        exact ⟨x, f, g, rfl, fun st F' e1 e2 => by
          rw [FF.out.1] at e1
          subst e1
          have e3 : begun (enc perm sub mask) mask.length false true F (told R) = (enc perm sub mask (F.drop 2), 0) := rfl
          rw [e3] at e2
          subst e2
          exact N6.out⟩
end Go.Proofs.Ytkehjcppgpoobaa.Ocf

/- NewOCFBDecrypter, walked. -/
set_option linter.unusedVariables false
set_option linter.unusedSimpArgs false
namespace Go.Proofs.Ytkehjcppgpoobaa.Ocf
open Go.RowKit Go.Proofs.YtkehjcppgpoobaaW.PrintWords Go.Proofs.YtkehjcppgpoobaaW.PrintMore Go.Proofs.Ytkehjcppgpoobaa.Kit Go.Proofs.Ytkehjcppgpoobaa.Mix Go.Proofs.Ytkehjcppgpoobaa.Blk

theorem Neu.copied {w0 : World} {lo hi : Nat} {w w1 : World} {x f a g N C : Nat} {P S M : Option Addr} {cP cS cM : Nat} {perm sub mask : List Int} {F L L1 : List Int} {u : Nat} (h : Neu w0 lo hi w x f a g N C P S M cP cS cM perm sub mask F u L) (hg : w.grownBy w1 (some g)) (hR : R8 5 w1 w0.heap.size (.slice (some ⟨g, 0, none⟩) N C) L1) (hB : Bytes L1) : Neu w0 lo hi w1 x f a g N C P S M cP cS cM perm sub mask F u L1 := by
  have hT : Tch (fun k => k = g) w w1 := (Tch.of_grown hg).mono (fun k e => by injection e with e; exact e.symm)
  exact { h with
    st := h.st.kept hT (fun k e => .inl (by subst e; have := h.gh; have := h.hiw; omega)) (fun e => h.gx e.symm) (fun e => h.gf e.symm)
    pr := hR
    bL := hB
    bl := hT.below h.bl (below_size h.bl) (fun k e => by subst e; exact h.gh) }

set_option maxHeartbeats 3200000 in
set_option maxRecDepth 100000 in
theorem newD_calls {lo hi base : Nat} {w : World} {a : Nat} {P S M : Option Addr} {cP cS cM : Nat} {perm sub mask : List Int} (h : Blk lo hi w a P S M cP cS cM perm sub mask) (h2 : 2 ≤ mask.length)
    {g0 c0 : Nat} {R : List Int} (hR : R8 5 w base (.slice (some ⟨g0, 0, none⟩) (mask.length + 2) c0) R) (hRB : Bytes R) (hg0 : hi ≤ g0 ∨ g0 < lo) (resync : Bool) :
    Calls Try.prog 48 #[.iface 114 (.pointer (some ⟨a, 0, none⟩)), .slice (some ⟨g0, 0, none⟩) (mask.length + 2) c0, .bool resync] w fun e w' => ∃ x f, e = .returned (.iface 110 (.pointer (some ⟨x, 0, none⟩))) ∧
      w.heap.size ≤ x ∧ w.heap.size ≤ f ∧ Tch (fun k => k = g0) w w' ∧ ∀ st F, outN (enc perm sub mask) mask.length true (List.replicate mask.length 0, mask.length) R = F → begun (enc perm sub mask) mask.length true resync R R = st → Str lo hi w.heap.size w' x f a P S M cP cS cM perm sub mask st.1 st.2 ∧ R8 5 w' base (.slice (some ⟨g0, 0, none⟩) (mask.length + 2) c0) F := by
  have m2 := h.rt.m2
  have hRl : R.length = mask.length + 2 := (Kd.R_reads' hR).1.symm
  have hcap := (Kd.R_reads' hR).2.1
  have hmk := made_run (P := Try.prog) 22 5 mask.length Try.underlying22 infoB (by omega)
  have hmk2 : ∀ W : World, (Instr.makeSlice 22 (.int .i64 ((mask.length : Int) + 2)) (.int .i64 ((mask.length : Int) + 2))).run Try.prog W = .ok (.slice (some ⟨W.heap.size, 0, none⟩) (mask.length + 2) (mask.length + 2)) (W.alloc (.cells (madeCells (Value.int IntKind.u8 0).cells (mask.length + 2)) 5)) := made_run (P := Try.prog) 22 5 (mask.length + 2) Try.underlying22 infoB (by omega)
  have HO := Aside0.mk hR
  have HR := Aside0.mk (Kd.R_reads' hR).2.2
  have HB := Aside0.mk hRB
  have HL := Aside0.mk hRl
  have HH := Aside0.mk h
  have GL := Aside0.mk (And.intro (Kd.R_base hR g0 rfl) (Kd.R_lt hR g0 rfl))
  have hw2 : IntKind.i64.wrap ((mask.length : Int) + 2) = (mask.length : Int) + 2 := IntWalk.i64_in _ (by omega)
  clear h hR hRB hRl
  go_enter Try.func48, Try.ntmps48
  go_upto_region 6 with (go_at_call 112; (with_reducible refine (size_calls HH.out).mono ?_); rintro e w1 ⟨rfl, hB⟩)
  obtain ⟨W1, eW, x, f, g, ex, ef, eg, hN⟩ := neu_new HH.out hB 112
  have N0 := Aside0.mk hN
  rw [eW, eg, ex, ef]
  clear eW ex ef eg hN hB hmk hmk2 HH hw2
  go_wp2_with ((with_reducible refine gate_dst (N := 28) rfl ?_); refine copy8 w.heap.size (w0 := w) rfl (.tmp 26) (.tmp 27) 22 22 5 rfl Try.underlying22 infoB g (mask.length + 2) (mask.length + 2) 0 (mask.length + 2) (mask.length + 2) (List.replicate (mask.length + 2) 0) R (some ⟨g0, 0, none⟩) (some ⟨g, 0, none⟩) c0 rfl (fun _ => rfl) rfl HL.out.symm N0.out.pr (Kd.C_below HR.out N0.out.bl) (by omega) N0.out.bl (below_size N0.out.bl) ?_; intro w2 hR hB hG; rw [HL.out, Nat.min_self, List.take_zero, List.nil_append, List.take_of_length_le (by rw [HL.out]; exact Nat.le_refl _), List.drop_of_length_le (by rw [List.length_replicate]; omega), List.append_nil] at hR; have N1 := Aside0.mk (N0.out.copied hG hR HB.out); clear N0 hR hB hG)
  have c1 := N1.out.st.c1
  have ni := nil_encI a
  go_still_tail 12, (by kernel_rfl)
  change wpList _ _ _ _ _ w2.drew
  have N1d := Aside0.mk N1.out.drew
  clear c1 ni N1
  generalize w2.drew = w2d at N1d ⊢
  go_wp2_with (go_at_call 114; (with_reducible refine (encrypt_calls (x := List.replicate mask.length 0) N1d.out.st.blk (Kd.R_reads' N1d.out.st.rf).2.2 (by rw [List.length_replicate]; exact Nat.le_refl _) (zeros_bytes _) N1d.out.st.rf (Nat.le_of_eq (Nat.zero_add _)) (Nat.le_refl _) (Nat.le_refl _) ?hbs List.length_replicate.symm).mono ?_); (case hbs => exact Nat.le_trans (Kd.R_base N1d.out.st.rf f rfl) (Nat.le_of_lt (Kd.R_lt N1d.out.st.rf f rfl))); rintro e W2 ⟨rfl, hR, hT⟩; have N2 := Aside0.mk (N1d.out.encd hT hR); clear N1d hR hT)
  obtain ⟨Z, eZ⟩ : ∃ Z, enc perm sub mask (List.replicate mask.length 0) = Z := ⟨_, rfl⟩
  rw [eZ] at N2
  have ZE := Aside0.mk eZ
  clear eZ
  go_loopw [10] (fun i wr => ∃ k : Nat, k ≤ mask.length ∧ i = .int .i64 (k : Int) ∧ Aside0 (Neu w lo hi wr x f a g (mask.length + 2) (mask.length + 2) P S M cP cS cM perm sub mask Z 0 (part Z R R k))) (fun i _ => mask.length - (intOf i).toNat)
  case atStart => exact ⟨0, Nat.zero_le _, rfl, ⟨by rw [part_zero]; exact N2.out⟩⟩
  case round =>
    clear N2
    obtain ⟨k, hk, rfl, NR⟩ := hrel
    by_cases hlt : k < mask.length
    · have c1 := NR.out.st.c1
      have zl := NR.out.st.len
      obtain ⟨fy, fz⟩ := Kd.R_celln (0 : Int) (h1 := fun _ => rfl) (enc := Value.int .u8) NR.out.st.rf (k : Int) (by omega) (by omega)
      have rs : rdOf 0 Z (k : Int) = Z.getD k 0 := by unfold rdOf; rw [Int.toNat_natCast]
      rw [Int.toNat_natCast, rs] at fy
      clear fz rs
      have rl := HL.out
      obtain ⟨gy, gz⟩ := Kd.R_celln (0 : Int) (h1 := fun _ => rfl) (enc := Value.int .u8) NR.out.pr (k : Int) (by omega) (by omega)
      have rt : rdOf 0 (part Z R R k) (k : Int) = R.getD k 0 := by unfold rdOf; rw [Int.toNat_natCast]; exact part_getD Z R R k (by omega)
      rw [Int.toNat_natCast, rt] at gy
      rw [Int.toNat_natCast] at gz
      have hb := HB.out k
      have hq := NR.out.st.bF k
      obtain ⟨b, eb⟩ : ∃ b, R.getD k 0 = b := ⟨_, rfl⟩
      obtain ⟨q, eq⟩ : ∃ q, Z.getD k 0 = q := ⟨_, rfl⟩
      rw [eb] at gy hb
      rw [eq] at fy hq
      have EB := Aside0.mk (And.intro eb eq)
      have BB := Aside0.mk (And.intro hb hq)
      have kI : (k : Int) < (mask.length : Int) := by omega
      have kJ : (k : Int) < (mask.length : Int) + 2 := by omega
      clear eb eq hb hq rl zl rt
      go_wp2_with fail
      go_still_tail 13, (by kernel_rfl)
      change wpList _ _ _ _ _ wr.drew
      go_wp2_with fail
      have vv := xr_range BB.out.1.1 BB.out.1.2 BB.out.2.1 BB.out.2.2
      have n1 := NR.out.drew.lay k vv.1 vv.2
      have e1 : (part Z R R k).set k (xr b q) = part Z R R (k + 1) := by
        have := part_step Z R R k (by have := HL.out; omega) (by have := HL.out; omega)
        rw [EB.out.1, EB.out.2, xr_comm BB.out.2 BB.out.1] at this
        exact this
      rw [e1] at n1
      go_roundw
      case rel => exact ⟨k + 1, hlt, by go_num, ⟨n1⟩⟩
      case measure => simp [intOf]; omega
    · obtain rfl : k = mask.length := by omega
      go_wp2_with fail
      obtain ⟨R0, eR0⟩ : ∃ R0, R.take mask.length = R0 := ⟨_, rfl⟩
      obtain ⟨K0, eK⟩ : ∃ K0, segO Z 0 R0 = K0 := ⟨_, rfl⟩
      obtain ⟨p0, ep0⟩ : ∃ p, R.getD mask.length 0 = p := ⟨_, rfl⟩
      obtain ⟨p1, ep1⟩ : ∃ p, R.getD (mask.length + 1) 0 = p := ⟨_, rfl⟩
      have r0l : R0.length = mask.length := by rw [← eR0, List.length_take, HL.out]; omega
      have kl : K0.length = mask.length := by rw [← eK, segO_length]; exact r0l
      have ed : R.drop mask.length = [p0, p1] := by
        rw [two_of (R.drop mask.length) (by rw [List.length_drop, HL.out]; omega)]
        simp only [List.getD_eq_getElem?_getD, List.getElem?_drop] at ep0 ep1 ⊢
        rw [← ep0, ← ep1, Nat.add_zero]
      have eP : part Z R R mask.length = K0 ++ [p0, p1] := by rw [part, eR0, eK, ed]
      rw [eP] at NR
      have RR := Aside0.mk (show R = R0 ++ [p0, p1] ∧ R0.length = mask.length ∧ K0.length = mask.length ∧ segO Z 0 R0 = K0 ∧ Bytes R0 from ⟨by rw [← ed, ← eR0, List.take_append_drop], r0l, kl, eK, by rw [← eR0]; exact bytes_take HB.out _⟩)
      have PP := Aside0.mk (show (0 ≤ p0 ∧ p0 ≤ 255) ∧ (0 ≤ p1 ∧ p1 ≤ 255) by rw [← ep0, ← ep1]; exact ⟨HB.out _, HB.out _⟩)
      have EP := Aside0.mk (And.intro ep0 ep1)
      obtain ⟨t1, t2⟩ := take8 (P := Try.prog) (t := 22) (e := 5) Try.underlying22 infoB (some ⟨g0, 0, none⟩) c0 R mask.length (by rw [HL.out]; omega) (by rw [HL.out]; exact hcap) (n := mask.length + 2) HL.out.symm
      have T2 := Aside0.mk t2
      rw [eR0] at T2
      clear eK eP kl t2 r0l ed ep0 ep1 eR0
      have c1 := NR.out.st.c1
      have ni := nil_encI a
      go_still_tail 11, (by kernel_rfl)
      change wpList _ _ _ _ _ wr.drew
      have NRd := Aside0.mk NR.out.drew
      clear c1 ni NR
      generalize wr.drew = wrd at NRd ⊢
      go_wp2_with (go_at_call 114; (with_reducible refine (encrypt_calls (x := R0) NRd.out.st.blk (T2.out _ (Kd.C_below HR.out NRd.out.bl)) (by rw [RR.out.2.1]; exact Nat.le_refl _) RR.out.2.2.2.2 NRd.out.st.rf (Nat.le_of_eq (Nat.zero_add _)) (Nat.le_refl _) (Nat.le_refl _) ?hbs RR.out.2.1.symm).mono ?_); (case hbs => exact Nat.le_trans (Kd.R_base NRd.out.st.rf f rfl) (Nat.le_of_lt (Kd.R_lt NRd.out.st.rf f rfl))); rintro e W3 ⟨rfl, hR, hT⟩; have N3 := Aside0.mk (NRd.out.encd hT hR); clear NRd hR hT)
      obtain ⟨E1, eE⟩ : ∃ E1, enc perm sub mask R0 = E1 := ⟨_, rfl⟩
      rw [eE] at N3
      have EE := Aside0.mk eE
      clear eE t1
      have c1 := N3.out.st.c1
      have e1l : E1.length = mask.length := N3.out.st.len
      have fy : W3.cell? ⟨f, 0, none⟩ = some (.int .u8 (E1.getD 0 0)) := (Kd.R_celln (0 : Int) (h1 := fun _ => rfl) (enc := Value.int .u8) N3.out.st.rf (0 : Int) (by omega) (by omega)).1
      obtain ⟨gy, gz⟩ := Kd.R_celln (0 : Int) (h1 := fun _ => rfl) (enc := Value.int .u8) N3.out.pr ((mask.length : Int)) (by omega) (by omega)
      have to2 : ((mask.length : Int)).toNat = mask.length := by omega
      have rt : rdOf 0 (K0 ++ [p0, p1]) ((mask.length : Int)) = p0 := by unfold rdOf; rw [to2, ← RR.out.2.2.1]; simp
      rw [to2, rt] at gy
      rw [to2] at gz
      have hq := N3.out.st.bF 0
      obtain ⟨q0, eq⟩ : ∃ q, E1.getD 0 0 = q := ⟨_, rfl⟩
      rw [eq] at fy hq
      have EB0 := Aside0.mk eq
      have BB0 := Aside0.mk hq
      have hv : IntKind.i64.wrap ((mask.length : Int) + 1) = (mask.length : Int) + 1 := IntWalk.i64_in _ (by omega)
      have z1 : 0 < mask.length := by omega
      have z2 : (0 : Int) < (mask.length : Int) := by omega
      have z3 : mask.length < mask.length + 2 := by omega
      have z4 : (mask.length : Int) < (mask.length : Int) + 2 := by omega
      have z5 : 0 ≤ (mask.length : Int) := by omega
      clear eq hq rt e1l
      go_wp2_with fail
      go_still_tail 12, (by kernel_rfl)
      change wpList _ _ _ _ _ W3.drew
      go_wp2_with fail
      change Code.wp _ _ _ _ (W3.setCell ⟨g, mask.length, none⟩ (.int .u8 (xr p0 q0))).drew
      have N4 := Aside0.mk (N3.out.lay (mask.length) (xr_range PP.out.1.1 PP.out.1.2 BB0.out.1 BB0.out.2).1 (xr_range PP.out.1.1 PP.out.1.2 BB0.out.1 BB0.out.2).2).drew
      clear c1 fy gy gz hv z1 z2 z3 z4 z5 to2 N3
      generalize (W3.setCell ⟨g, mask.length, none⟩ (.int .u8 (xr p0 q0))).drew = W4 at N4 ⊢
      have e4 : (K0 ++ [p0, p1]).set mask.length (xr p0 q0) = K0 ++ [xr p0 q0, p1] := by rw [← RR.out.2.2.1]; simp
      rw [e4] at N4
      clear e4
      cases resync
      · have c1 := N4.out.st.c1
        have e1l : E1.length = mask.length := N4.out.st.len
        have fy : W4.cell? ⟨f, 1, none⟩ = some (.int .u8 (E1.getD 1 0)) := (Kd.R_celln (0 : Int) (h1 := fun _ => rfl) (enc := Value.int .u8) N4.out.st.rf (1 : Int) (by omega) (by omega)).1
        obtain ⟨gy, gz⟩ := Kd.R_celln (0 : Int) (h1 := fun _ => rfl) (enc := Value.int .u8) N4.out.pr ((mask.length : Int) + 1) (by omega) (by omega)
        have to2 : ((mask.length : Int) + 1).toNat = mask.length + 1 := by omega
        have rt : rdOf 0 (K0 ++ [xr p0 q0, p1]) ((mask.length : Int) + 1) = p1 := by unfold rdOf; rw [to2, ← RR.out.2.2.1]; simp
        rw [to2, rt] at gy
        rw [to2] at gz
        have hq := N4.out.st.bF 1
        obtain ⟨q1, eq⟩ : ∃ q, E1.getD 1 0 = q := ⟨_, rfl⟩
        rw [eq] at fy hq
        have EB1 := Aside0.mk eq
        have BB1 := Aside0.mk hq
        have hv : IntKind.i64.wrap ((mask.length : Int) + 1) = (mask.length : Int) + 1 := IntWalk.i64_in _ (by omega)
        have z1 : 1 < mask.length := by omega
        have z2 : (1 : Int) < (mask.length : Int) := by omega
        have z3 : mask.length + 1 < mask.length + 2 := by omega
        have z4 : (mask.length : Int) + 1 < (mask.length : Int) + 2 := by omega
        have z5 : 0 ≤ (mask.length : Int) + 1 := by omega
        clear eq hq rt e1l
        go_wp2_with fail
        go_still_tail 13, (by kernel_rfl)
        change wpList _ _ _ _ _ W4.drew
        go_wp2_with fail
        change Code.wp _ _ _ _ (W4.setCell ⟨g, mask.length + 1, none⟩ (.int .u8 (xr p1 q1))).drew
        have N5 := Aside0.mk (N4.out.lay (mask.length + 1) (xr_range PP.out.2.1 PP.out.2.2 BB1.out.1 BB1.out.2).1 (xr_range PP.out.2.1 PP.out.2.2 BB1.out.1 BB1.out.2).2).drew
        clear c1 fy gy gz hv z1 z2 z3 z4 z5 to2 N4
        generalize (W4.setCell ⟨g, mask.length + 1, none⟩ (.int .u8 (xr p1 q1))).drew = W5 at N5 ⊢
        have e4 : (K0 ++ [xr p0 q0, p1]).set (mask.length + 1) (xr p1 q1) = K0 ++ [xr p0 q0, xr p1 q1] := by rw [← RR.out.2.2.1]; simp
        rw [e4] at N5
        clear e4
        have FF := Aside0.mk (show outN (enc perm sub mask) mask.length true (List.replicate mask.length 0, mask.length) R = K0 ++ [xr p0 q0, xr p1 q1] ∧ stN (enc perm sub mask) mask.length true (List.replicate mask.length 0, mask.length) R = ((E1.set 0 p0).set 1 p1, 2) by
          have f1 := firsts (E := enc perm sub mask) (n := mask.length) (back := true) (z := List.replicate mask.length 0) (t0 := R0) (E1 := E1) (a := p0) (b := p1) h2 (fun x => enc_length _ _ _ x) RR.out.2.1 (by show enc perm sub mask R0 = E1; exact EE.out)
          rw [← RR.out.1, ZE.out, RR.out.2.2.2.1, EB0.out, EB1.out, xr_comm BB0.out PP.out.1, xr_comm BB1.out PP.out.2] at f1
          exact f1)
        obtain ⟨F, eF⟩ : ∃ F, K0 ++ [xr p0 q0, xr p1 q1] = F := ⟨_, rfl⟩
        rw [eF] at FF N5
        clear eF EB0 EB1 BB0 BB1
        go_wp2_with fail
        have c1 := N5.out.st.c1
        have el := N5.out.st.len
        have fy := (Kd.R_celln (0 : Int) (h1 := fun _ => rfl) (enc := Value.int .u8) N5.out.st.rf (0 : Int) (by omega) (by omega))
        obtain ⟨fy, fz⟩ := fy
        change W5.cell? ⟨f, 0, none⟩ = _ at fy
        change W5.frozen? ⟨f, 0, none⟩ = _ at fz
        have to2 : ((mask.length : Int)).toNat = mask.length := by omega
        have gy := (Kd.R_celln (0 : Int) (h1 := fun _ => rfl) (enc := Value.int .u8) (Kd.R_below HO.out N5.out.bl) ((mask.length : Int)) (by omega) (by omega)).1
        have rt : rdOf 0 R ((mask.length : Int)) = p0 := by unfold rdOf; rw [to2]; exact EP.out.1
        rw [to2, rt] at gy
        have hv : IntKind.i64.wrap ((mask.length : Int) + 1) = (mask.length : Int) + 1 := IntWalk.i64_in _ (by omega)
        have z1 : 0 < mask.length := by omega
        have z2 : (0 : Int) < (mask.length : Int) := by omega
        have z3 : mask.length < mask.length + 2 := by omega
        have z4 : (mask.length : Int) < (mask.length : Int) + 2 := by omega
        have z5 : 0 ≤ (mask.length : Int) := by omega
        clear rt el
        skip
        skip
        skip
        skip
        go_wp2_with fail
        go_still_tail 9, (by kernel_rfl)
        change wpList _ _ _ _ _ W5.drew
        go_wp2_with fail
        change Code.wp _ _ _ _ (W5.setCell ⟨f, 0, none⟩ (.int .u8 p0)).drew
        have N6 := Aside0.mk (N5.out.put 0 PP.out.1.1 PP.out.1.2).drew
        clear c1 fy fz gy hv z1 z2 z3 z4 z5 to2 N5
        generalize (W5.setCell ⟨f, 0, none⟩ (.int .u8 p0)).drew = W6 at N6 ⊢
        have c1 := N6.out.st.c1
        have el := N6.out.st.len
        have fy := (Kd.R_celln (0 : Int) (h1 := fun _ => rfl) (enc := Value.int .u8) N6.out.st.rf (1 : Int) (by omega) (by omega))
        obtain ⟨fy, fz⟩ := fy
        change W6.cell? ⟨f, 1, none⟩ = _ at fy
        change W6.frozen? ⟨f, 1, none⟩ = _ at fz
        have to2 : ((mask.length : Int) + 1).toNat = mask.length + 1 := by omega
        have gy := (Kd.R_celln (0 : Int) (h1 := fun _ => rfl) (enc := Value.int .u8) (Kd.R_below HO.out N6.out.bl) ((mask.length : Int) + 1) (by omega) (by omega)).1
        have rt : rdOf 0 R ((mask.length : Int) + 1) = p1 := by unfold rdOf; rw [to2]; exact EP.out.2
        rw [to2, rt] at gy
        have hv : IntKind.i64.wrap ((mask.length : Int) + 1) = (mask.length : Int) + 1 := IntWalk.i64_in _ (by omega)
        have z1 : 1 < mask.length := by omega
        have z2 : (1 : Int) < (mask.length : Int) := by omega
        have z3 : mask.length + 1 < mask.length + 2 := by omega
        have z4 : (mask.length : Int) + 1 < (mask.length : Int) + 2 := by omega
        have z5 : 0 ≤ (mask.length : Int) + 1 := by omega
        clear rt el
        have c2 := N6.out.st.c2
        have z6 := N6.out.st.z2
        have xf := N6.out.st.xf
        have xf2 := xf.symm
        go_wp2_with fail
        go_still_tail 10, (by kernel_rfl)
        change wpList _ _ _ _ _ W6.drew
        go_upto_region 20 with (fail)
        have NE := Aside0.mk ((N6.out.put 1 PP.out.2.1 PP.out.2.2).used 2 h2).drew
        clear c1 c2 z6 fy fz gy hv z1 z2 z3 z4 z5 to2 N6 xf xf2
        change Code.wp _ _ _ _ ((W6.setCell ⟨f, 1, none⟩ (.int .u8 p1)).setCell ⟨x, 2, none⟩ (.int .i64 ((2 : Nat) : Int))).drew
        generalize ((W6.setCell ⟨f, 1, none⟩ (.int .u8 p1)).setCell ⟨x, 2, none⟩ (.int .i64 ((2 : Nat) : Int))).drew = WE at NE ⊢
        obtain ⟨s1, s2⟩ : (Tch (fun k => k = g0) w WE) ∧ hi ≤ w.heap.size := ⟨Tch.of_below NE.out.bl, NE.out.hiw⟩
        go_wp2_with ((with_reducible refine gate_dst (N := 133) rfl ?_); refine copy8 base (w0 := WE) rfl (.tmp 131) (.tmp 132) 22 22 5 rfl Try.underlying22 infoB g0 (mask.length + 2) c0 0 (mask.length + 2) c0 R F (some ⟨g, 0, none⟩) (some ⟨g0, 0, none⟩) (mask.length + 2) rfl (fun _ => rfl) rfl NE.out.len.1 (Kd.R_below HO.out NE.out.bl) NE.out.len.2.2 (by omega) (Below.refl _ _) (by have := GL.out; have := below_size NE.out.bl; omega) ?_; intro w2 hR hB hG; rw [← NE.out.len.1, Nat.min_self, List.take_zero, List.nil_append, List.take_of_length_le (by rw [← NE.out.len.1]; exact Nat.le_refl _), List.drop_of_length_le (by rw [HL.out]; omega), List.append_nil] at hR; have hT : Tch (fun k => k = g0) WE w2 := (Tch.of_grown hG).mono (fun k e => by injection e with e; exact e.symm); have SE := Aside0.mk (NE.out.st.kept hT (fun k e => by subst e; exact hg0) (fun e => by have := NE.out.xh; have := GL.out; omega) (fun e => by have := NE.out.fh; have := GL.out; omega)); have RE := Aside0.mk hR; have TE := Aside0.mk (s1.trans hT); have XF := Aside0.mk (And.intro NE.out.xh NE.out.fh); clear NE hR hB hG hT s1)
        go_ret
        exact ⟨x, f, rfl, XF.out.1, XF.out.2, TE.out, fun st F' e1 e2 => by
          rw [FF.out.1] at e1
          subst e1
          have e3 : begun (enc perm sub mask) mask.length true false R R = ((E1.set 0 p0).set 1 p1, 2) := FF.out.2
          rw [e3] at e2
          subst e2
          exact ⟨SE.out, RE.out⟩⟩
      · have c1 := N4.out.st.c1
        have e1l : E1.length = mask.length := N4.out.st.len
        have fy : W4.cell? ⟨f, 1, none⟩ = some (.int .u8 (E1.getD 1 0)) := (Kd.R_celln (0 : Int) (h1 := fun _ => rfl) (enc := Value.int .u8) N4.out.st.rf (1 : Int) (by omega) (by omega)).1
        obtain ⟨gy, gz⟩ := Kd.R_celln (0 : Int) (h1 := fun _ => rfl) (enc := Value.int .u8) N4.out.pr ((mask.length : Int) + 1) (by omega) (by omega)
        have to2 : ((mask.length : Int) + 1).toNat = mask.length + 1 := by omega
        have rt : rdOf 0 (K0 ++ [xr p0 q0, p1]) ((mask.length : Int) + 1) = p1 := by unfold rdOf; rw [to2, ← RR.out.2.2.1]; simp
        rw [to2, rt] at gy
        rw [to2] at gz
        have hq := N4.out.st.bF 1
        obtain ⟨q1, eq⟩ : ∃ q, E1.getD 1 0 = q := ⟨_, rfl⟩
        rw [eq] at fy hq
        have EB1 := Aside0.mk eq
        have BB1 := Aside0.mk hq
        have hv : IntKind.i64.wrap ((mask.length : Int) + 1) = (mask.length : Int) + 1 := IntWalk.i64_in _ (by omega)
        have z1 : 1 < mask.length := by omega
        have z2 : (1 : Int) < (mask.length : Int) := by omega
        have z3 : mask.length + 1 < mask.length + 2 := by omega
        have z4 : (mask.length : Int) + 1 < (mask.length : Int) + 2 := by omega
        have z5 : 0 ≤ (mask.length : Int) + 1 := by omega
        clear eq hq rt e1l
        go_wp2_with fail
        go_still_tail 13, (by kernel_rfl)
        change wpList _ _ _ _ _ W4.drew
        go_wp2_with fail
        change Code.wp _ _ _ _ (W4.setCell ⟨g, mask.length + 1, none⟩ (.int .u8 (xr p1 q1))).drew
        have N5 := Aside0.mk (N4.out.lay (mask.length + 1) (xr_range PP.out.2.1 PP.out.2.2 BB1.out.1 BB1.out.2).1 (xr_range PP.out.2.1 PP.out.2.2 BB1.out.1 BB1.out.2).2).drew
        clear c1 fy gy gz hv z1 z2 z3 z4 z5 to2 N4
        generalize (W4.setCell ⟨g, mask.length + 1, none⟩ (.int .u8 (xr p1 q1))).drew = W5 at N5 ⊢
        have e4 : (K0 ++ [xr p0 q0, p1]).set (mask.length + 1) (xr p1 q1) = K0 ++ [xr p0 q0, xr p1 q1] := by rw [← RR.out.2.2.1]; simp
        rw [e4] at N5
        clear e4
        have FF := Aside0.mk (show outN (enc perm sub mask) mask.length true (List.replicate mask.length 0, mask.length) R = K0 ++ [xr p0 q0, xr p1 q1] ∧ stN (enc perm sub mask) mask.length true (List.replicate mask.length 0, mask.length) R = ((E1.set 0 p0).set 1 p1, 2) by
          have f1 := firsts (E := enc perm sub mask) (n := mask.length) (back := true) (z := List.replicate mask.length 0) (t0 := R0) (E1 := E1) (a := p0) (b := p1) h2 (fun x => enc_length _ _ _ x) RR.out.2.1 (by show enc perm sub mask R0 = E1; exact EE.out)
          rw [← RR.out.1, ZE.out, RR.out.2.2.2.1, EB0.out, EB1.out, xr_comm BB0.out PP.out.1, xr_comm BB1.out PP.out.2] at f1
          exact f1)
        obtain ⟨F, eF⟩ : ∃ F, K0 ++ [xr p0 q0, xr p1 q1] = F := ⟨_, rfl⟩
        rw [eF] at FF N5
        clear eF EB0 EB1 BB0 BB1
        obtain ⟨Ad, d1, d2, _⟩ := drop8 (P := Try.prog) (t := 22) (e := 5) Try.underlying22 infoB (some ⟨g0, 0, none⟩) c0 R 2 (by rw [HL.out]; omega) (by rw [HL.out]; exact hcap) HL.out.symm
        have D2 := Aside0.mk d2
        have hm0 : ¬ mask.length = 0 := by omega
        have e1 : mask.length + 2 - 2 = mask.length := by omega
        rw [e1] at d1
        have d1' : ∀ W : World, (Instr.slice 22 (.slice (some ⟨g0, 0, none⟩) (mask.length + 2) c0) (some (.int .i64 2)) none none).run Try.prog W = .ok (.slice Ad mask.length (c0 - 2)) W := d1
        clear d2 e1 d1
        go_wp2_with fail
        have c1 := N5.out.st.c1
        have ni := nil_encI a
        go_still_tail 10, (by kernel_rfl)
        change wpList _ _ _ _ _ W5.drew
        have N5d := Aside0.mk N5.out.drew
        clear c1 ni N5
        generalize W5.drew = W5d at N5d ⊢
        go_upto_region 20 with (go_at_call 114; (with_reducible refine (encrypt_calls (x := R.drop 2) N5d.out.st.blk (D2.out _ (Kd.C_below HR.out N5d.out.bl)) (by rw [List.length_drop, HL.out]; omega) (bytes_drop HB.out 2) N5d.out.st.rf (Nat.le_of_eq (Nat.zero_add _)) (Nat.le_refl _) (Nat.le_refl _) ?hbs (by rw [List.length_drop, HL.out]; omega)).mono ?_); (case hbs => exact Nat.le_trans (Kd.R_base N5d.out.st.rf f rfl) (Nat.le_of_lt (Kd.R_lt N5d.out.st.rf f rfl))); rintro e WE ⟨rfl, hR, hT⟩; have NE := Aside0.mk (N5d.out.encd hT hR); clear N5d hR hT)
        obtain ⟨s1, s2⟩ : (Tch (fun k => k = g0) w WE) ∧ hi ≤ w.heap.size := ⟨Tch.of_below NE.out.bl, NE.out.hiw⟩
        go_wp2_with ((with_reducible refine gate_dst (N := 133) rfl ?_); refine copy8 base (w0 := WE) rfl (.tmp 131) (.tmp 132) 22 22 5 rfl Try.underlying22 infoB g0 (mask.length + 2) c0 0 (mask.length + 2) c0 R F (some ⟨g, 0, none⟩) (some ⟨g0, 0, none⟩) (mask.length + 2) rfl (fun _ => rfl) rfl NE.out.len.1 (Kd.R_below HO.out NE.out.bl) NE.out.len.2.2 (by omega) (Below.refl _ _) (by have := GL.out; have := below_size NE.out.bl; omega) ?_; intro w2 hR hB hG; rw [← NE.out.len.1, Nat.min_self, List.take_zero, List.nil_append, List.take_of_length_le (by rw [← NE.out.len.1]; exact Nat.le_refl _), List.drop_of_length_le (by rw [HL.out]; omega), List.append_nil] at hR; have hT : Tch (fun k => k = g0) WE w2 := (Tch.of_grown hG).mono (fun k e => by injection e with e; exact e.symm); have SE := Aside0.mk (NE.out.st.kept hT (fun k e => by subst e; exact hg0) (fun e => by have := NE.out.xh; have := GL.out; omega) (fun e => by have := NE.out.fh; have := GL.out; omega)); have RE := Aside0.mk hR; have TE := Aside0.mk (s1.trans hT); have XF := Aside0.mk (And.intro NE.out.xh NE.out.fh); clear NE hR hB hG hT s1)
        go_ret
        exact ⟨x, f, rfl, XF.out.1, XF.out.2, TE.out, fun st F' e1 e2 => by
          rw [FF.out.1] at e1
          subst e1
          have e3 : begun (enc perm sub mask) mask.length true true R R = (enc perm sub mask (R.drop 2), 0) := rfl
          rw [e3] at e2
          subst e2
          exact ⟨SE.out, RE.out⟩⟩
end Go.Proofs.Ytkehjcppgpoobaa.Ocf

/- impl's block cipher of plain data: made. -/
set_option linter.unusedVariables false
set_option linter.unusedSimpArgs false
namespace Go.Proofs.Ytkehjcppgpoobaa.Blk
open Go.RowKit Go.Proofs.YtkehjcppgpoobaaW.PrintWords Go.Proofs.YtkehjcppgpoobaaW.PrintMore Go.Proofs.Ytkehjcppgpoobaa.Kit Go.Proofs.Ytkehjcppgpoobaa.Mix

/-- The table back, while it is laid. -/
structure Bk (w : World) (a : Nat) (P S M : Option Addr) (cP cS cM : Nat) (perm sub mask : List Int) (k : Nat) : Prop where
  c0 : w.cell? ⟨a, 0, none⟩ = some (.slice P perm.length cP)
  c1 : w.cell? ⟨a, 1, none⟩ = some (.slice S sub.length cS)
  c2 : w.cell? ⟨a, 2, none⟩ = some (.slice M mask.length cM)
  cb : ∀ i, i < 256 → w.cell? ⟨a, 3 + i, none⟩ = some (.int .u8 ((backOf sub k).getD i 0))
  fb : ∀ i, i < 256 → w.frozen? ⟨a, 3 + i, none⟩ = false
  rp : C8 w P perm
  rs : C8 w S sub
  rm : C8 w M mask
  aP : ∀ ad, P = some ad → 0 < perm.length → ad.block ≠ a
  aS : ∀ ad, S = some ad → 0 < sub.length → ad.block ≠ a
  aM : ∀ ad, M = some ad → 0 < mask.length → ad.block ≠ a
theorem zero_tail : Try.zeroCells117.toList.drop 3 = List.replicate 256 (.int .u8 0) := by kernel_rfl
theorem zero_size : Try.zeroCells117.size = 259 := by kernel_rfl
theorem zero_at (i : Nat) (hi : i < 256) : Try.zeroCells117[3 + i]? = some (.int .u8 0) := by
  rw [← Array.getElem?_toList, ← List.getElem?_drop, zero_tail, List.getElem?_replicate, if_pos hi]
theorem bk_new {w : World} {a : Nat} {P S M : Option Addr} {cP cS cM : Nat} {perm sub mask : List Int} (rp : C8 w P perm) (rs : C8 w S sub) (rm : C8 w M mask) (ha : a = w.heap.size) :
    ∃ W2, w.alloc (.cells (((Try.zeroCells117.setIfInBounds 0 (.slice P perm.length cP)).setIfInBounds 1 (.slice S sub.length cS)).setIfInBounds 2 (.slice M mask.length cM)) 117) = W2 ∧ Bk W2 a P S M cP cS cM perm sub mask 0 := by
  subst ha
  refine ⟨_, rfl, ?_⟩
  have hz := zero_size
  have hl : ∀ {A : Option Addr} {l : List Int}, C8 w A l → ∀ ad, A = some ad → 0 < l.length → ad.block ≠ w.heap.size := fun h ad e hp k => by have := c8_lt h ad e hp; omega
  refine ⟨?_, ?_, ?_, fun i hi => ?_, fun i hi => ?_, Kd.C_below rp (below_alloc (Below.refl _ _) _), Kd.C_below rs (below_alloc (Below.refl _ _) _), Kd.C_below rm (below_alloc (Below.refl _ _) _), hl rp, hl rs, hl rm⟩
  · simp [go_sem, hz]
  · simp [go_sem, hz]
  · simp [go_sem, hz]
  · have h0 := zero_at i hi
    have e1 : ¬ 3 + i = 0 := by omega
    have e2 : ¬ 3 + i = 1 := by omega
    have e3 : ¬ 3 + i = 2 := by omega
    have e4 : (backOf sub 0).getD i 0 = 0 := by show (List.replicate 256 (0 : Int)).getD i 0 = 0; rw [List.getD_eq_getElem?_getD, List.getElem?_replicate, if_pos hi]; rfl
    rw [e4, ← h0]
    simp only [World.cell?, World.alloc]
    simp [Array.getElem?_setIfInBounds, e1, e2, e3, Ne.symm e1, Ne.symm e2, Ne.symm e3]
  · simp [go_sem]

theorem Bk.put {w : World} {a : Nat} {P S M : Option Addr} {cP cS cM : Nat} {perm sub mask : List Int} {k : Nat} (h : Bk w a P S M cP cS cM perm sub mask k) {v : Nat} (hv : (sub.getD k 0).toNat = v) (hv2 : v < 256) :
    Bk (w.setCell ⟨a, 3 + v, none⟩ (.int .u8 (k : Int))) a P S M cP cS cM perm sub mask (k + 1) := by
  have c0 := h.c0
  have c1 := h.c1
  have c2 := h.c2
  have hT : Tch (fun j => j = a) w (w.setCell ⟨a, 3 + v, none⟩ (.int .u8 (k : Int))) := (Tch.refl (fun j => j = a) w).setCell (p := ⟨a, 3 + v, none⟩) (fun _ => rfl) _
  have hoff : ∀ {A : Option Addr} {l : List Int}, (∀ ad, A = some ad → 0 < l.length → ad.block ≠ a) → Off (fun j => j = a) A l := fun f ad e hp k => f ad e hp k
  have n0 : ¬ 3 + v = 0 := by omega
  have n1 : ¬ 3 + v = 1 := by omega
  have n2 : ¬ 3 + v = 2 := by omega
  refine ⟨?_, ?_, ?_, fun i hi => ?_, fun i hi => ?_, hT.c8 h.rp (hoff h.aP), hT.c8 h.rs (hoff h.aS), hT.c8 h.rm (hoff h.aM), h.aP, h.aS, h.aM⟩
  · simp [go_sem, *]
  · simp [go_sem, *]
  · simp [go_sem, *]
  · have hc := h.cb i hi
    show _ = some (Value.int .u8 (((backOf sub k).set (sub.getD k 0).toNat (k : Int)).getD i 0))
    rw [hv, List.getD_eq_getElem?_getD, List.getElem?_set]
    by_cases e : v = i
    · subst e
      rw [if_pos rfl, if_pos (by rw [backOf_length]; exact hv2)]
      simp [go_sem, hc]
    · rw [if_neg e, ← List.getD_eq_getElem?_getD, ← hc]
      exact World.cell?_setCell_other w _ _ _ (by intro q; injection q; omega)
  · have := h.fb i hi
    simp [go_sem, this]

set_option maxHeartbeats 1600000 in
set_option maxRecDepth 100000 in
theorem make_calls (Ap : Option Addr) (cp : Nat) (perm : List Int) (As : Option Addr) (cs : Nat) (sub : List Int) (Am : Option Addr) (cm : Nat) (mask : List Int) (w : World)
    (hp : C8 w Ap perm) (hs : C8 w As sub) (hm : C8 w Am mask) (hr : Right perm sub mask) :
    Calls Try.prog 49 #[.agg #[.slice Ap perm.length cp, .slice As sub.length cs, .slice Am mask.length cm]] w fun e w' => ∃ a P S M cP cS cM, e = .returned (.iface 114 (.pointer (some ⟨a, 0, none⟩))) ∧ Blk w.heap.size w'.heap.size w' a P S M cP cS cM perm sub mask ∧ Below w.heap.size w w' := by
  have HP := Aside0.mk hp
  have HS := Aside0.mk hs
  have HM := Aside0.mk hm
  have HR := Aside0.mk hr
  clear hp hs hm hr
  go_enter Try.func49, Try.ntmps49
  have LN := Aside0.mk (show perm.length ≤ 140737488355328 ∧ sub.length ≤ 140737488355328 ∧ mask.length ≤ 140737488355328 by have := HR.out.pl; have := HR.out.sl; have := HR.out.m2; omega)
  go_wp2_with fail
  go_region_held3 (fun w' => w'.cell? ⟨w.heap.size, 0, none⟩ = some (.slice Ap perm.length cp) ∧ w'.cell? ⟨w.heap.size, 1, none⟩ = some (.slice As sub.length cs) ∧ w'.cell? ⟨w.heap.size, 2, none⟩ = some (.slice Am mask.length cm) ∧ Below w.heap.size w w' ∧ w.heap.size < w'.heap.size) ((refine ⟨?_, ?_, ?_, ?_, ?_⟩ <;> first | assumption | ((with_reducible refine cell_step ?_ hB); (focus (first | assumption | (simp [*]; done) | (go_keep; done)))) | (go_grown; done) | (go_keep; done) | (simp; omega))) (first | (refine appendNilS rfl (.tmp 7) 22 5 rfl Try.underlying22 infoB perm _ _ rfl rfl ?_ ?_ ?_; (focus (refine Kd.C_below HP.out ?_; (first | assumption | (go_grown; done)))); (focus (have := LN.out; omega)); intro v_ w1 hR hB; obtain ⟨A7, c7, e7, _, _⟩ := r8_reads hR; subst e7; have R7 := Aside0.mk hR; clear hR; (try (have n1 := Aside0.mk (Kd.R_below R10.out hB); clear R10; have R10 := n1; clear n1)); (try (have n1 := Aside0.mk (Kd.R_below R13.out hB); clear R13; have R13 := n1; clear n1)); have hB0 : Below w.heap.size w w1 := (by refine below_go ?_ ?_ hB; (first | assumption | (focus (go_grown; done))); (first | assumption | (focus (simp; done)) | (focus (simp; omega)) | omega)); have hZ0 : w.heap.size < w1.heap.size := (by refine lt_go ?_ hB; (first | assumption | (simp; done) | (simp [*]; done) | omega | (simp; omega)))) | (refine appendNilS rfl (.tmp 10) 22 5 rfl Try.underlying22 infoB sub _ _ rfl rfl ?_ ?_ ?_; (focus (refine Kd.C_below HS.out ?_; (first | assumption | (go_grown; done)))); (focus (have := LN.out; omega)); intro v_ w1 hR hB; obtain ⟨A10, c10, e10, _, _⟩ := r8_reads hR; subst e10; have R10 := Aside0.mk hR; clear hR; (try (have n1 := Aside0.mk (Kd.R_below R7.out hB); clear R7; have R7 := n1; clear n1)); (try (have n1 := Aside0.mk (Kd.R_below R13.out hB); clear R13; have R13 := n1; clear n1)); have hB0 : Below w.heap.size w w1 := (by refine below_go ?_ ?_ hB; (first | assumption | (focus (go_grown; done))); (first | assumption | (focus (simp; done)) | (focus (simp; omega)) | omega)); have hZ0 : w.heap.size < w1.heap.size := (by refine lt_go ?_ hB; (first | assumption | (simp; done) | (simp [*]; done) | omega | (simp; omega)))) | (refine appendNilS rfl (.tmp 13) 22 5 rfl Try.underlying22 infoB mask _ _ rfl rfl ?_ ?_ ?_; (focus (refine Kd.C_below HM.out ?_; (first | assumption | (go_grown; done)))); (focus (have := LN.out; omega)); intro v_ w1 hR hB; obtain ⟨A13, c13, e13, _, _⟩ := r8_reads hR; subst e13; have R13 := Aside0.mk hR; clear hR; (try (have n1 := Aside0.mk (Kd.R_below R7.out hB); clear R7; have R7 := n1; clear n1)); (try (have n1 := Aside0.mk (Kd.R_below R10.out hB); clear R10; have R10 := n1; clear n1)); have hB0 : Below w.heap.size w w1 := (by refine below_go ?_ ?_ hB; (first | assumption | (focus (go_grown; done))); (first | assumption | (focus (simp; done)) | (focus (simp; omega)) | omega)); have hZ0 : w.heap.size < w1.heap.size := (by refine lt_go ?_ hB; (first | assumption | (simp; done) | (simp [*]; done) | omega | (simp; omega)))))
  all_goals
    obtain ⟨W2, e2, hK⟩ := bk_new (a := w1.heap.size) (perm := perm) (sub := sub) (mask := mask) (cP := c7) (cS := c10) (cM := c13) (Kd.R_reads' R7.out).2.2 (Kd.R_reads' R10.out).2.2 (Kd.R_reads' R13.out).2.2 rfl
    have hB2 : Below w.heap.size w W2 := by rw [← e2]; exact hB0.alloc (Nat.le_of_lt hZ0) _
    have hlo : ∀ {A : Option Addr} {b : Nat} {l : List Int} {n c : Nat}, R8 5 w1 b (.slice A n c) l → w.heap.size ≤ b → ∀ ad, A = some ad → w.heap.size ≤ ad.block := fun h hb ad e => Nat.le_trans hb (Kd.R_base h ad.block (by rw [e]; rfl))
    have oP := hlo R7.out (by first | omega | (simp; done) | (simp; omega))
    have oS := hlo R10.out (by first | omega | (simp; done) | (simp; omega))
    have oM := hlo R13.out (by first | omega | (simp; done) | (simp; omega))
    have OO := Aside0.mk (And.intro oP (And.intro oS oM))
    have HK := Aside0.mk hK
    have B2 := Aside0.mk hB2
    have pS : W2.cell? ⟨w.heap.size, 1, none⟩ = some (.slice As sub.length cs) := by rw [← e2]; rename_i hh_; exact hh_.2.1
    rw [e2]
    have ga : w.heap.size < w1.heap.size := hZ0
    generalize w1.heap.size = a at *
    clear hlo oP oS oM hK hB2
    go_wp2_with fail
    go_loopw [21] (fun i wr => ∃ k : Nat, k ≤ sub.length ∧ i = .int .i64 (k : Int) ∧ Aside0 (Bk wr a A7 A10 A13 c7 c10 c13 perm sub mask k) ∧ Aside0 (Below w.heap.size w wr)) (fun i _ => sub.length - (intOf i).toNat)
    case atStart => exact ⟨0, Nat.zero_le _, rfl, HK, B2⟩
    case round =>
      clear HK B2 pS
      obtain ⟨k, hk, rfl, HR1, HT⟩ := hrel
      have sl := HR.out.sl
      by_cases hlt : k < sub.length
      · obtain ⟨as_, rfl, hx⟩ := Kd.at_int (Kd.C_below HS.out HT.out) (k : Int) (by omega) (by omega)
        rw [Int.toNat_natCast, rdn] at hx
        have hb := HR.out.bS k
        obtain ⟨v, ev⟩ : ∃ v, sub.getD k 0 = v := ⟨_, rfl⟩
        rw [ev] at hx hb
        obtain ⟨v0, v1⟩ := hb
        have v2 : v < 256 := by omega
        have v3 : v.toNat < 256 := by omega
        have hc := HR1.out.cb v.toNat v3
        have hf := HR1.out.fb v.toNat v3
        have k1 : IntKind.u8.wrap (k : Int) = (k : Int) := IntWalk.u8_in _ (by omega)
        have EV := Aside0.mk ev
        have SL := Aside0.mk sl
        clear ev sl
        go_wp2
        have sl := SL.out
        go_roundw
        case rel => exact ⟨k + 1, hlt, congrArg (Value.int .i64) ((wrap64_id (by omega) (by omega)).trans (by omega)), ⟨HR1.out.put (by rw [EV.out]) v3⟩, ⟨HT.out.setCell (Nat.le_of_lt ga) _⟩⟩
        case measure => rw [wrap64_id (by omega) (by omega)]; simp [intOf]; omega
      · go_wp2
        go_ret
        obtain rfl : k = sub.length := by omega
        have hB := HR1.out
        obtain ⟨oP, oS, oM⟩ := OO.out
        have hm1 := HR.out.m1
        have hpl := HR.out.pl
        rw [sl] at hB
        exact ⟨a, A7, A10, A13, c7, c10, c13, rfl, ⟨hB.c0, hB.c1, hB.c2, hB.cb, hB.rp, hB.rs, hB.rm, fun ad e => ⟨oP ad e, c8_lt hB.rp ad e (by omega)⟩, fun ad e => ⟨oS ad e, c8_lt hB.rs ad e (by omega)⟩, fun ad e => ⟨oM ad e, c8_lt hB.rm ad e (by omega)⟩, Nat.le_of_lt ga, World.block_lt_of_cell? _ _ hB.c0, Nat.le_refl _, HR.out⟩, HT.out⟩
end Go.Proofs.Ytkehjcppgpoobaa.Blk

/- impl's block cipher of plain data: Right. -/
set_option linter.unusedVariables false
set_option linter.unusedSimpArgs false
namespace Go.Proofs.Ytkehjcppgpoobaa.Blk
open Go.RowKit Go.Proofs.YtkehjcppgpoobaaW.PrintWords Go.Proofs.YtkehjcppgpoobaaW.PrintMore Go.Proofs.Ytkehjcppgpoobaa.Kit Go.Proofs.Ytkehjcppgpoobaa.Mix

set_option maxHeartbeats 1600000 in
set_option maxRecDepth 100000 in
theorem right_calls (Ap : Option Addr) (cp : Nat) (perm : List Int) (As : Option Addr) (cs : Nat) (sub : List Int) (Am : Option Addr) (cm m : Nat) (w : World)
    (hp : C8 w Ap perm) (hs : C8 w As sub) (h1 : 1 ≤ m) (h2 : m ≤ 32) (pl : perm.length = m) (sl : sub.length = 256) (rP : ∀ i, i < perm.length → 0 ≤ perm.getD i 0 ∧ perm.getD i 0 < perm.length) (nP : perm.Nodup) (rS : ∀ i, i < sub.length → 0 ≤ sub.getD i 0 ∧ sub.getD i 0 < sub.length) (nS : sub.Nodup) :
    Calls Try.prog 46 #[.agg #[.slice Ap m cp, .slice As 256 cs, .slice Am m cm]] w fun e w' => e = .returned (.bool true) ∧ Below w.heap.size w w' := by
  have HP := Aside0.mk hp
  have HS := Aside0.mk hs
  have HN := Aside0.mk (And.intro pl (And.intro sl (And.intro rP (And.intro nP (And.intro rS nS)))))
  have d1 : decide ((1 : Int) ≤ (m : Int)) = true := decide_eq_true (by omega)
  have d2 : decide ((m : Int) ≤ 32) = true := decide_eq_true (by omega)
  have d1' : decide (1 ≤ m) = true := decide_eq_true (by omega)
  have d2' : decide (m ≤ 32) = true := decide_eq_true (by omega)
  have M2 := Aside0.mk h2
  clear hp hs pl sl rP nP rS nS h1 h2
  go_enter Try.func46, Try.ntmps46
  go_wp2_with (first | (go_at_call 64; (with_reducible refine (permutation_calls (A := Ap) (l := perm) (Kd.C_alloc HP.out _) HN.out.1.symm (by rw [HN.out.1]; exact Nat.le_trans M2.out (by decide)) HN.out.2.2.1 HN.out.2.2.2.1).mono ?_); rintro e w2 ⟨rfl, hB⟩; have k1 := pw_cell_below hB (a := ⟨w.heap.size, 1, none⟩) (v := .slice As 256 cs) (by simp [go_sem]); have B2 := Aside0.mk (below_then (below_alloc (Below.refl w.heap.size w) _) (by simp) hB); clear hB) | (go_at_call 64; (with_reducible refine (permutation_calls (A := As) (l := sub) (Kd.C_below HS.out B2.out) HN.out.2.1.symm (by rw [HN.out.2.1]; decide) HN.out.2.2.2.2.1 HN.out.2.2.2.2.2).mono ?_); rintro e w3 ⟨rfl, hB⟩; have B3 := Aside0.mk (below_then B2.out (below_size B2.out) hB); clear hB))
  go_ret
  exact ⟨rfl, B3.out⟩
end Go.Proofs.Ytkehjcppgpoobaa.Blk

/- impl.own: new memory for bytes. -/
set_option linter.unusedVariables false
set_option linter.unusedSimpArgs false
namespace Go.Proofs.Ytkehjcppgpoobaa.Kit
open Go.RowKit Go.Proofs.YtkehjcppgpoobaaW.PrintWords Go.Proofs.YtkehjcppgpoobaaW.PrintMore

set_option maxHeartbeats 800000 in
set_option maxRecDepth 100000 in
theorem own_calls {A : Option Addr} {c n : Nat} {l : List Int} {w : World} (h : C8 w A l) (hn : n = l.length) (hl : l.length ≤ 140737488355328) :
    Calls Try.prog 47 #[.slice A n c] w fun e w' => ∃ v, e = .returned v ∧ R8 5 w' w.heap.size v l ∧ Below w.heap.size w w' := by
  subst hn
  have HR := Aside0.mk h
  clear h
  go_enter Try.func47, Try.ntmps47
  go_wp2_with ((with_reducible refine gate_dst (N := 4) rfl ?_); refine append8 w.heap.size (w0 := w) rfl (.const (.slice none 0 0)) (.tmp 3) 22 5 rfl Try.underlying22 infoB (.slice none 0 0) [] l _ _ rfl rfl rfl (Kd.R_nil _ _ _ _ _) HR.out (Below.refl _ _) (Nat.le_refl _) ?hl ?_; (case hl => simp; omega); intro v1 w1 hR hB _ _; rw [List.nil_append] at hR; have R1 := Aside0.mk hR; have B1 := Aside0.mk hB; clear hR hB)
  go_ret
  exact ⟨_, rfl, R1.out, B1.out⟩
end Go.Proofs.Ytkehjcppgpoobaa.Kit

/- impl.OcfbEncrypt and impl.OcfbDecrypt, walked. -/
set_option linter.unusedVariables false
set_option linter.unusedSimpArgs false
namespace Go.Proofs.Ytkehjcppgpoobaa.Ocf
open Go.RowKit Go.Proofs.YtkehjcppgpoobaaW.PrintWords Go.Proofs.YtkehjcppgpoobaaW.PrintMore Go.Proofs.Ytkehjcppgpoobaa.Kit Go.Proofs.Ytkehjcppgpoobaa.Mix Go.Proofs.Ytkehjcppgpoobaa.Blk

/-- A struct of three slices at block b. -/
structure Bx (w0 w : World) (b : Nat) (v0 v1 v2 : Value) : Prop where
  k0 : w.cell? ⟨b, 0, none⟩ = some v0
  k1 : w.cell? ⟨b, 1, none⟩ = some v1
  k2 : w.cell? ⟨b, 2, none⟩ = some v2
  bl : Below w0.heap.size w0 w
theorem Bx.below {w0 w w1 : World} {b : Nat} {v0 v1 v2 : Value} (h : Bx w0 w b v0 v1 v2) (hB : Below w.heap.size w w1) : Bx w0 w1 b v0 v1 v2 :=
  ⟨pw_cell_below hB h.k0, pw_cell_below hB h.k1, pw_cell_below hB h.k2, below_then h.bl (below_size h.bl) hB⟩
theorem Bx.new (w : World) (v0 v1 v2 : Value) (T : TypeId) : Bx w (w.alloc (.cells #[v0, v1, v2] T)) w.heap.size v0 v1 v2 :=
  ⟨by simp [go_sem], by simp [go_sem], by simp [go_sem], below_alloc (Below.refl _ _) _⟩
theorem right_k {Ap : Option Addr} {cp : Nat} {perm : List Int} {As : Option Addr} {cs : Nat} {sub : List Int} {Am : Option Addr} {cm : Nat} {mask : List Int} {w : World} (hp : C8 w Ap perm) (hs : C8 w As sub) (hr : Right perm sub mask) :
    Calls Try.prog 46 #[(.agg #[.slice Ap perm.length cp, .slice As sub.length cs, .slice Am mask.length cm])] w fun e w' => e = .returned (.bool true) ∧ Below w.heap.size w w' := by
  rw [hr.pl, hr.sl]
  exact right_calls Ap cp perm As cs sub Am cm mask.length w hp hs hr.m1 hr.m2 hr.pl hr.sl hr.rngP hr.nP hr.rngS hr.nS

set_option maxHeartbeats 3200000 in
set_option maxRecDepth 100000 in
theorem ienc_calls {Ap : Option Addr} {cp : Nat} {perm : List Int} {As : Option Addr} {cs : Nat} {sub : List Int} {Am : Option Addr} {cm : Nat} {mask : List Int} {w : World} (hp : C8 w Ap perm) (hs : C8 w As sub) (hm : C8 w Am mask) (hr : Right perm sub mask) (h2 : 2 ≤ mask.length)
    {Ar : Option Addr} {cr n : Nat} {R : List Int} (hR : C8 w Ar R) (hRB : Bytes R) (hRl : R.length = mask.length) (hn : n = R.length) (resync : Bool)
    {A : Option Addr} {c m : Nat} {ls : List (List Int)} (hl : Kd.C (Kd.slice 5 (Kd.int .u8)) w A m ls) (hlB : ∀ l, l ∈ ls → Bytes l) (hm1 : ls.length ≤ 100) (hlen : ∀ l, l ∈ ls → l.length ≤ 1000000) (hmn : m = ls.length) :
    Calls Try.prog 29 #[(.agg #[.slice Ap perm.length cp, .slice As sub.length cs, .slice Am mask.length cm]), .slice Ar n cr, .bool resync, .slice A m c] w fun e w' => ∃ v1 v2, e = .returned (.tuple #[v1, v2, .bool true]) ∧ Below w.heap.size w w' ∧
      ∀ st F, outN (enc perm sub mask) mask.length false (List.replicate mask.length 0, mask.length) (told R) = F → begun (enc perm sub mask) mask.length false resync F (told R) = st → R8 5 w' w.heap.size v1 F ∧ Kd.N (Kd.slice 5 (Kd.int .u8)) 22 w' w.heap.size (fun _ => True) v2 (outsN (enc perm sub mask) mask.length false st ls) := by
  subst hn
  subst hmn
  have HP := Aside0.mk hp
  have HS := Aside0.mk hs
  have HM := Aside0.mk hm
  have HR := Aside0.mk hr
  have HL := Aside0.mk hRl
  have HA := Aside0.mk (And.intro hR hRB)
  have HF := Aside0.mk (And.intro (Kd.C_F (Kd.heap_slice 5 (Kd.heap_int .u8)) hl) (And.intro hlB (And.intro hm1 hlen)))
  have d0 : ¬ (mask.length : Int) < 2 := by omega
  have d1 : ¬ mask.length < 2 := by omega
  have d2 : decide ((mask.length : Int) < 2) = false := decide_eq_false (by omega)
  have m2 := hr.m2
  rw [hRl]
  clear hp hs hm hr hR hRB hRl hl hlB hm1 hlen
  go_enter Try.func29, Try.ntmps29
  go_upto_region 1 with (fail)
  have n1 := Bx.new w (.slice Ap perm.length cp) (.slice As sub.length cs) (.slice Am mask.length cm) 39
  generalize w.alloc (.cells #[.slice Ap perm.length cp, .slice As sub.length cs, .slice Am mask.length cm] 39) = W0 at n1 ⊢
  generalize w.heap.size = bx at n1 ⊢
  have k0 := n1.k0
  have k1 := n1.k1
  have k2 := n1.k2
  have HX := Aside0.mk n1
  clear n1
  go_wp2_with (first | (go_at_call 46; (with_reducible refine (right_k (Kd.C_below HP.out HX.out.bl) (Kd.C_below HS.out HX.out.bl) HR.out).mono ?_); rintro e w1 ⟨rfl, hB⟩; have n1 := HX.out.below hB; clear k0 k1 k2 HX; have k0 := n1.k0; have k1 := n1.k1; have k2 := n1.k2; have HX := Aside0.mk n1; clear n1; clear hB) | (go_at_call 49; (with_reducible refine (make_calls Ap cp perm As cs sub Am cm mask _ (Kd.C_below HP.out HX.out.bl) (Kd.C_below HS.out HX.out.bl) (Kd.C_below HM.out HX.out.bl) HR.out).mono ?_); rintro e w2 ⟨a, P, S, M, cP, cS, cM, rfl, hK, hB⟩; have BK := Aside0.mk hK; have LO := Aside0.mk (below_size HX.out.bl); have n1 := HX.out.below hB; clear k0 k1 k2 HX; have k0 := n1.k0; have k1 := n1.k1; have k2 := n1.k2; have HX := Aside0.mk n1; clear n1; clear hB hK) | (go_at_call 51; (with_reducible refine (newE_calls BK.out h2 (Kd.C_below HA.out.1 HX.out.bl) HA.out.2 HL.out HL.out.symm resync).mono ?_); rintro e w3 ⟨x, f, g, rfl, hN⟩; have N3 := Aside0.mk (hN _ _ rfl rfl); have X2 := HX; clear hN k0 k1 k2 HX) | (go_at_call 47; (with_reducible refine (own_calls N3.out.len.2.2 N3.out.len.1 (by have := N3.out.len.1; omega)).mono ?_); rintro e w4 ⟨v1, rfl, hR1, hB1⟩; have R4 := Aside0.mk hR1; have N4 := Aside0.mk (N3.out.below hB1); have Z4 := Aside0.mk (And.intro (below_size hB1) (Kd.R_base hR1)); clear hR1 hB1) | (go_at_call 50; (with_reducible refine (streamedE_calls N4.out.st (below_size N4.out.bl) (Kd.F_mono (Kd.F_below HF.out.1 (below_then X2.out.bl (below_size X2.out.bl) N4.out.bl)) (fun k hk => And.intro (show k ≠ x from fun e => by have := N4.out.xh; have := below_size X2.out.bl; omega) (show k ≠ f from fun e => by have := N4.out.fh; have := below_size X2.out.bl; omega))) HF.out.2.1 rfl HF.out.2.2.1 HF.out.2.2.2).mono ?_); rintro e w5 ⟨v2, rfl, hN5, hT5⟩; have N5 := Aside0.mk hN5; have T5 := Aside0.mk hT5; clear hN5 hT5))
  go_ret3
  have z3 := N3.out.bl.size
  have z2 := below_size X2.out.bl
  have b4 := below_then X2.out.bl z2 N4.out.bl
  refine ⟨v1, v2, rfl, T5.out.below b4 (below_size b4) (fun k hk => by have := N4.out.xh; have := N4.out.fh; rcases hk with hk | hk <;> omega), fun st F e1 e2 => ?_⟩
  subst e1
  subst e2
  refine ⟨Kd.R_lower (T5.out.r8 R4.out (fun k hk hx => ?_)) (by omega), Kd.N_mono (Kd.N_lower N5.out (below_size b4)) (fun _ _ => trivial)⟩
  have q1 := Z4.out.2 k hk
  have q2 : x < w3.heap.size := World.block_lt_of_cell? w3 _ N3.out.st.c0
  have q3 : f < w3.heap.size := Kd.R_lt N3.out.st.rf f rfl
  rcases hx with hx | hx <;> omega

set_option maxHeartbeats 3200000 in
set_option maxRecDepth 100000 in
theorem idec_calls {Ap : Option Addr} {cp : Nat} {perm : List Int} {As : Option Addr} {cs : Nat} {sub : List Int} {Am : Option Addr} {cm : Nat} {mask : List Int} {w : World} (hp : C8 w Ap perm) (hs : C8 w As sub) (hm : C8 w Am mask) (hr : Right perm sub mask) (h2 : 2 ≤ mask.length)
    {Ar : Option Addr} {cr n : Nat} {R : List Int} (hR : C8 w Ar R) (hRB : Bytes R) (hRl : R.length = mask.length + 2) (hn : n = R.length) (resync : Bool)
    {A : Option Addr} {c m : Nat} {ls : List (List Int)} (hl : Kd.C (Kd.slice 5 (Kd.int .u8)) w A m ls) (hlB : ∀ l, l ∈ ls → Bytes l) (hm1 : ls.length ≤ 100) (hlen : ∀ l, l ∈ ls → l.length ≤ 1000000) (hmn : m = ls.length) :
    Calls Try.prog 25 #[(.agg #[.slice Ap perm.length cp, .slice As sub.length cs, .slice Am mask.length cm]), .slice Ar n cr, .bool resync, .slice A m c] w fun e w' => ∃ v1 v2, e = .returned (.tuple #[v1, v2, .bool true]) ∧ Below w.heap.size w w' ∧
      ∀ st F, outN (enc perm sub mask) mask.length true (List.replicate mask.length 0, mask.length) R = F → begun (enc perm sub mask) mask.length true resync R R = st → R8 5 w' w.heap.size v1 F ∧ Kd.N (Kd.slice 5 (Kd.int .u8)) 22 w' w.heap.size (fun _ => True) v2 (outsN (enc perm sub mask) mask.length true st ls) := by
  subst hn
  subst hmn
  have HP := Aside0.mk hp
  have HS := Aside0.mk hs
  have HM := Aside0.mk hm
  have HR := Aside0.mk hr
  have HL := Aside0.mk hRl
  have HA := Aside0.mk (And.intro hR hRB)
  have HF := Aside0.mk (And.intro (Kd.C_F (Kd.heap_slice 5 (Kd.heap_int .u8)) hl) (And.intro hlB (And.intro hm1 hlen)))
  have d0 : ¬ (mask.length : Int) < 2 := by omega
  have d1 : ¬ mask.length < 2 := by omega
  have d2 : decide ((mask.length : Int) < 2) = false := decide_eq_false (by omega)
  have m2 := hr.m2
  rw [hRl]
  clear hp hs hm hr hR hRB hRl hl hlB hm1 hlen
  go_enter Try.func25, Try.ntmps25
  go_upto_region 1 with (fail)
  have n1 := Bx.new w (.slice Ap perm.length cp) (.slice As sub.length cs) (.slice Am mask.length cm) 39
  generalize w.alloc (.cells #[.slice Ap perm.length cp, .slice As sub.length cs, .slice Am mask.length cm] 39) = W0 at n1 ⊢
  generalize w.heap.size = bx at n1 ⊢
  have k0 := n1.k0
  have k1 := n1.k1
  have k2 := n1.k2
  have HX := Aside0.mk n1
  clear n1
  go_wp2_with (first | (go_at_call 46; (with_reducible refine (right_k (Kd.C_below HP.out HX.out.bl) (Kd.C_below HS.out HX.out.bl) HR.out).mono ?_); rintro e w1 ⟨rfl, hB⟩; have n1 := HX.out.below hB; clear k0 k1 k2 HX; have k0 := n1.k0; have k1 := n1.k1; have k2 := n1.k2; have HX := Aside0.mk n1; clear n1; clear hB) | (go_at_call 47; (with_reducible refine (own_calls (l := R) (Kd.C_below HA.out.1 HX.out.bl) HL.out.symm (by rw [HL.out]; omega)).mono ?_); rintro e w4 ⟨v1, rfl, hR1, hB⟩; have Z0 := Aside0.mk (below_size HX.out.bl); obtain ⟨g0, c0, rfl, gb, gl, _⟩ := Kd.R_form hR1 (by rw [HL.out]; omega); rw [HL.out] at hR1 ⊢; have R4 := Aside0.mk hR1; have G4 := Aside0.mk (And.intro gb gl); have n1 := HX.out.below hB; clear k0 k1 k2 HX; have k0 := n1.k0; have k1 := n1.k1; have k2 := n1.k2; have HX := Aside0.mk n1; clear n1; clear hB hR1 gb gl) | (go_at_call 49; (with_reducible refine (make_calls Ap cp perm As cs sub Am cm mask _ (Kd.C_below HP.out HX.out.bl) (Kd.C_below HS.out HX.out.bl) (Kd.C_below HM.out HX.out.bl) HR.out).mono ?_); rintro e w2 ⟨a, P, S, M, cP, cS, cM, rfl, hK, hB⟩; have BK := Aside0.mk hK; have LO := Aside0.mk (below_size HX.out.bl); have n1 := HX.out.below hB; clear k0 k1 k2 HX; have k0 := n1.k0; have k1 := n1.k1; have k2 := n1.k2; have HX := Aside0.mk n1; clear n1; have R5 := Aside0.mk (Kd.R_below R4.out hB); clear hB hK R4) | (go_at_call 48; (with_reducible refine (newD_calls BK.out h2 R5.out HA.out.2 (.inr G4.out.2) resync).mono ?_); rintro e w6 ⟨x, f, rfl, xh, fh, hT6, hS⟩; have S6 := Aside0.mk (hS _ _ rfl rfl); have XF := Aside0.mk (And.intro xh (And.intro fh hT6)); have X2 := HX; clear hS xh fh hT6 k0 k1 k2 HX) | (go_at_call 50; (with_reducible refine (streamedD_calls S6.out.1 XF.out.2.2.size (Kd.F_mono (Kd.F_step (Kd.F_below HF.out.1 X2.out.bl) (fun k hk hlt => XF.out.2.2.block k hlt (fun e => by have := G4.out.1; have := Z0.out; omega))) (fun k hk => And.intro (show k ≠ x from fun e => by have := XF.out.1; have := below_size X2.out.bl; omega) (show k ≠ f from fun e => by have := XF.out.2.1; have := below_size X2.out.bl; omega))) HF.out.2.1 rfl HF.out.2.2.1 HF.out.2.2.2).mono ?_); rintro e w7 ⟨v2, rfl, hN5, hT5⟩; have N7 := Aside0.mk hN5; have T7 := Aside0.mk hT5; clear hN5 hT5))
  go_ret3
  have z2 := below_size X2.out.bl
  have q0 := Z0.out
  have q1 := G4.out.1
  have q4 := G4.out.2
  have z6 := XF.out.2.2.size
  have b6 : Below w.heap.size w w6 := XF.out.2.2.below X2.out.bl z2 (fun k e => by subst e; omega)
  refine ⟨_, v2, rfl, T7.out.below b6 (below_size b6) (fun k hk => by have := XF.out.1; have := XF.out.2.1; rcases hk with hk | hk <;> omega), fun st F e1 e2 => ?_⟩
  subst e1
  subst e2
  refine ⟨Kd.R_lower (T7.out.r8 S6.out.2 (fun k hk hx => ?_)) (by omega), Kd.N_mono (Kd.N_lower N7.out (below_size b6)) (fun _ _ => trivial)⟩
  have e : g0 = k := by simpa [Value.ownBlock] using hk
  have q2 := XF.out.1
  have q3 := XF.out.2.1
  have q5 := LO.out
  have q6 := BK.out.al
  have q7 := BK.out.ah
  rcases hx with hx | hx <;> omega

end Go.Proofs.Ytkehjcppgpoobaa.Ocf
