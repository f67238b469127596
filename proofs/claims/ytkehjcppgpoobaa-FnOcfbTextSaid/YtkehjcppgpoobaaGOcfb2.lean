/- Lemmas on the seat's program, in order (10 texts in one); the last text's theorems rest on them. -/
import Derived.Test.YtkehjcppgpoobaaGOcfb1
import Derived.Deep.Cut
/- ocfbEncrypter.XORKeyStream, walked. -/
set_option linter.unusedVariables false
set_option linter.unusedSimpArgs false
namespace Go.Proofs.Ytkehjcppgpoobaa.Ocf
open Go.RowKit Go.Proofs.YtkehjcppgpoobaaW.PrintWords Go.Proofs.YtkehjcppgpoobaaW.PrintMore Go.Proofs.Ytkehjcppgpoobaa.Kit Go.Proofs.Ytkehjcppgpoobaa.Mix Go.Proofs.Ytkehjcppgpoobaa.Blk

theorem nil_encI (a : Nat) (w : World) : (nilAhead 310 114 (.pointer (some ⟨a, 0, none⟩)) "Encrypt").run Try.prog w = .ok (some false) w := by kernel_rfl

set_option maxHeartbeats 3200000 in
set_option maxRecDepth 100000 in
theorem xorE_calls {lo hi base : Nat} {w : World} {x f a : Nat} {P S M : Option Addr} {cP cS cM : Nat} {perm sub mask : List Int} {s : List Int × Nat} (h : Str lo hi base w x f a P S M cP cS cM perm sub mask s.1 s.2)
    {g N : Nat} {xs : List Int} (hD : R8 5 w base (.slice (some ⟨g, 0, none⟩) N N) xs) (gx : g ≠ x) (gf : g ≠ f) (gh : hi ≤ g) {A : Option Addr} {c n : Nat} {l : List Int} (hl : C8 w A l) (hlB : Bytes l) (ho : Off (fun k => k = x ∨ k = f ∨ k = g) A l) (hN : l.length ≤ N) (hn : n = l.length) :
    Calls Try.prog 115 #[.pointer (some ⟨x, 0, none⟩), .slice (some ⟨g, 0, none⟩) N N, .slice A n c] w fun e w' => e = .returned (.tuple #[]) ∧
      Str lo hi base w' x f a P S M cP cS cM perm sub mask (stN (enc perm sub mask) mask.length false s l).1 (stN (enc perm sub mask) mask.length false s l).2 ∧ R8 5 w' base (.slice (some ⟨g, 0, none⟩) N N) (outN (enc perm sub mask) mask.length false s l ++ xs.drop l.length) ∧ Tch (fun k => k = x ∨ k = f ∨ k = g) w w' := by
  subst hn
  have hmax : l.length ≤ 9223372036854775807 := Kd.C_max hl
  have HD := Aside0.mk hD
  have HL := Aside0.mk hl
  have HB := Aside0.mk hlB
  have HO := Aside0.mk ho
  have H0 := Aside0.mk h
  clear h hD hl hlB ho
  go_enter Try.func115, Try.ntmps115
  go_wp2_with fail
  go_loopw [6] (fun i wr => ∃ k : Nat, k ≤ l.length ∧ i = .int .i64 (k : Int) ∧ Aside0 (∃ F u, stN (enc perm sub mask) mask.length false s (l.take k) = (F, u) ∧ Str lo hi base wr x f a P S M cP cS cM perm sub mask F u) ∧ Aside0 (R8 5 wr base (.slice (some ⟨g, 0, none⟩) N N) (outN (enc perm sub mask) mask.length false s (l.take k) ++ xs.drop k)) ∧ Aside0 (Tch (fun k => k = x ∨ k = f ∨ k = g) w wr)) (fun i _ => l.length - (intOf i).toNat)
  case atStart => exact ⟨0, Nat.zero_le _, rfl, ⟨s.1, s.2, rfl, H0.out⟩, ⟨HD.out⟩, ⟨Tch.refl _ _⟩⟩
  case round =>
    clear H0 HD
    obtain ⟨k, hk, rfl, HS, HR, HT⟩ := hrel
    by_cases hlt : k < l.length
    · obtain ⟨F, u, es, hs⟩ := HS.out
      have c0 := hs.c0
      have c1 := hs.c1
      have c2 := hs.c2
      have z2 := hs.z2
      have ES := Aside0.mk es
      have H1 := Aside0.mk hs
      clear es hs HS
      by_cases hu : u = mask.length
      ·
        have ni := nil_encI a
        have hu2 : ((u : Int) == (mask.length : Int)) = true := beq_iff_eq.2 (by omega)
        go_wp2_with fail
        go_quiet (fail)
        go_wp2_with fail
        have hBq : Below wr.heap.size wr (wr.drewN nq) := pw_below_drewN (Below.refl _ _) nq
        have H2 := Aside0.mk (H1.out.below hBq)
        have HR2 := Aside0.mk (Kd.R_below HR.out hBq)
        have HT2 := Aside0.mk (HT.out.trans (Tch.of_below hBq))
        clear c0 c1 c2 z2 H1 HR HT
        generalize wr.drewN nq = W at H2 HR2 HT2 ⊢
        have c0 := H2.out.c0
        have c1 := H2.out.c1
        go_still_tail 14, (by kernel_rfl)
        change wpList _ _ _ _ _ W.drew
        have H3 := Aside0.mk (H2.out.below (below_drew (Below.refl _ _)))
        have HR3 := Aside0.mk (Kd.R_drew HR2.out)
        have HT3 := Aside0.mk HT2.out.drew
        clear c0 c1 H2 HR2 HT2
        generalize W.drew = W2 at H3 HR3 HT3 ⊢
        go_wp2_with (go_at_call 114; (with_reducible refine (encrypt_calls (x := F) H3.out.blk (Kd.R_reads' H3.out.rf).2.2 (by rw [H3.out.len]; exact Nat.le_refl _) H3.out.bF H3.out.rf (Nat.le_of_eq (Nat.zero_add _)) (Nat.le_refl _) (Nat.le_refl _) ?hbs H3.out.len.symm).mono ?_); (case hbs => exact Nat.le_trans (Kd.R_base H3.out.rf f rfl) (Nat.le_of_lt (Kd.R_lt H3.out.rf f rfl))); rintro e W3 ⟨rfl, hR, hT⟩; have H4 := Aside0.mk (H3.out.enced hT hR); have HR4 := Aside0.mk (hT.r8 HR3.out (fun k e => by simp [Value.ownBlock] at e; subst e; exact gf)); have HT4 := Aside0.mk (HT3.out.trans (hT.mono (fun k e => .inr (.inl e)))); clear H3 HR3 HT3 hR hT; have c2 := H4.out.c2; have z2 := H4.out.z2)
        have H5 := Aside0.mk (H4.out.used 0 (Nat.zero_le _))
        have HR5 := Aside0.mk (Tch.r8 ((Tch.refl (fun j => j = x) W3).setCell (p := ⟨x, 2, none⟩) (fun _ => rfl) (.int .i64 0)) HR4.out (fun j e => by simp [Value.ownBlock] at e; subst e; exact gx))
        have HT5 := Aside0.mk (HT4.out.setCell (p := ⟨x, 2, none⟩) (fun _ => .inl rfl) (.int .i64 0))
        clear H4 HR4 HT4 c2 z2
        generalize W3.setCell ⟨x, 2, none⟩ (.int .i64 0) = W5 at H5 HR5 HT5 ⊢
        obtain ⟨F', u', UU, h6⟩ : ∃ F' u', (fre (enc perm sub mask) mask.length (F, u) = F' ∧ usd mask.length (F, u) = u' ∧ u' < mask.length) ∧ Str lo hi base W5 x f a P S M cP cS cM perm sub mask F' u' := ⟨_, _, ⟨if_pos hu, if_pos hu, by have := H5.out.blk.rt.m1; omega⟩, H5.out⟩
        have H6 := Aside0.mk h6
        clear h6 H5
        have HU := Aside0.mk UU
        obtain ⟨_, _, u1⟩ := UU
        have u2 : (u' : Int) < (mask.length : Int) := by omega
        have c1 := H6.out.c1
        have c2 := H6.out.c2
        obtain ⟨fy, fz⟩ := Kd.R_celln (0 : Int) (h1 := fun _ => rfl) (enc := Value.int .u8) H6.out.rf (u' : Int) (by omega) (by omega)
        have rs : rdOf 0 F' (u' : Int) = F'.getD u' 0 := by unfold rdOf; rw [Int.toNat_natCast]
        rw [Int.toNat_natCast, rs] at fy
        rw [Int.toNat_natCast] at fz
        obtain ⟨ad, rfl, hx⟩ := Kd.at_int (HT5.out.c8 HL.out HO.out) (k : Int) (by omega) (by omega)
        rw [Int.toNat_natCast, rdn] at hx
        have hb := HB.out k
        have hq := H6.out.bF u'
        obtain ⟨b, eb⟩ : ∃ b, l.getD k 0 = b := ⟨_, rfl⟩
        obtain ⟨q, eq⟩ : ∃ q, F'.getD u' 0 = q := ⟨_, rfl⟩
        rw [eb] at hx hb
        rw [eq] at fy hq
        have hv := xr_range hq.1 hq.2 hb.1 hb.2
        have EB := Aside0.mk (And.intro eb eq)
        have VV := Aside0.mk hv
        clear eb eq rs hv hb hq
        go_still_tail 16, (by kernel_rfl)
        change wpList _ _ _ _ _ W5.drew
        go_wp2_with fail
        have H7 := Aside0.mk ((H6.out.below (below_drew (Below.refl _ _))).put u' VV.out.1 VV.out.2)
        have hTp : Tch (fun j => j = f) W5 (W5.drew.setCell ⟨f, u', none⟩ (.int .u8 (xr q b))) := (Tch.refl (fun j => j = f) W5).drew.setCell (p := ⟨f, u', none⟩) (fun _ => rfl) _
        have HR7 := Aside0.mk (hTp.r8 HR5.out (fun j e => by simp [Value.ownBlock] at e; subst e; exact gf))
        have HT7 := Aside0.mk (HT5.out.trans (hTp.mono (fun j e => .inr (.inl e))))
        clear hTp HR5 HT5 c1 c2 fy fz hx
        change Code.wp _ _ _ _ (W5.drew.setCell ⟨f, u', none⟩ (.int .u8 (xr q b)))
        generalize W5.drew.setCell ⟨f, u', none⟩ (.int .u8 (xr q b)) = W6 at H7 HR7 HT7 ⊢
        have c1 := H7.out.c1
        have c2 := H7.out.c2
        have z2 := H7.out.z2
        obtain ⟨fy, fz⟩ := Kd.R_celln (0 : Int) (h1 := fun _ => rfl) (enc := Value.int .u8) H7.out.rf (u' : Int) (by omega) (by omega)
        have rs : rdOf 0 (F'.set u' (xr q b)) (u' : Int) = xr q b := by unfold rdOf; rw [Int.toNat_natCast, List.getD_eq_getElem?_getD, List.getElem?_set_self (by have := H6.out.len; omega)]; rfl
        rw [Int.toNat_natCast, rs] at fy
        clear fz
        have gl := (Kd.R_reads' HR7.out).1
        obtain ⟨gy, gz⟩ := Kd.R_celln (0 : Int) (h1 := fun _ => rfl) (enc := Value.int .u8) HR7.out (k : Int) (by omega) (by omega)
        rw [Int.toNat_natCast] at gy gz
        have kN : (k : Int) < (N : Int) := by omega
        clear rs gl
        go_still_tail 13, (by kernel_rfl)
        change wpList _ _ _ _ _ W6.drew
        go_wp2_with fail
        have m32 := H7.out.blk.rt.m2
        have hw : wrap64 ((u' : Int) + 1) = ((u' + 1 : Nat) : Int) := (wrap64_id (by omega) (by omega)).trans (by omega)
        rw [hw]
        have hTg : Tch (fun j => j = g) W6 (W6.drew.setCell ⟨g, k, none⟩ (.int .u8 (xr q b))) := (Tch.refl (fun j => j = g) W6).drew.setCell (p := ⟨g, k, none⟩) (fun _ => rfl) _
        have H8 := (H7.out.kept hTg (fun j e => .inl (by omega)) (fun e => gx e.symm) (fun e => gf e.symm)).used (u' + 1) (by omega)
        have HR8 := (Kd.R_putg (Kd.R_drew HR7.out) (k : Int) (xr q b)).1
        rw [Int.toNat_natCast] at HR8
        have hTx : Tch (fun j => j = x) (W6.drew.setCell ⟨g, k, none⟩ (.int .u8 (xr q b))) ((W6.drew.setCell ⟨g, k, none⟩ (.int .u8 (xr q b))).setCell ⟨x, 2, none⟩ (.int .i64 ((u' + 1 : Nat) : Int))) := (Tch.refl (fun j => j = x) _).setCell (p := ⟨x, 2, none⟩) (fun _ => rfl) _
        obtain ⟨eb, eq⟩ := EB.out
        obtain ⟨ef, eu, _⟩ := HU.out
        have e1 : out1 (enc perm sub mask) mask.length (F, u) b = xr q b := by rw [out1, ef, eu, eq]
        have e2 : stN (enc perm sub mask) mask.length false s (l.take (k + 1)) = (F'.set u' (xr q b), u' + 1) := by
          rw [stN_take _ _ _ _ _ _ hlt, ES.out, eb, st1, e1, ef, eu]; rfl
        have e3 : (outN (enc perm sub mask) mask.length false s (l.take k) ++ xs.drop k).set k (xr q b) = outN (enc perm sub mask) mask.length false s (l.take (k + 1)) ++ xs.drop (k + 1) := by
          rw [outN_take _ _ _ _ _ _ hlt, ES.out, eb, e1, List.append_assoc]
          have lo' : (outN (enc perm sub mask) mask.length false s (l.take k)).length = k := by rw [outN_length, List.length_take]; omega
          rw [List.set_append_right _ _ (by omega), lo', Nat.sub_self]
          congr 1
          have hx2 := (Kd.R_reads' HR7.out).1
          rw [List.length_append, lo', List.length_drop] at hx2
          rw [List.drop_eq_getElem_cons (show k < xs.length by omega)]
          rfl
        rw [e3] at HR8
        exact ⟨⟨k + 1, hlt, by go_num, ⟨_, _, e2, H8⟩, ⟨hTx.r8 HR8 (fun j e => by simp [Value.ownBlock] at e; subst e; exact gx)⟩, ⟨(HT7.out.trans (hTg.mono (fun j e => .inr (.inr e)))).trans (hTx.mono (fun j e => .inl e))⟩⟩, by simp [intOf]; omega⟩
      ·
        have hu2 : ((u : Int) == (mask.length : Int)) = false := beq_eq_false_iff_ne.2 (by omega)
        go_wp2_with fail
        go_quiet (fail)
        go_wp2_with fail
        have hBq : Below wr.heap.size wr (wr.drewN nq) := pw_below_drewN (Below.refl _ _) nq
        have H5 := Aside0.mk (H1.out.below hBq)
        have HR5 := Aside0.mk (Kd.R_below HR.out hBq)
        have HT5 := Aside0.mk (HT.out.trans (Tch.of_below hBq))
        clear c0 c1 c2 z2 H1 HR HT
        generalize wr.drewN nq = W5 at H5 HR5 HT5 ⊢
        obtain ⟨F', u', UU, h6⟩ : ∃ F' u', (fre (enc perm sub mask) mask.length (F, u) = F' ∧ usd mask.length (F, u) = u' ∧ u' < mask.length) ∧ Str lo hi base W5 x f a P S M cP cS cM perm sub mask F' u' := ⟨_, _, ⟨if_neg hu, if_neg hu, by have := H5.out.un; show u < _; omega⟩, H5.out⟩
        have H6 := Aside0.mk h6
        clear h6 H5
        have HU := Aside0.mk UU
        obtain ⟨_, _, u1⟩ := UU
        have u2 : (u' : Int) < (mask.length : Int) := by omega
        have c1 := H6.out.c1
        have c2 := H6.out.c2
        obtain ⟨fy, fz⟩ := Kd.R_celln (0 : Int) (h1 := fun _ => rfl) (enc := Value.int .u8) H6.out.rf (u' : Int) (by omega) (by omega)
        have rs : rdOf 0 F' (u' : Int) = F'.getD u' 0 := by unfold rdOf; rw [Int.toNat_natCast]
        rw [Int.toNat_natCast, rs] at fy
        rw [Int.toNat_natCast] at fz
        obtain ⟨ad, rfl, hx⟩ := Kd.at_int (HT5.out.c8 HL.out HO.out) (k : Int) (by omega) (by omega)
        rw [Int.toNat_natCast, rdn] at hx
        have hb := HB.out k
        have hq := H6.out.bF u'
        obtain ⟨b, eb⟩ : ∃ b, l.getD k 0 = b := ⟨_, rfl⟩
        obtain ⟨q, eq⟩ : ∃ q, F'.getD u' 0 = q := ⟨_, rfl⟩
        rw [eb] at hx hb
        rw [eq] at fy hq
        have hv := xr_range hq.1 hq.2 hb.1 hb.2
        have EB := Aside0.mk (And.intro eb eq)
        have VV := Aside0.mk hv
        clear eb eq rs hv hb hq
        go_still_tail 16, (by kernel_rfl)
        change wpList _ _ _ _ _ W5.drew
        go_wp2_with fail
        have H7 := Aside0.mk ((H6.out.below (below_drew (Below.refl _ _))).put u' VV.out.1 VV.out.2)
        have hTp : Tch (fun j => j = f) W5 (W5.drew.setCell ⟨f, u', none⟩ (.int .u8 (xr q b))) := (Tch.refl (fun j => j = f) W5).drew.setCell (p := ⟨f, u', none⟩) (fun _ => rfl) _
        have HR7 := Aside0.mk (hTp.r8 HR5.out (fun j e => by simp [Value.ownBlock] at e; subst e; exact gf))
        have HT7 := Aside0.mk (HT5.out.trans (hTp.mono (fun j e => .inr (.inl e))))
        clear hTp HR5 HT5 c1 c2 fy fz hx
        change Code.wp _ _ _ _ (W5.drew.setCell ⟨f, u', none⟩ (.int .u8 (xr q b)))
        generalize W5.drew.setCell ⟨f, u', none⟩ (.int .u8 (xr q b)) = W6 at H7 HR7 HT7 ⊢
        have c1 := H7.out.c1
        have c2 := H7.out.c2
        have z2 := H7.out.z2
        obtain ⟨fy, fz⟩ := Kd.R_celln (0 : Int) (h1 := fun _ => rfl) (enc := Value.int .u8) H7.out.rf (u' : Int) (by omega) (by omega)
        have rs : rdOf 0 (F'.set u' (xr q b)) (u' : Int) = xr q b := by unfold rdOf; rw [Int.toNat_natCast, List.getD_eq_getElem?_getD, List.getElem?_set_self (by have := H6.out.len; omega)]; rfl
        rw [Int.toNat_natCast, rs] at fy
        clear fz
        have gl := (Kd.R_reads' HR7.out).1
        obtain ⟨gy, gz⟩ := Kd.R_celln (0 : Int) (h1 := fun _ => rfl) (enc := Value.int .u8) HR7.out (k : Int) (by omega) (by omega)
        rw [Int.toNat_natCast] at gy gz
        have kN : (k : Int) < (N : Int) := by omega
        clear rs gl
        go_still_tail 13, (by kernel_rfl)
        change wpList _ _ _ _ _ W6.drew
        go_wp2_with fail
        have m32 := H7.out.blk.rt.m2
        have hw : wrap64 ((u' : Int) + 1) = ((u' + 1 : Nat) : Int) := (wrap64_id (by omega) (by omega)).trans (by omega)
        rw [hw]
        have hTg : Tch (fun j => j = g) W6 (W6.drew.setCell ⟨g, k, none⟩ (.int .u8 (xr q b))) := (Tch.refl (fun j => j = g) W6).drew.setCell (p := ⟨g, k, none⟩) (fun _ => rfl) _
        have H8 := (H7.out.kept hTg (fun j e => .inl (by omega)) (fun e => gx e.symm) (fun e => gf e.symm)).used (u' + 1) (by omega)
        have HR8 := (Kd.R_putg (Kd.R_drew HR7.out) (k : Int) (xr q b)).1
        rw [Int.toNat_natCast] at HR8
        have hTx : Tch (fun j => j = x) (W6.drew.setCell ⟨g, k, none⟩ (.int .u8 (xr q b))) ((W6.drew.setCell ⟨g, k, none⟩ (.int .u8 (xr q b))).setCell ⟨x, 2, none⟩ (.int .i64 ((u' + 1 : Nat) : Int))) := (Tch.refl (fun j => j = x) _).setCell (p := ⟨x, 2, none⟩) (fun _ => rfl) _
        obtain ⟨eb, eq⟩ := EB.out
        obtain ⟨ef, eu, _⟩ := HU.out
        have e1 : out1 (enc perm sub mask) mask.length (F, u) b = xr q b := by rw [out1, ef, eu, eq]
        have e2 : stN (enc perm sub mask) mask.length false s (l.take (k + 1)) = (F'.set u' (xr q b), u' + 1) := by
          rw [stN_take _ _ _ _ _ _ hlt, ES.out, eb, st1, e1, ef, eu]; rfl
        have e3 : (outN (enc perm sub mask) mask.length false s (l.take k) ++ xs.drop k).set k (xr q b) = outN (enc perm sub mask) mask.length false s (l.take (k + 1)) ++ xs.drop (k + 1) := by
          rw [outN_take _ _ _ _ _ _ hlt, ES.out, eb, e1, List.append_assoc]
          have lo' : (outN (enc perm sub mask) mask.length false s (l.take k)).length = k := by rw [outN_length, List.length_take]; omega
          rw [List.set_append_right _ _ (by omega), lo', Nat.sub_self]
          congr 1
          have hx2 := (Kd.R_reads' HR7.out).1
          rw [List.length_append, lo', List.length_drop] at hx2
          rw [List.drop_eq_getElem_cons (show k < xs.length by omega)]
          rfl
        rw [e3] at HR8
        exact ⟨⟨k + 1, hlt, by go_num, ⟨_, _, e2, H8⟩, ⟨hTx.r8 HR8 (fun j e => by simp [Value.ownBlock] at e; subst e; exact gx)⟩, ⟨(HT7.out.trans (hTg.mono (fun j e => .inr (.inr e)))).trans (hTx.mono (fun j e => .inl e))⟩⟩, by simp [intOf]; omega⟩
    · go_wp2
      go_end0
      obtain rfl : k = l.length := by omega
      rw [List.take_length] at HS HR
      obtain ⟨F, u, es, hs⟩ := HS.out
      rw [es]
      exact ⟨rfl, hs, HR.out, HT.out⟩
end Go.Proofs.Ytkehjcppgpoobaa.Ocf

/- ocfbDecrypter.XORKeyStream, walked. -/
set_option linter.unusedVariables false
set_option linter.unusedSimpArgs false
namespace Go.Proofs.Ytkehjcppgpoobaa.Ocf
open Go.RowKit Go.Proofs.YtkehjcppgpoobaaW.PrintWords Go.Proofs.YtkehjcppgpoobaaW.PrintMore Go.Proofs.Ytkehjcppgpoobaa.Kit Go.Proofs.Ytkehjcppgpoobaa.Mix Go.Proofs.Ytkehjcppgpoobaa.Blk

set_option maxHeartbeats 3200000 in
set_option maxRecDepth 100000 in
theorem xorD_calls {lo hi base : Nat} {w : World} {x f a : Nat} {P S M : Option Addr} {cP cS cM : Nat} {perm sub mask : List Int} {s : List Int × Nat} (h : Str lo hi base w x f a P S M cP cS cM perm sub mask s.1 s.2)
    {g N : Nat} {xs : List Int} (hD : R8 5 w base (.slice (some ⟨g, 0, none⟩) N N) xs) (gx : g ≠ x) (gf : g ≠ f) (gh : hi ≤ g) {A : Option Addr} {c n : Nat} {l : List Int} (hl : C8 w A l) (hlB : Bytes l) (ho : Off (fun k => k = x ∨ k = f ∨ k = g) A l) (hN : l.length ≤ N) (hn : n = l.length) :
    Calls Try.prog 111 #[.pointer (some ⟨x, 0, none⟩), .slice (some ⟨g, 0, none⟩) N N, .slice A n c] w fun e w' => e = .returned (.tuple #[]) ∧
      Str lo hi base w' x f a P S M cP cS cM perm sub mask (stN (enc perm sub mask) mask.length true s l).1 (stN (enc perm sub mask) mask.length true s l).2 ∧ R8 5 w' base (.slice (some ⟨g, 0, none⟩) N N) (outN (enc perm sub mask) mask.length true s l ++ xs.drop l.length) ∧ Tch (fun k => k = x ∨ k = f ∨ k = g) w w' := by
  subst hn
  have hmax : l.length ≤ 9223372036854775807 := Kd.C_max hl
  have HD := Aside0.mk hD
  have HL := Aside0.mk hl
  have HB := Aside0.mk hlB
  have HO := Aside0.mk ho
  have H0 := Aside0.mk h
  clear h hD hl hlB ho
  go_enter Try.func111, Try.ntmps111
  go_wp2_with fail
  go_loopw [6] (fun i wr => ∃ k : Nat, k ≤ l.length ∧ i = .int .i64 (k : Int) ∧ Aside0 (∃ F u, stN (enc perm sub mask) mask.length true s (l.take k) = (F, u) ∧ Str lo hi base wr x f a P S M cP cS cM perm sub mask F u) ∧ Aside0 (R8 5 wr base (.slice (some ⟨g, 0, none⟩) N N) (outN (enc perm sub mask) mask.length true s (l.take k) ++ xs.drop k)) ∧ Aside0 (Tch (fun k => k = x ∨ k = f ∨ k = g) w wr)) (fun i _ => l.length - (intOf i).toNat)
  case atStart => exact ⟨0, Nat.zero_le _, rfl, ⟨s.1, s.2, rfl, H0.out⟩, ⟨HD.out⟩, ⟨Tch.refl _ _⟩⟩
  case round =>
    clear H0 HD
    obtain ⟨k, hk, rfl, HS, HR, HT⟩ := hrel
    by_cases hlt : k < l.length
    · obtain ⟨F, u, es, hs⟩ := HS.out
      have c0 := hs.c0
      have c1 := hs.c1
      have c2 := hs.c2
      have z2 := hs.z2
      have ES := Aside0.mk es
      have H1 := Aside0.mk hs
      clear es hs HS
      by_cases hu : u = mask.length
      ·
        have ni := nil_encI a
        have hu2 : ((u : Int) == (mask.length : Int)) = true := beq_iff_eq.2 (by omega)
        go_wp2_with fail
        go_quiet (fail)
        go_wp2_with fail
        have hBq : Below wr.heap.size wr (wr.drewN nq) := pw_below_drewN (Below.refl _ _) nq
        have H2 := Aside0.mk (H1.out.below hBq)
        have HR2 := Aside0.mk (Kd.R_below HR.out hBq)
        have HT2 := Aside0.mk (HT.out.trans (Tch.of_below hBq))
        clear c0 c1 c2 z2 H1 HR HT
        generalize wr.drewN nq = W at H2 HR2 HT2 ⊢
        have c0 := H2.out.c0
        have c1 := H2.out.c1
        go_still_tail 14, (by kernel_rfl)
        change wpList _ _ _ _ _ W.drew
        have H3 := Aside0.mk (H2.out.below (below_drew (Below.refl _ _)))
        have HR3 := Aside0.mk (Kd.R_drew HR2.out)
        have HT3 := Aside0.mk HT2.out.drew
        clear c0 c1 H2 HR2 HT2
        generalize W.drew = W2 at H3 HR3 HT3 ⊢
        go_upto_region 6 with (go_at_call 114; (with_reducible refine (encrypt_calls (x := F) H3.out.blk (Kd.R_reads' H3.out.rf).2.2 (by rw [H3.out.len]; exact Nat.le_refl _) H3.out.bF H3.out.rf (Nat.le_of_eq (Nat.zero_add _)) (Nat.le_refl _) (Nat.le_refl _) ?hbs H3.out.len.symm).mono ?_); (case hbs => exact Nat.le_trans (Kd.R_base H3.out.rf f rfl) (Nat.le_of_lt (Kd.R_lt H3.out.rf f rfl))); rintro e W3 ⟨rfl, hR, hT⟩; have H4 := Aside0.mk (H3.out.enced hT hR); have HR4 := Aside0.mk (hT.r8 HR3.out (fun k e => by simp [Value.ownBlock] at e; subst e; exact gf)); have HT4 := Aside0.mk (HT3.out.trans (hT.mono (fun k e => .inr (.inl e)))); clear H3 HR3 HT3 hR hT; have c2 := H4.out.c2; have z2 := H4.out.z2)
        have H5 := Aside0.mk (H4.out.used 0 (Nat.zero_le _))
        have HR5 := Aside0.mk (Tch.r8 ((Tch.refl (fun j => j = x) W3).setCell (p := ⟨x, 2, none⟩) (fun _ => rfl) (.int .i64 0)) HR4.out (fun j e => by simp [Value.ownBlock] at e; subst e; exact gx))
        have HT5 := Aside0.mk (HT4.out.setCell (p := ⟨x, 2, none⟩) (fun _ => .inl rfl) (.int .i64 0))
        clear H4 HR4 HT4 c2 z2
        generalize W3.setCell ⟨x, 2, none⟩ (.int .i64 0) = W5 at H5 HR5 HT5 ⊢
        obtain ⟨F', u', UU, h6⟩ : ∃ F' u', (fre (enc perm sub mask) mask.length (F, u) = F' ∧ usd mask.length (F, u) = u' ∧ u' < mask.length) ∧ Str lo hi base W5 x f a P S M cP cS cM perm sub mask F' u' := ⟨_, _, ⟨if_pos hu, if_pos hu, by have := H5.out.blk.rt.m1; omega⟩, H5.out⟩
        have H6 := Aside0.mk h6
        clear h6 H5
        have HU := Aside0.mk UU
        obtain ⟨_, _, u1⟩ := UU
        have u2 : (u' : Int) < (mask.length : Int) := by omega
        have c1 := H6.out.c1
        have c2 := H6.out.c2
        obtain ⟨fy, fz⟩ := Kd.R_celln (0 : Int) (h1 := fun _ => rfl) (enc := Value.int .u8) H6.out.rf (u' : Int) (by omega) (by omega)
        have rs : rdOf 0 F' (u' : Int) = F'.getD u' 0 := by unfold rdOf; rw [Int.toNat_natCast]
        rw [Int.toNat_natCast, rs] at fy
        clear fz
        have gl := (Kd.R_reads' HR5.out).1
        have HXL := Aside0.mk (show (outN (enc perm sub mask) mask.length true s (l.take k) ++ xs.drop k).length = N from gl.symm)
        obtain ⟨gy, gz⟩ := Kd.R_celln (0 : Int) (h1 := fun _ => rfl) (enc := Value.int .u8) HR5.out (k : Int) (by omega) (by omega)
        rw [Int.toNat_natCast] at gy gz
        have kN : (k : Int) < (N : Int) := by omega
        obtain ⟨ad, rfl, hx⟩ := Kd.at_int (HT5.out.c8 HL.out HO.out) (k : Int) (by omega) (by omega)
        rw [Int.toNat_natCast, rdn] at hx
        have hb := HB.out k
        have hq := H6.out.bF u'
        obtain ⟨b, eb⟩ : ∃ b, l.getD k 0 = b := ⟨_, rfl⟩
        obtain ⟨q, eq⟩ : ∃ q, F'.getD u' 0 = q := ⟨_, rfl⟩
        rw [eb] at hx hb
        rw [eq] at fy hq
        have EB := Aside0.mk (And.intro eb eq)
        have BB := Aside0.mk hb
        clear eb eq rs hb hq gl
        go_wp2_with fail
        go_still_tail 18, (by kernel_rfl)
        change wpList _ _ _ _ _ W5.drew
        go_wp2_with fail
        have hTg : Tch (fun j => j = g) W5 (W5.drew.setCell ⟨g, k, none⟩ (.int .u8 (xr q b))) := (Tch.refl (fun j => j = g) W5).drew.setCell (p := ⟨g, k, none⟩) (fun _ => rfl) _
        have H7 := Aside0.mk (H6.out.kept hTg (fun j e => .inl (by omega)) (fun e => gx e.symm) (fun e => gf e.symm))
        have HR7 := (Kd.R_putg (Kd.R_drew HR5.out) (k : Int) (xr q b)).1
        rw [Int.toNat_natCast] at HR7
        have HR7 := Aside0.mk HR7
        have HT7 := Aside0.mk (HT5.out.trans (hTg.mono (fun j e => .inr (.inr e))))
        clear hTg c1 c2 fy gy gz hx kN
        change Code.wp _ _ _ _ (W5.drew.setCell ⟨g, k, none⟩ (.int .u8 (xr q b)))
        generalize W5.drew.setCell ⟨g, k, none⟩ (.int .u8 (xr q b)) = W6 at H7 HR7 HT7 ⊢
        have c1 := H7.out.c1
        have c2 := H7.out.c2
        have z2 := H7.out.z2
        have xf := H7.out.xf
        have xf2 := xf.symm
        obtain ⟨fy, fz⟩ := Kd.R_celln (0 : Int) (h1 := fun _ => rfl) (enc := Value.int .u8) H7.out.rf (u' : Int) (by omega) (by omega)
        rw [Int.toNat_natCast] at fy fz
        go_still_tail 10, (by kernel_rfl)
        change wpList _ _ _ _ _ W6.drew
        go_wp2_with fail
        have m32 := H7.out.blk.rt.m2
        have hw : wrap64 ((u' : Int) + 1) = ((u' + 1 : Nat) : Int) := (wrap64_id (by omega) (by omega)).trans (by omega)
        rw [hw]
        have hTf : Tch (fun j => j = f) W6 (W6.drew.setCell ⟨f, u', none⟩ (.int .u8 b)) := (Tch.refl (fun j => j = f) W6).drew.setCell (p := ⟨f, u', none⟩) (fun _ => rfl) _
        have H8 := ((H7.out.below (below_drew (Below.refl _ _))).put u' BB.out.1 BB.out.2).used (u' + 1) (by omega)
        have HR8 := hTf.r8 HR7.out (fun j e => by simp [Value.ownBlock] at e; subst e; exact gf)
        have hTx : Tch (fun j => j = x) (W6.drew.setCell ⟨f, u', none⟩ (.int .u8 b)) ((W6.drew.setCell ⟨f, u', none⟩ (.int .u8 b)).setCell ⟨x, 2, none⟩ (.int .i64 ((u' + 1 : Nat) : Int))) := (Tch.refl (fun j => j = x) _).setCell (p := ⟨x, 2, none⟩) (fun _ => rfl) _
        obtain ⟨eb, eq⟩ := EB.out
        obtain ⟨ef, eu, _⟩ := HU.out
        have e1 : out1 (enc perm sub mask) mask.length (F, u) b = xr q b := by rw [out1, ef, eu, eq]
        have e2 : stN (enc perm sub mask) mask.length true s (l.take (k + 1)) = (F'.set u' b, u' + 1) := by
          rw [stN_take _ _ _ _ _ _ hlt, ES.out, eb, st1, ef, eu]; rfl
        have e3 : (outN (enc perm sub mask) mask.length true s (l.take k) ++ xs.drop k).set k (xr q b) = outN (enc perm sub mask) mask.length true s (l.take (k + 1)) ++ xs.drop (k + 1) := by
          rw [outN_take _ _ _ _ _ _ hlt, ES.out, eb, e1, List.append_assoc]
          have lo' : (outN (enc perm sub mask) mask.length true s (l.take k)).length = k := by rw [outN_length, List.length_take]; omega
          rw [List.set_append_right _ _ (by omega), lo', Nat.sub_self]
          congr 1
          have hx2 := HXL.out
          rw [List.length_append, lo', List.length_drop] at hx2
          rw [List.drop_eq_getElem_cons (show k < xs.length by omega)]
          rfl
        rw [e3] at HR8
        exact ⟨⟨k + 1, hlt, by go_num, ⟨_, _, e2, H8⟩, ⟨hTx.r8 HR8 (fun j e => by simp [Value.ownBlock] at e; subst e; exact gx)⟩, ⟨(HT7.out.trans (hTf.mono (fun j e => .inr (.inl e)))).trans (hTx.mono (fun j e => .inl e))⟩⟩, by simp [intOf]; omega⟩
      ·
        have hu2 : ((u : Int) == (mask.length : Int)) = false := beq_eq_false_iff_ne.2 (by omega)
        go_wp2_with fail
        go_quiet (fail)
        go_upto_region 6 with (fail)
        have hBq : Below wr.heap.size wr (wr.drewN nq) := pw_below_drewN (Below.refl _ _) nq
        have H5 := Aside0.mk (H1.out.below hBq)
        have HR5 := Aside0.mk (Kd.R_below HR.out hBq)
        have HT5 := Aside0.mk (HT.out.trans (Tch.of_below hBq))
        clear c0 c1 c2 z2 H1 HR HT
        generalize wr.drewN nq = W5 at H5 HR5 HT5 ⊢
        obtain ⟨F', u', UU, h6⟩ : ∃ F' u', (fre (enc perm sub mask) mask.length (F, u) = F' ∧ usd mask.length (F, u) = u' ∧ u' < mask.length) ∧ Str lo hi base W5 x f a P S M cP cS cM perm sub mask F' u' := ⟨_, _, ⟨if_neg hu, if_neg hu, by have := H5.out.un; show u < _; omega⟩, H5.out⟩
        have H6 := Aside0.mk h6
        clear h6 H5
        have HU := Aside0.mk UU
        obtain ⟨_, _, u1⟩ := UU
        have u2 : (u' : Int) < (mask.length : Int) := by omega
        have c1 := H6.out.c1
        have c2 := H6.out.c2
        obtain ⟨fy, fz⟩ := Kd.R_celln (0 : Int) (h1 := fun _ => rfl) (enc := Value.int .u8) H6.out.rf (u' : Int) (by omega) (by omega)
        have rs : rdOf 0 F' (u' : Int) = F'.getD u' 0 := by unfold rdOf; rw [Int.toNat_natCast]
        rw [Int.toNat_natCast, rs] at fy
        clear fz
        have gl := (Kd.R_reads' HR5.out).1
        have HXL := Aside0.mk (show (outN (enc perm sub mask) mask.length true s (l.take k) ++ xs.drop k).length = N from gl.symm)
        obtain ⟨gy, gz⟩ := Kd.R_celln (0 : Int) (h1 := fun _ => rfl) (enc := Value.int .u8) HR5.out (k : Int) (by omega) (by omega)
        rw [Int.toNat_natCast] at gy gz
        have kN : (k : Int) < (N : Int) := by omega
        obtain ⟨ad, rfl, hx⟩ := Kd.at_int (HT5.out.c8 HL.out HO.out) (k : Int) (by omega) (by omega)
        rw [Int.toNat_natCast, rdn] at hx
        have hb := HB.out k
        have hq := H6.out.bF u'
        obtain ⟨b, eb⟩ : ∃ b, l.getD k 0 = b := ⟨_, rfl⟩
        obtain ⟨q, eq⟩ : ∃ q, F'.getD u' 0 = q := ⟨_, rfl⟩
        rw [eb] at hx hb
        rw [eq] at fy hq
        have EB := Aside0.mk (And.intro eb eq)
        have BB := Aside0.mk hb
        clear eb eq rs hb hq gl
        go_wp2_with fail
        go_still_tail 18, (by kernel_rfl)
        change wpList _ _ _ _ _ W5.drew
        go_wp2_with fail
        have hTg : Tch (fun j => j = g) W5 (W5.drew.setCell ⟨g, k, none⟩ (.int .u8 (xr q b))) := (Tch.refl (fun j => j = g) W5).drew.setCell (p := ⟨g, k, none⟩) (fun _ => rfl) _
        have H7 := Aside0.mk (H6.out.kept hTg (fun j e => .inl (by omega)) (fun e => gx e.symm) (fun e => gf e.symm))
        have HR7 := (Kd.R_putg (Kd.R_drew HR5.out) (k : Int) (xr q b)).1
        rw [Int.toNat_natCast] at HR7
        have HR7 := Aside0.mk HR7
        have HT7 := Aside0.mk (HT5.out.trans (hTg.mono (fun j e => .inr (.inr e))))
        clear hTg c1 c2 fy gy gz hx kN
        change Code.wp _ _ _ _ (W5.drew.setCell ⟨g, k, none⟩ (.int .u8 (xr q b)))
        generalize W5.drew.setCell ⟨g, k, none⟩ (.int .u8 (xr q b)) = W6 at H7 HR7 HT7 ⊢
        have c1 := H7.out.c1
        have c2 := H7.out.c2
        have z2 := H7.out.z2
        have xf := H7.out.xf
        have xf2 := xf.symm
        obtain ⟨fy, fz⟩ := Kd.R_celln (0 : Int) (h1 := fun _ => rfl) (enc := Value.int .u8) H7.out.rf (u' : Int) (by omega) (by omega)
        rw [Int.toNat_natCast] at fy fz
        go_still_tail 10, (by kernel_rfl)
        change wpList _ _ _ _ _ W6.drew
        go_wp2_with fail
        have m32 := H7.out.blk.rt.m2
        have hw : wrap64 ((u' : Int) + 1) = ((u' + 1 : Nat) : Int) := (wrap64_id (by omega) (by omega)).trans (by omega)
        rw [hw]
        have hTf : Tch (fun j => j = f) W6 (W6.drew.setCell ⟨f, u', none⟩ (.int .u8 b)) := (Tch.refl (fun j => j = f) W6).drew.setCell (p := ⟨f, u', none⟩) (fun _ => rfl) _
        have H8 := ((H7.out.below (below_drew (Below.refl _ _))).put u' BB.out.1 BB.out.2).used (u' + 1) (by omega)
        have HR8 := hTf.r8 HR7.out (fun j e => by simp [Value.ownBlock] at e; subst e; exact gf)
        have hTx : Tch (fun j => j = x) (W6.drew.setCell ⟨f, u', none⟩ (.int .u8 b)) ((W6.drew.setCell ⟨f, u', none⟩ (.int .u8 b)).setCell ⟨x, 2, none⟩ (.int .i64 ((u' + 1 : Nat) : Int))) := (Tch.refl (fun j => j = x) _).setCell (p := ⟨x, 2, none⟩) (fun _ => rfl) _
        obtain ⟨eb, eq⟩ := EB.out
        obtain ⟨ef, eu, _⟩ := HU.out
        have e1 : out1 (enc perm sub mask) mask.length (F, u) b = xr q b := by rw [out1, ef, eu, eq]
        have e2 : stN (enc perm sub mask) mask.length true s (l.take (k + 1)) = (F'.set u' b, u' + 1) := by
          rw [stN_take _ _ _ _ _ _ hlt, ES.out, eb, st1, ef, eu]; rfl
        have e3 : (outN (enc perm sub mask) mask.length true s (l.take k) ++ xs.drop k).set k (xr q b) = outN (enc perm sub mask) mask.length true s (l.take (k + 1)) ++ xs.drop (k + 1) := by
          rw [outN_take _ _ _ _ _ _ hlt, ES.out, eb, e1, List.append_assoc]
          have lo' : (outN (enc perm sub mask) mask.length true s (l.take k)).length = k := by rw [outN_length, List.length_take]; omega
          rw [List.set_append_right _ _ (by omega), lo', Nat.sub_self]
          congr 1
          have hx2 := HXL.out
          rw [List.length_append, lo', List.length_drop] at hx2
          rw [List.drop_eq_getElem_cons (show k < xs.length by omega)]
          rfl
        rw [e3] at HR8
        exact ⟨⟨k + 1, hlt, by go_num, ⟨_, _, e2, H8⟩, ⟨hTx.r8 HR8 (fun j e => by simp [Value.ownBlock] at e; subst e; exact gx)⟩, ⟨(HT7.out.trans (hTf.mono (fun j e => .inr (.inl e)))).trans (hTx.mono (fun j e => .inl e))⟩⟩, by simp [intOf]; omega⟩
    · go_wp2
      go_end0
      obtain rfl : k = l.length := by omega
      rw [List.take_length] at HS HR
      obtain ⟨F, u, es, hs⟩ := HS.out
      rw [es]
      exact ⟨rfl, hs, HR.out, HT.out⟩
end Go.Proofs.Ytkehjcppgpoobaa.Ocf

/- Stretching by a hash: the sums of a text with more and more zeros ahead, one behind the other. -/
set_option linter.unusedVariables false
set_option linter.unusedSimpArgs false
namespace Go.Proofs.Ytkehjcppgpoobaa.Mix
open Go.RowKit Go.Proofs.YtkehjcppgpoobaaW.PrintWords Go.Proofs.Ytkehjcppgpoobaa.Kit

def cat (sub mask x : List Int) : Nat → List Int
  | 0 => []
  | i + 1 => cat sub mask x i ++ hashOf sub mask (List.replicate i 0 ++ x)
/-- What an area of so many bytes holds behind so many sums. -/
def outAt (sub mask x : List Int) (size i : Nat) : List Int := (cat sub mask x i).take size ++ List.replicate (size - i * mask.length) 0
section
variable (sub mask x : List Int)
theorem cat_length (i : Nat) : (cat sub mask x i).length = i * mask.length := by
  induction i with
  | zero => simp [cat]
  | succ i ih => rw [cat, List.length_append, ih, hashOf_length, Nat.succ_mul]
theorem outAt_length (size i : Nat) : (outAt sub mask x size i).length = size := by
  rw [outAt, List.length_append, List.length_take, cat_length, List.length_replicate]; omega
theorem outAt_zero (size : Nat) : outAt sub mask x size 0 = List.replicate size 0 := by simp [outAt, cat]
theorem outAt_end (size i : Nat) (h : size ≤ i * mask.length) : outAt sub mask x size i = (cat sub mask x i).take size := by
  rw [outAt, Nat.sub_eq_zero_of_le h]; simp
theorem outAt_step (size i : Nat) (h : i * mask.length < size) :
    (outAt sub mask x size i).take (i * mask.length) ++ ((hashOf sub mask (List.replicate i 0 ++ x)).take (min (hashOf sub mask (List.replicate i 0 ++ x)).length (size - i * mask.length)) ++ (outAt sub mask x size i).drop (i * mask.length + min (hashOf sub mask (List.replicate i 0 ++ x)).length (size - i * mask.length))) = outAt sub mask x size (i + 1) := by
  have hl := cat_length sub mask x i
  have hh := hashOf_length sub mask (List.replicate i 0 ++ x)
  have e0 : outAt sub mask x size i = cat sub mask x i ++ List.replicate (size - i * mask.length) 0 := by
    rw [outAt, List.take_of_length_le (by omega)]
  have e1 : outAt sub mask x size (i + 1) = (cat sub mask x i ++ hashOf sub mask (List.replicate i 0 ++ x)).take size ++ List.replicate (size - (i + 1) * mask.length) 0 := rfl
  have es : (i + 1) * mask.length = i * mask.length + mask.length := Nat.succ_mul _ _
  rw [e0, e1, hh, es]
  generalize hashOf sub mask (List.replicate i 0 ++ x) = s at *
  generalize i * mask.length = L at *
  generalize cat sub mask x i = C at *
  rw [List.take_append_of_le_length (by omega), List.take_of_length_le (by omega), List.drop_append, List.drop_of_length_le (by omega), List.nil_append, List.drop_replicate, List.take_append, List.take_of_length_le (by omega : C.length ≤ size), List.append_assoc]
  congr 1
  rw [hl]
  congr 1
  · rcases Nat.le_total mask.length (size - L) with h1 | h1
    · rw [Nat.min_eq_left h1, List.take_of_length_le (by omega), List.take_of_length_le (by omega)]
    · rw [Nat.min_eq_right h1]
  · congr 1; omega
theorem cat_more (i j : Nat) : ∃ r, cat sub mask x (i + j) = cat sub mask x i ++ r := by
  induction j with
  | zero => exact ⟨[], by simp⟩
  | succ j ih =>
    obtain ⟨r, hr⟩ := ih
    exact ⟨r ++ hashOf sub mask (List.replicate (i + j) 0 ++ x), by rw [← Nat.add_assoc, cat, hr, List.append_assoc]⟩
theorem cat_take (size i j : Nat) (hi : size ≤ i * mask.length) (hj : size ≤ j * mask.length) : (cat sub mask x i).take size = (cat sub mask x j).take size := by
  have key : ∀ a b, size ≤ a * mask.length → (cat sub mask x (a + b)).take size = (cat sub mask x a).take size := fun a b h => by
    obtain ⟨r, hr⟩ := cat_more sub mask x a b
    rw [hr, List.take_append_of_le_length (by rw [cat_length]; exact h)]
  rcases Nat.le_total i j with h | h
  · obtain ⟨k, rfl⟩ := Nat.exists_eq_add_of_le h
    exact (key i k hi).symm
  · obtain ⟨k, rfl⟩ := Nat.exists_eq_add_of_le h
    exact key j k hj
end
end Go.Proofs.Ytkehjcppgpoobaa.Mix

/- What a stretching by a hash knows of memory: the digest, its last sum, the area that is filled. -/
set_option linter.unusedVariables false
set_option linter.unusedSimpArgs false
namespace Go.Proofs.Ytkehjcppgpoobaa.Mix
open Go.RowKit Go.Proofs.YtkehjcppgpoobaaW.PrintWords Go.Proofs.YtkehjcppgpoobaaW.PrintMore Go.Proofs.Ytkehjcppgpoobaa.Kit

/-- Block k is none of a digest's. -/
structure Clear (k d g : Nat) (S M : Option Addr) (sub mask : List Int) : Prop where
  d : k ≠ d
  g : k ≠ g
  s : Off (fun b => b = k) S sub
  m : Off (fun b => b = k) M mask

structure Mid (w0 wr : World) (d : Nat) (S M : Option Addr) (cS cM g c : Nat) (sub mask x : List Int) (go size i : Nat) (dv : Value) (t : List Int) : Prop where
  dg : Dg w0.heap.size wr d S M cS cM g c sub mask t
  co : Clear go d g S M sub mask
  cd : ∀ k, dv.ownBlock = some k → Clear k d g S M sub mask ∧ k ≠ go
  dig : ∃ bl, R8 5 wr w0.heap.size dv bl ∧ bl.length ≤ 64
  out : R8 5 wr w0.heap.size (.slice (some ⟨go, 0, none⟩) size size) (outAt sub mask x size i)
  bel : Below w0.heap.size w0 wr

section
variable {w0 wr w1 : World} {d : Nat} {S M : Option Addr} {cS cM g c : Nat} {sub mask x : List Int} {go size i : Nat} {dv : Value} {t : List Int}
theorem Mid.bw (h : Mid w0 wr d S M cS cM g c sub mask x go size i dv t) : w0.heap.size ≤ wr.heap.size := h.bel.size
theorem Clear.fresh {base k : Nat} (h : Dg base wr d S M cS cM g c sub mask t) (hk : wr.heap.size ≤ k) : Clear k d g S M sub mask := by
  have h1 := h.dl
  have h2 := h.bg.2
  exact ⟨by omega, by omega, fun ad e hp b => by have := c8_lt h.rs ad e hp; omega, fun ad e hp b => by have := c8_lt h.rm ad e hp; omega⟩
theorem Clear.state {k g' : Nat} (h : Clear k d g S M sub mask) (hk : k ≠ g') : Clear k d g' S M sub mask := ⟨h.d, hk, h.s, h.m⟩
theorem Mid.below (h : Mid w0 wr d S M cS cM g c sub mask x go size i dv t) (hB : Below wr.heap.size wr w1) : Mid w0 w1 d S M cS cM g c sub mask x go size i dv t :=
  ⟨h.dg.below hB, h.co, h.cd, by obtain ⟨bl, h1, h2⟩ := h.dig; exact ⟨bl, Kd.R_below h1 hB, h2⟩, Kd.R_below h.out hB, below_then h.bel h.bw hB⟩
theorem own_lt8 {e base : Nat} {w : World} {v : Value} {l : List Int} (h : R8 e w base v l) {k : Nat} (hk : v.ownBlock = some k) : k < w.heap.size := Kd.R_lt h k hk
theorem Mid.reset (h : Mid w0 wr d S M cS cM g c sub mask x go size i dv t) (hX : DgX w0.heap.size w1 d S M cS cM sub mask [] wr.heap.size) (hT : Tch (fun k => k = d) wr w1) :
    ∃ g' c', Mid w0 w1 d S M cS cM g' c' sub mask x go size i dv [] ∧ wr.heap.size ≤ g' := by
  obtain ⟨g', c', hD, hg⟩ := hX
  obtain ⟨bl, h1, h2⟩ := h.dig
  have hgo : go < wr.heap.size := own_lt8 h.out rfl
  refine ⟨g', c', ⟨hD, h.co.state (by omega), fun k hk => ⟨(h.cd k hk).1.state (by have := own_lt8 h1 hk; omega), (h.cd k hk).2⟩, ⟨bl, hT.r8 h1 (fun k hk => (h.cd k hk).1.d), h2⟩, hT.r8 h.out (fun k hk => ?_), hT.below h.bel h.bw (fun k e => by subst e; exact h.dg.hd)⟩, hg⟩
  simp [Value.ownBlock] at hk
  subst hk
  exact h.co.d
theorem Mid.write {l : List Int} (h : Mid w0 wr d S M cS cM g c sub mask x go size i dv t) (hD : Dg w0.heap.size w1 d S M cS cM g c sub mask (t ++ l)) (hT : Tch (fun k => k = d ∨ k = g) wr w1) :
    Mid w0 w1 d S M cS cM g c sub mask x go size i dv (t ++ l) := by
  obtain ⟨bl, h1, h2⟩ := h.dig
  refine ⟨hD, h.co, h.cd, ⟨bl, hT.r8 h1 (fun k hk e => ?_), h2⟩, hT.r8 h.out (fun k hk e => ?_), hT.below h.bel h.bw (fun k e => ?_)⟩
  · rcases e with e | e
    · exact (h.cd k hk).1.d e
    · exact (h.cd k hk).1.g e
  · simp [Value.ownBlock] at hk
    subst hk
    rcases e with e | e
    · exact h.co.d e
    · exact h.co.g e
  · rcases e with rfl | rfl
    · exact h.dg.hd
    · exact h.dg.bg.1
theorem Mid.summed {v' dv0 : Value} {s : List Int} (h : Mid w0 wr d S M cS cM g c sub mask x go size i dv t) (h0 : dv0.ownBlock = dv.ownBlock) (hR : R8 5 w1 w0.heap.size v' s) (hs : s.length ≤ 64) (hG : wr.grownBy w1 dv0.ownBlock)
    (hA : v'.ownBlock = dv0.ownBlock ∨ ∃ b, v'.ownBlock = some b ∧ wr.heap.size ≤ b) : Mid w0 w1 d S M cS cM g c sub mask x go size i v' t := by
  rw [h0] at hG hA
  obtain ⟨bl, h1, h2⟩ := h.dig
  have hT := Tch.of_grown hG
  have hgo : go < wr.heap.size := own_lt8 h.out rfl
  refine ⟨h.dg.kept hT (fun e => (h.cd d e).1.d rfl) (fun e => (h.cd g e).1.g rfl) (fun ad e hp k => (h.cd _ k).1.s ad e hp rfl) (fun ad e hp k => (h.cd _ k).1.m ad e hp rfl), h.co, fun k hk => ?_, ⟨s, hR, hs⟩, hT.r8 h.out (fun k hk e => ?_), hT.below h.bel h.bw (fun k e => Kd.R_base h1 k e)⟩
  · rcases hA with e | ⟨b, e, hb⟩
    · exact h.cd k (by rw [← e]; exact hk)
    · rw [hk] at e
      injection e with e
      subst e
      exact ⟨Clear.fresh h.dg hb, by omega⟩
  · simp [Value.ownBlock] at hk
    subst hk
    exact (h.cd _ e).2 rfl
theorem Mid.copied (h : Mid w0 wr d S M cS cM g c sub mask x go size i dv t) (hR : R8 5 w1 w0.heap.size (.slice (some ⟨go, 0, none⟩) size size) (outAt sub mask x size (i + 1))) (hG : wr.grownBy w1 (some go)) :
    Mid w0 w1 d S M cS cM g c sub mask x go size (i + 1) dv t := by
  obtain ⟨bl, h1, h2⟩ := h.dig
  have hT := Tch.of_grown hG
  have hgo : w0.heap.size ≤ go := Kd.R_base h.out go rfl
  exact ⟨h.dg.kept hT (fun e => h.co.d (by injection e)) (fun e => h.co.g (by injection e)) (fun ad e hp k => h.co.s ad e hp (by injection k with k; exact k.symm)) (fun ad e hp k => h.co.m ad e hp (by injection k with k; exact k.symm)), h.co, h.cd,
    ⟨bl, hT.r8 h1 (fun k hk e => (h.cd k hk).2 (by injection e with e; exact e.symm)), h2⟩, hR, hT.below h.bel h.bw (fun k e => by injection e with e; subst e; exact hgo)⟩
theorem Mid.drew (h : Mid w0 wr d S M cS cM g c sub mask x go size i dv t) : Mid w0 wr.drew d S M cS cM g c sub mask x go size i dv t := h.below (below_drew (Below.refl _ _))
/-- What came in lies in none of the digest's blocks. -/
theorem Mid.old {A : Option Addr} {l : List Int} (h : Mid w0 wr d S M cS cM g c sub mask x go size i dv t) (hl : C8 w0 A l) : Off (fun k => k = d ∨ k = g) A l := fun ad e hp k => by
  have h1 := c8_lt hl ad e hp
  have h2 := h.dg.hd
  have h3 := h.dg.bg.1
  omega
theorem Mid.fresh {l : List Int} (h : Mid w0 wr d S M cS cM g c sub mask x go size i dv t) {b : Nat} (hb : wr.heap.size ≤ b) : Off (fun k => k = d ∨ k = g) (some ⟨b, 0, none⟩) l := fun ad e hp k => by
  injection e with e
  subst e
  have h2 := h.dg.dl
  have h3 := h.dg.bg.2
  simp only at k
  omega
end
end Go.Proofs.Ytkehjcppgpoobaa.Mix

/- s2k.Salted, walked. -/
set_option linter.unusedVariables false
set_option linter.unusedSimpArgs false
namespace Go.Proofs.Ytkehjcppgpoobaa.Mix
open Go.RowKit Go.Proofs.YtkehjcppgpoobaaW.PrintWords Go.Proofs.YtkehjcppgpoobaaW.PrintMore Go.Proofs.Ytkehjcppgpoobaa.Kit

theorem zeros_snoc (j : Nat) : (List.replicate j (0 : Int)) ++ [0] = List.replicate (j + 1) 0 := by rw [List.replicate_succ']
theorem bytes_zeros (j : Nat) : Bytes (List.replicate j 0) := fun i => by
  rw [List.getD_eq_getElem?_getD, List.getElem?_replicate]; split <;> simp
theorem bytes_zero1 : Bytes [0] := bytes_zeros 1
theorem min_step (i n size : Nat) (h : i * n < size) : i * n + min n (size - i * n) = min ((i + 1) * n) size := by rw [Nat.succ_mul]; omega

theorem nil_sum (a : Addr) (w : World) : (nilAhead 310 70 (.pointer (some a)) "Sum").run Try.prog w = .ok (some false) w := by kernel_rfl
theorem one_len : 1 = ([0] : List Int).length := rfl
theorem lit1 (b : Int) (w : World) (e : Nat) : C8 (w.alloc (.cells #[.int .u8 b] e)) (some ⟨w.heap.size, 0, none⟩) [b] :=
  (Kd.R_reads' (Kd.R_of_own (h1 := fun _ => rfl) (enc := Value.int .u8) (ok := fun _ => True) (xs := [b]) (own_lit w w.heap.size e .u8 [b] (Nat.le_refl _) (by simp)) (fun _ _ => trivial))).2.2
/-- digest[:0]. -/
theorem cut0 (dv : Value) (base : Nat) (w : World) (bl : List Int) (h : R8 5 w base dv bl) : ∃ A m c, dv = .slice A m c ∧ m ≤ c ∧ (.slice A 0 c : Value).ownBlock = dv.ownBlock ∧ ∀ w1 : World, (∃ bl1, R8 5 w1 base dv bl1) → R8 5 w1 base (.slice A 0 c) [] := by
  obtain ⟨A, c, e, hl, _⟩ := r8_reads h
  subst e
  refine ⟨A, bl.length, c, rfl, hl, by cases A <;> rfl, fun w1 ⟨bl1, h1⟩ => ?_⟩
  obtain ⟨_, ho⟩ := Kd.own_of_R h1
  rcases ho with ⟨e, _⟩ | ⟨g, cap, cur, e, hb, hh, hc, hm, hs, _⟩
  · injection e with e1 e2 e3
    subst e1; subst e3
    exact Kd.R_nil _ _ _ _ _
  · injection e with e1 e2 e3
    subst e1; subst e3
    exact Kd.R_of_own (v := .slice (some ⟨g, 0, none⟩) 0 c) (xs := []) ⟨by simp [encs], .inr ⟨g, c, cur, rfl, hb, hh, Nat.zero_le _, hm, hs, by simp [encs]⟩⟩ (fun _ _ => trivial)

set_option maxHeartbeats 3200000 in
set_option maxRecDepth 100000 in
theorem salted_calls {w0 w : World} {d : Nat} {S M : Option Addr} {cS cM g c : Nat} {sub mask : List Int} {go size : Nat} {t0 : List Int} (I : Option Addr) (ci : Nat) (inl : List Int) (Sa : Option Addr) (ca : Nat) (salt : List Int)
    (h : Mid w0 w d S M cS cM g c sub mask (salt ++ inl) go size 0 (.slice none 0 0) t0) (hI : C8 w0 I inl) (hIB : Bytes inl) (hS : C8 w0 Sa salt) (hSB : Bytes salt) (hsz : size ≤ 65536) :
    Calls Try.prog 60 #[.slice (some ⟨go, 0, none⟩) size size, .iface 70 (.pointer (some ⟨d, 0, none⟩)), .slice I inl.length ci, .slice Sa salt.length ca] w fun e w' => e = .returned (.tuple #[]) ∧ ∃ m, size ≤ m * mask.length ∧ R8 5 w' w0.heap.size (.slice (some ⟨go, 0, none⟩) size size) (outAt sub mask (salt ++ inl) size m) ∧ Below w0.heap.size w0 w' := by
  have H0 := Aside0.mk h
  have HI := Aside0.mk hI
  have HS := Aside0.mk hS
  have HB := Aside0.mk (And.intro hIB hSB)
  have HN := Aside0.mk (And.intro h.dg.m1 h.dg.m2)
  clear h hI hS hIB hSB
  obtain ⟨n, hn⟩ : ∃ n, mask.length = n := ⟨_, rfl⟩
  have HL := Aside0.mk hn
  clear hn
  go_enter Try.func60, Try.ntmps60
  go_wp2_with fail
  go_loopw [8, 9, 10] (fun dn dv iv wr => ∃ i : Nat, i ≤ size ∧ dn = .int .i64 ((min (i * n) size : Nat) : Int) ∧ iv = .int .i64 (i : Int) ∧ Aside0 (∃ g c t, Mid w0 wr d S M cS cM g c sub mask (salt ++ inl) go size i dv t)) (fun _ _ iv _ => size - (intOf iv).toNat)
  case atStart => exact ⟨0, Nat.zero_le _, by simp, rfl, ⟨_, _, _, H0.out⟩⟩
  case round =>
    clear H0
    obtain ⟨i, hi, rfl, rfl, HM⟩ := hrel
    obtain ⟨g, c, t, hM⟩ := HM.out
    clear HM
    by_cases hlt : i * n < size
    · obtain ⟨L, eL⟩ : ∃ L, i * n = L := ⟨_, rfl⟩
      have e1 : min (i * n) size = L := by omega
      rw [e1]
      have LL := Aside0.mk eL
      have hilt : i < size := by have := HN.out; have := HL.out; have : i * 1 ≤ i * n := Nat.mul_le_mul_left _ (by omega); omega
      rw [eL] at hlt
      have HM := Aside0.mk hM
      clear hM e1 eL
      go_wp2_with (first | (go_at_call 61; (with_reducible refine (reset_calls HM.out.dg.zero HM.out.dg.hd).mono ?_); rintro e w1 ⟨rfl, hX, hT⟩; obtain ⟨g', c', hM1, _⟩ := HM.out.reset hX hT; clear HM hX hT; have HM := Aside0.mk hM1; clear hM1))
      obtain ⟨wo, hwo⟩ : ∃ wo : World, wo = w1 := ⟨_, rfl⟩
      subst hwo
      go_loopw [11] (fun jv wr => ∃ j : Nat, j ≤ i ∧ jv = .int .i64 (j : Int) ∧ Aside0 (Mid w0 wr d S M cS cM g' c' sub mask (salt ++ inl) go size i u9 (List.replicate j 0))) (fun jv _ => i - (intOf jv).toNat)
      case atStart => exact ⟨0, Nat.zero_le _, rfl, HM⟩
      case round =>
        clear HM
        obtain ⟨j, hj, rfl, HM⟩ := hrel
        by_cases hjl : j < i
        · have hA := Aside0.mk (HM.out.below (below_alloc (Below.refl _ _) (.cells #[.int .u8 0] 5)))
          have OF := Aside0.mk (HM.out.fresh (l := [0]) (Nat.le_refl _))
          go_wp2_with (go_at_call 105; (with_reducible refine (write_calls hA.out.dg (lit1 0 _ _) OF.out bytes_zero1 one_len).mono ?_); rintro e w3 ⟨rfl, hD, hT⟩; have n1 := Aside0.mk (hA.out.write hD hT); clear HM hA OF hD hT; have HM := n1; clear n1)
          go_roundw
          case rel => exact ⟨j + 1, hjl, by go_num, by rw [zeros_snoc] at HM; exact HM⟩
          case measure => simp [intOf]; omega
        · obtain rfl : j = i := by omega
          have T := Aside0.mk (hashOf_length sub mask (List.replicate j 0 ++ (salt ++ inl)))
          obtain ⟨mm, emm⟩ : ∃ mm, min (hashOf sub mask (List.replicate j 0 ++ (salt ++ inl))).length (size - L) = mm := ⟨_, rfl⟩
          have EM := Aside0.mk emm
          have hmm : L + mm ≤ size := by omega
          have hne : ¬ size = L := by omega
          have hmin := Aside0.mk (show ((L : Int) + (mm : Int)) = ((min ((j + 1) * n) size : Nat) : Int) by
            have h1 := LL.out; have h2 := T.out; have h3 := HL.out
            rw [Nat.succ_mul, h1]; omega)
          clear emm
          obtain ⟨bl, hbl, _⟩ := HM.out.dig
          obtain ⟨A, m, cv, edv, hmc, hob, hcut⟩ := cut0 u9 _ _ _ hbl
          subst edv
          have CU := Aside0.mk hcut
          have OB := Aside0.mk hob
          clear hbl hcut hob
          go_wp2_with (first | (go_at_call 105; (with_reducible refine (write_calls HM.out.dg (Kd.C_below HS.out HM.out.bel) (HM.out.old HS.out) HB.out.2 rfl).mono ?_); rintro e w4 ⟨rfl, hD, hT⟩; have n1 := Aside0.mk (HM.out.write hD hT); clear HM hD hT; have HM := n1; clear n1) | (go_at_call 105; (with_reducible refine (write_calls HM.out.dg (Kd.C_below HI.out HM.out.bel) (HM.out.old HI.out) HB.out.1 rfl).mono ?_); rintro e w5 ⟨rfl, hD, hT⟩; have n1 := Aside0.mk (HM.out.write hD hT); clear HM hD hT; have HM := n1; clear n1))
          have ns := nil_sum ⟨d, 0, none⟩
          go_region_with ((go_at_call 104; refine (sum_calls HM.out.drew.dg (CU.out _ (by obtain ⟨b1, h1, _⟩ := HM.out.drew.dig; exact ⟨b1, h1⟩)) (by simp)).mono ?_; rintro e w6 ⟨v', rfl, hR, hG, hA⟩; rw [List.nil_append, List.append_assoc] at hR; obtain ⟨A', c', e', _, _⟩ := r8_reads hR; subst e'; have R6 := Aside0.mk hR; have n1 := Aside0.mk (HM.out.drew.summed OB.out hR (by have := T.out; have := HN.out; omega) hG hA); clear HM hR hG hA; have HM := n1; clear n1))
          go_wp2_with (((with_reducible refine gate_dst (N := 46) rfl ?_); refine copy8 w0.heap.size (w0 := w0) rfl (.tmp 44) (.tmp 45) 22 22 5 rfl Try.underlying22 infoB go size size L (size - L) (size - L) (outAt sub mask (salt ++ inl) size j) (hashOf sub mask (List.replicate j 0 ++ (salt ++ inl))) A' (some ⟨go, L, none⟩) c' ?hs (fun _ => rfl) rfl rfl HM.out.out (Kd.R_reads' R6.out).2.2 ?hf HM.out.bel HM.out.bw ?_; (case hs => first | rfl | (go_simp; done)); (case hf => omega); intro w7 hR hB hG; rw [EM.out]; have n1 := Aside0.mk (HM.out.copied (by have h1 := outAt_step sub mask (salt ++ inl) size j (by rw [HL.out, LL.out]; omega); rw [HL.out, LL.out] at h1; rw [← h1]; exact hR) hG); clear HM hR hB hG; have HM := n1; clear n1))
          go_roundw
          case rel => exact ⟨j + 1, hilt, by rw [← hmin.out], by go_num, ⟨⟨_, _, _, HM.out⟩⟩⟩
          case measure => simp [intOf]; omega
    · have hmn : min (i * n) size = size := by omega
      rw [hmn]
      go_wp2
      go_end0
      exact ⟨rfl, i, by rw [HL.out]; omega, hM.out, hM.bel⟩
end Go.Proofs.Ytkehjcppgpoobaa.Mix

/- spec.stretched, walked. -/
set_option linter.unusedVariables false
set_option linter.unusedSimpArgs false
namespace Go.Proofs.Ytkehjcppgpoobaa.Mix
open Go.RowKit Go.Proofs.YtkehjcppgpoobaaW.PrintWords Go.Proofs.YtkehjcppgpoobaaW.PrintMore Go.Proofs.Ytkehjcppgpoobaa.Kit

section
variable {P : Program} {ops : Array Oper} {o : Oper} {a : Act} {Q : Exit → Act → World → Prop} {K : Act → World → Prop} {E : Prop}
/-- make([]byte, n): what it comes to. -/
theorem made_run (t e : TypeId) (n : Nat) (ht : P.underlying t = some (.slice e)) (hinfo : (P.info? e).map (fun i => (i.zero, i.size, i.bytes)) = some (some (.int .u8 0), 1, 1)) (hn : n ≤ 281474976710656) (W : World) :
    (Instr.makeSlice t (.int .i64 (n : Int)) (.int .i64 (n : Int))).run P W = .ok (.slice (some ⟨W.heap.size, 0, none⟩) n n) (W.alloc (.cells (madeCells (Value.int IntKind.u8 0).cells n) e)) := by
  obtain ⟨i0, hi, hzz⟩ := Option.map_eq_some_iff.1 hinfo
  simp only [Prod.mk.injEq] at hzz
  obtain ⟨hz0, hz1, hz2⟩ := hzz
  have hr := run_make (P := P) W t e i0 (.int .u8 0) ht hi hz0 .i64 .i64 (n : Int) (n : Int) (by omega) (by omega) (by rw [hz2]; omega) (by omega)
  simp only [Int.toNat_natCast] at hr
  rw [hz1, Nat.mul_one] at hr
  exact hr
theorem made8 (e : TypeId) (n : Nat) (hn : n ≤ 281474976710656) (W : World) : R8 e (W.alloc (.cells (madeCells (Value.int IntKind.u8 0).cells n) e)) W.heap.size (.slice (some ⟨W.heap.size, 0, none⟩) n n) (List.replicate n 0) :=
  Kd.R_of_own (v := .slice (some ⟨W.heap.size, 0, none⟩) n n) (by rw [List.length_replicate]; exact own_made W W.heap.size e .u8 n (Nat.le_refl _) (by omega)) (fun _ _ => trivial)
/-- append(v, xs...) as a step. -/
theorem appendS {W : World} (base : Nat) (hgd : o.guard = none) (s x : Operand) (t e : TypeId)
    (ho : o.op = .call { callee := .builtin .append, args := #[s, x], argTypes := #[t, t] })
    (ht : P.underlying t = some (.slice e)) (hinfo : (P.info? e).map (fun i => (i.zero, i.size, i.bytes)) = some (some (.int .u8 0), 1, 1))
    (v : Value) (xs ys : List Int) (A : Option Addr) (c : Nat) {m : Nat} (hs : a.eval s = v) (hx : a.eval x = .slice A m c) (hmy : m = ys.length)
    (HO : R8 e W base v xs) (HR : C8 W A ys) (hbase : base ≤ W.heap.size) (hl : xs.length + ys.length ≤ 140737488355328)
    (h : ∀ v1 w1, R8 e w1 base v1 (xs ++ ys) → Below base W w1 → W.grownBy w1 v.ownBlock → (v1.ownBlock = v.ownBlock ∨ ∃ b, v1.ownBlock = some b ∧ W.heap.size ≤ b) → K (a.put o.dst v1) w1) :
    if Region.wanted o (yielded ops a.tmps) = true then Oper.wp P o a W K Q else E := by
  subst hmy
  have hw : Region.wanted o (yielded ops a.tmps) = true := by simp [Region.wanted, hgd]
  have := Kd.R_append_rows_step (P := P) (ops := ops) (o := o) (a := a) (Q := Q) (Kc := K) (Kd.int .u8) (w0 := W) base hw s x t e (.int .u8 0) 1 ho ht hinfo rfl (by decide) (by decide) v xs ys A ys.length c (fun _ => True) (fun _ => False) hs hx HO HR (fun _ _ h => h) (fun _ h => h.elim) (fun _ _ => trivial) (Below.refl _ _) hbase (by omega) h
  rw [if_pos hw] at this
  rw [if_pos hw]
  exact this
end
theorem bytes_cat {x : List Int} (i : Nat) (h : Bytes x) : Bytes (List.replicate i 0 ++ x) := by
  intro j
  rw [List.getD_eq_getElem?_getD, List.getElem?_append]
  split
  · rw [← List.getD_eq_getElem?_getD]; exact bytes_zeros i j
  · rw [← List.getD_eq_getElem?_getD]; exact h _
theorem nil_msum (l : Array Value) (w : World) : (nilAhead 310 73 (.agg l) "Sum").run Try.prog w = .ok (some false) w := by kernel_rfl

set_option maxHeartbeats 3200000 in
set_option maxRecDepth 100000 in
theorem stretched_calls (As : Option Addr) (cs : Nat) (sub : List Int) (Am : Option Addr) (cm : Nat) (mask : List Int) (A : Option Addr) (c : Nat) (x : List Int) (size : Nat) (w : World)
    (hs : C8 w As sub) (hsl : sub.length = 256) (hsB : Bytes sub) (hm : C8 w Am mask) (hm1 : 1 ≤ mask.length) (hm2 : mask.length ≤ 64) (hmB : Bytes mask) (hl : C8 w A x) (hlB : Bytes x) (hx : x.length ≤ 100000000) (hsz : size ≤ 65536) :
    Calls Try.prog 41 #[.iface 73 (.agg #[.slice As sub.length cs, .slice Am mask.length cm]), .int .i64 (size : Int), .slice A x.length c] w fun e w' => ∃ B d m, size ≤ m * mask.length ∧ e = .returned (.slice B size d) ∧ C8 w' B ((cat sub mask x m).take size) ∧ Below w.heap.size w w' := by
  have HS := Aside0.mk hs
  have HM := Aside0.mk hm
  have HL := Aside0.mk hl
  have HB := Aside0.mk (And.intro hsB (And.intro hmB hlB))
  have HN := Aside0.mk (And.intro hm1 (And.intro hm2 (And.intro hsl hx)))
  clear hs hm hl hsB hmB hlB hm1 hm2 hsl hx
  obtain ⟨n, hn⟩ : ∃ n, mask.length = n := ⟨_, rfl⟩
  have HE := Aside0.mk hn
  clear hn
  go_enter Try.func41, Try.ntmps41
  go_wp2_with fail
  go_loopw [7, 8] (fun v iv wr => ∃ i : Nat, i ≤ size ∧ iv = .int .i64 (i : Int) ∧ Aside0 (R8 5 wr w.heap.size v (cat sub mask x i)) ∧ Aside0 (Below w.heap.size w wr)) (fun _ iv _ => size - (intOf iv).toNat)
  case atStart => exact ⟨0, Nat.zero_le _, rfl, ⟨Kd.R_nil _ _ _ _ _⟩, ⟨Below.refl _ _⟩⟩
  case round =>
    obtain ⟨i, hi, rfl, HR, HW⟩ := hrel
    obtain ⟨Av, cv, ev, hcv, _⟩ := r8_reads HR.out
    subst ev
    obtain ⟨L, eL⟩ : ∃ L, i * n = L := ⟨_, rfl⟩
    have eln := cat_length sub mask x i
    rw [HE.out, eL] at eln
    rw [eln] at hcv ⊢
    rw [eln] at HR
    have EL := Aside0.mk (And.intro eln eL)
    by_cases hlt : L < size
    · have hilt : i < size := by have := HN.out; have := HE.out; have : i * 1 ≤ i * n := Nat.mul_le_mul_left _ (by omega); omega
      clear eln eL hcv
      have ns := nil_msum #[.slice As sub.length cs, .slice Am mask.length cm]
      obtain ⟨X, eX⟩ : ∃ X, List.replicate i 0 ++ x = X := ⟨_, rfl⟩
      have XE := Aside0.mk (And.intro eX (show Bytes X by rw [← eX]; exact bytes_cat i HB.out.2.2))
      clear eX
      have CH := Aside0.mk ((below_drew (Below.refl wr.heap.size wr)).alloc (Nat.le_refl _) (.cells (madeCells (Value.int IntKind.u8 0).cells i) 5))
      have hmk := made_run (P := Try.prog) 22 5 i Try.underlying22 infoB (by omega)
      go_wp2_with fail
      go_region_held3 (fun w' => Below w.heap.size w w') (first | assumption | (exact HW.out.drew) | (exact (HW.out.drew).alloc (below_size HW.out.drew) _)) (first | (refine appendS wr.heap.size rfl (.tmp 18) (.tmp 19) 22 5 rfl Try.underlying22 infoB _ _ x _ _ rfl rfl rfl (made8 5 i (by omega) wr.drew) ?_ (below_size CH.out) ?_ ?_; (focus (exact Kd.C_below HL.out (below_then HW.out (below_size HW.out) CH.out))); (focus (have := HN.out; simp; omega)); intro v1 w1 hR hB _ _; rw [XE.out.1] at hR; obtain ⟨A20, c20, e20, _, hr20⟩ := r8_reads hR; subst e20; have R20 := Aside0.mk hr20; clear hR hr20; have n1 := Aside0.mk (CH.out.trans hB); clear CH; have CH := n1; clear n1; have hB0 : Below w.heap.size w w1 := (below_then HW.out (below_size HW.out) CH.out)) | (go_at_call 107; (with_reducible refine (msum_calls As cs sub Am cm mask A20 c20 X _ (Kd.C_below HS.out (below_then HW.out (below_size HW.out) CH.out)) HN.out.2.2.1 HB.out.1 (Kd.C_below HM.out (below_then HW.out (below_size HW.out) CH.out)) HN.out.1 HN.out.2.1 HB.out.2.1 R20.out XE.out.2).mono ?_); rintro e w1 ⟨v4, rfl, hR, hB⟩; obtain ⟨A24, c24, e24, _, hr24⟩ := r8_reads hR; subst e24; have R24 := Aside0.mk hr24; clear R20 hR hr24; have n1 := Aside0.mk (below_then CH.out (below_size CH.out) hB); clear CH; have CH := n1; clear n1; have hB0 : Below w.heap.size w w1 := (below_then HW.out (below_size HW.out) CH.out)) | (refine appendS w.heap.size rfl (.tmp 15) (.tmp 24) 22 5 rfl Try.underlying22 infoB (.slice Av L cv) (cat sub mask x i) (hashOf sub mask X) A24 c24 rfl rfl rfl (Kd.R_below HR.out CH.out) R24.out (below_size (below_then HW.out (below_size HW.out) CH.out)) ?_ ?_; (focus (rw [hashOf_length, EL.out.1]; have := HN.out; omega)); intro v5 w1 hR hB _ _; have hB0 : Below w.heap.size w w1 := (below_then HW.out (below_size HW.out) CH.out).trans hB; have R25 := Aside0.mk hR; clear R24 hR))
      all_goals
        go_wp2
        go_roundw
        case rel => exact ⟨i + 1, hilt, by go_num, ⟨by rw [cat, XE.out.1]; exact R25.out⟩, ⟨by assumption⟩⟩
        case measure => simp [intOf]; omega
    · have hsL : size ≤ L := by omega
      obtain ⟨kk, hk2⟩ : ∃ kk, i = kk := ⟨_, rfl⟩
      obtain ⟨i0, hi0, _, hszz, _⟩ := info_parts infoB
      have htl : ((cat sub mask x i).take size).length = size := by rw [List.length_take, eln]; omega
      obtain ⟨h1, h2, h3⟩ := print_take_of (P := Try.prog) (Value.int .u8) (0 : Int) 22 5 .i64 Try.underlying22 hi0 hszz Av cv (cat sub mask x i) (size : Int) (by omega) (by omega) (by omega)
      rw [Int.toNat_natCast, htl, eln] at h1
      rw [Int.toNat_natCast, htl] at h2
      have h4 := h2 wr (by have := (Kd.R_reads' HR.out).2.2; exact Kd.reads_of_C this)
      have H4 := Aside0.mk h4
      have FIN := Aside0.mk (show size ≤ i * mask.length by rw [HE.out, eL]; exact hsL)
      have TL := Aside0.mk htl
      clear h2 h3 h4 eln eL hk2 htl
      go_wp2
      go_ret
      exact ⟨Av, cv, i, FIN.out, rfl, by have := Kd.C_of_reads (h1 := fun _ => rfl) H4.out; rw [C8, TL.out]; exact this, HW.out⟩
end Go.Proofs.Ytkehjcppgpoobaa.Mix

/- impl.streamed: a stream of the feedback mode over pieces. -/
set_option linter.unusedVariables false
set_option linter.unusedSimpArgs false
namespace Go.Proofs.Ytkehjcppgpoobaa.Ocf
open Go.RowKit Go.Proofs.YtkehjcppgpoobaaW.PrintWords Go.Proofs.YtkehjcppgpoobaaW.PrintMore Go.Proofs.Ytkehjcppgpoobaa.Kit Go.Proofs.Ytkehjcppgpoobaa.Mix Go.Proofs.Ytkehjcppgpoobaa.Blk

/-- What the stream makes of each piece. -/
def outsN (E : List Int → List Int) (n : Nat) (back : Bool) : List Int × Nat → List (List Int) → List (List Int)
  | _, [] => []
  | s, l :: ls => outN E n back s l :: outsN E n back (stN E n back s l) ls
theorem outsN_append (E : List Int → List Int) (n : Nat) (back : Bool) (ls ms : List (List Int)) : ∀ s, outsN E n back s (ls ++ ms) = outsN E n back s ls ++ outsN E n back (stN E n back s ls.flatten) ms := by
  induction ls with
  | nil => intro s; rfl
  | cons l ls ih =>
    intro s
    rw [List.cons_append, outsN, ih, outsN, List.flatten_cons, stN_append]; rfl
theorem outsN_flatten (E : List Int → List Int) (n : Nat) (back : Bool) (ls : List (List Int)) : ∀ s, (outsN E n back s ls).flatten = outN E n back s ls.flatten := by
  induction ls with
  | nil => intro s; rfl
  | cons l ls ih => intro s; rw [outsN, List.flatten_cons, ih, List.flatten_cons, outN_append]
theorem outsN_lengths (E : List Int → List Int) (n : Nat) (back : Bool) (ls : List (List Int)) : ∀ s, (outsN E n back s ls).map List.length = ls.map List.length := by
  induction ls with
  | nil => intro s; rfl
  | cons l ls ih => intro s; rw [outsN, List.map_cons, ih, List.map_cons, outN_length]
theorem outsN_length (E : List Int → List Int) (n : Nat) (back : Bool) (ls : List (List Int)) (s) : (outsN E n back s ls).length = ls.length := by
  have := congrArg List.length (outsN_lengths E n back ls s)
  simpa using this
theorem outsN_take (E : List Int → List Int) (n : Nat) (back : Bool) (s : List Int × Nat) (ls : List (List Int)) (i : Nat) (hi : i < ls.length) :
    outsN E n back s (ls.take (i + 1)) = outsN E n back s (ls.take i) ++ [outN E n back (stN E n back s (ls.take i).flatten) (ls.getD i [])] ∧
    stN E n back s (ls.take (i + 1)).flatten = stN E n back (stN E n back s (ls.take i).flatten) (ls.getD i []) := by
  rw [List.take_succ_eq_append_getElem hi, outsN_append, List.flatten_append, stN_append, List.getD_eq_getElem?_getD, List.getElem?_eq_getElem hi]
  refine ⟨rfl, ?_⟩
  simp
theorem infoS : (Try.prog.info? 22).map (fun i => (i.zero, i.size, i.bytes)) = some (some (.slice none 0 0), 1, 24) := by kernel_rfl

set_option maxHeartbeats 3200000 in
set_option maxRecDepth 100000 in
theorem streamedE_calls {lo hi base : Nat} {w : World} {x f a : Nat} {P S M : Option Addr} {cP cS cM : Nat} {perm sub mask : List Int} {s : List Int × Nat} (h : Str lo hi base w x f a P S M cP cS cM perm sub mask s.1 s.2) (hb : base ≤ w.heap.size)
    {A : Option Addr} {c n : Nat} {ls : List (List Int)} (hl : Kd.F (Kd.slice 5 (Kd.int .u8)) w (fun k => k ≠ x ∧ k ≠ f) A n ls) (hlB : ∀ l, l ∈ ls → Bytes l) (hn : n = ls.length) (hm : ls.length ≤ 100) (hlen : ∀ l, l ∈ ls → l.length ≤ 1000000) :
    Calls Try.prog 50 #[.iface 118 (.pointer (some ⟨x, 0, none⟩)), .slice A n c] w fun e w' => ∃ v, e = .returned v ∧
      Kd.N (Kd.slice 5 (Kd.int .u8)) 22 w' w.heap.size (fun k => w.heap.size ≤ k) v (outsN (enc perm sub mask) mask.length false s ls) ∧ Tch (fun k => k = x ∨ k = f) w w' := by
  subst hn
  have H0 := Aside0.mk h
  have HF := Aside0.mk hl
  have HB := Aside0.mk hlB
  have HL := Aside0.mk hlen
  have LX := Aside0.mk (show x < w.heap.size ∧ f < w.heap.size ∧ hi ≤ w.heap.size ∧ lo ≤ hi from ⟨World.block_lt_of_cell? w _ h.c0, Kd.R_lt h.rf f rfl, h.blk.hs, Nat.le_of_lt (Nat.lt_of_le_of_lt h.blk.al h.blk.ah)⟩)
  clear h hl hlB hlen
  go_enter Try.func50, Try.ntmps50
  go_wp2_with fail
  go_loopw [5, 11] (fun v i wr => ∃ k : Nat, k ≤ ls.length ∧ i = .int .i64 (k : Int) ∧ Aside0 (∃ F u, stN (enc perm sub mask) mask.length false s (ls.take k).flatten = (F, u) ∧ Str lo hi base wr x f a P S M cP cS cM perm sub mask F u) ∧ Aside0 (Kd.N (Kd.slice 5 (Kd.int .u8)) 22 wr w.heap.size (fun k => w.heap.size ≤ k) v (outsN (enc perm sub mask) mask.length false s (ls.take k))) ∧ Aside0 (Tch (fun k => k = x ∨ k = f) w wr)) (fun _ i _ => ls.length - (intOf i).toNat)
  case atStart => exact ⟨0, Nat.zero_le _, rfl, ⟨s.1, s.2, rfl, H0.out⟩, ⟨Kd.N_nil _ _ _ _ _⟩, ⟨Tch.refl _ _⟩⟩
  case round =>
    clear H0
    obtain ⟨k, hk, rfl, HS, HN, HT⟩ := hrel
    by_cases hlt : k < ls.length
    · obtain ⟨F, u, es, hs⟩ := HS.out
      have ES := Aside0.mk es
      have H1 := Aside0.mk hs
      clear es hs HS
      have hFw := Kd.F_step HF.out (fun j hj hlt => HT.out.block j hlt (fun e => by rcases e with e | e; exact hj.1 e; exact hj.2 e))
      obtain ⟨ad, cs, rfl, _, hK, hcc, _⟩ := Kd.F_get hFw [] (k : Int) (by omega) (by omega)
      obtain ⟨Ak, ck, rfl, hck, hFk⟩ := Kd.FK_slice_open hK
      have hx := hcc 0 _ rfl
      have ez : (k : Int).toNat * (Kd.slice 5 (Kd.int .u8)).sz + 0 = k := by show (k : Int).toNat * 1 + 0 = k; omega
      rw [ez] at hx
      rw [Int.toNat_natCast] at hx hFk hck
      obtain ⟨l, el⟩ : ∃ l, ls.getD k [] = l := ⟨_, rfl⟩
      rw [el] at hx hFk hck
      have FK1 := Aside0.mk hFk
      have LB := Aside0.mk (show Bytes l by rw [← el]; apply HB.out; rw [List.getD_eq_getElem?_getD, List.getElem?_eq_getElem hlt]; exact List.getElem_mem hlt)
      have EL := Aside0.mk el
      have lmax := Kd.C_max (Kd.F_now hFk)
      have l6 : l.length ≤ 1000000 := by rw [← el]; apply HL.out; rw [List.getD_eq_getElem?_getD, List.getElem?_eq_getElem hlt]; exact List.getElem_mem hlt
      have L6 := Aside0.mk l6
      have hmk := made_run (P := Try.prog) 22 5 l.length Try.underlying22 infoB (by omega)
      clear hK hcc hFk el ez hFw l6
      go_upto_region 6 with (fail)
      have hBa := below_alloc (Below.refl wr.heap.size wr) (.cells (madeCells #[Value.int IntKind.u8 0] l.length) 5)
      have zz := HT.out.size
      have RD := Aside0.mk (show R8 5 (wr.alloc (.cells (madeCells #[Value.int IntKind.u8 0] l.length) 5)) base (.slice (some ⟨wr.heap.size, 0, none⟩) l.length l.length) (List.replicate l.length 0) from Kd.R_lower (made8 5 l.length (by have := L6.out; omega) wr) (by omega))
      have H2 := Aside0.mk (H1.out.below hBa)
      have HN2 := Aside0.mk (Kd.N_below (Kd.N_bound HN.out) hBa)
      have HT2 := Aside0.mk (HT.out.trans (Tch.of_below hBa))
      have FK2 := Aside0.mk (Kd.F_mono (Kd.F_bound FK1.out) (ok' := fun k => k ≠ x ∧ k ≠ f ∧ k ≠ wr.heap.size) (fun k q => ⟨q.1.1, q.1.2, by have := q.2; omega⟩))
      have FK3 := Aside0.mk (Kd.F_below FK2.out hBa)
      have GG := Aside0.mk (show w.heap.size ≤ wr.heap.size ∧ ∀ k, k < wr.heap.size → ¬ wr.heap.size = k from ⟨zz, fun k q => by omega⟩)
      have NL := Aside0.mk (Kd.N_lt HN.out)
      clear H1 HN HT FK1 FK2 hmk zz hBa
      generalize wr.alloc (.cells (madeCells #[Value.int IntKind.u8 0] l.length) 5) = W1 at H2 HN2 HT2 FK3 RD ⊢
      generalize wr.heap.size = g at FK3 RD GG NL HN2 ⊢
      go_wp2_with (first | (go_at_call 115; (with_reducible refine (xorE_calls (s := (F, u)) (l := l) H2.out RD.out ?gx ?gf ?gh (Kd.F_now FK3.out) LB.out ?ho (Nat.le_refl _) rfl).mono ?_); (case gx => have := GG.out.1; have := LX.out; omega); (case gf => have := GG.out.1; have := LX.out; omega); (case gh => have := GG.out.1; have := LX.out; omega); (case ho => intro ad e hp hk; subst e; obtain ⟨_, _, e2, _, _, _, hq⟩ := Kd.F_get FK3.out (0 : Int) 0 (Int.le_refl 0) (by omega); injection e2 with e2; subst e2; have q := hq (by decide); rcases hk with hk | hk | hk; exact q.1 hk; exact q.2.1 hk; exact q.2.2 hk); rintro e W3 ⟨rfl, hS, hR, hT⟩; rw [List.drop_of_length_le (by rw [List.length_replicate]; exact Nat.le_refl _), List.append_nil] at hR; have H3 := Aside0.mk hS; have R3 := Aside0.mk hR; have HN3 := Aside0.mk (Kd.N_mono (Kd.N_step HN2.out (fun k hk hlt => hT.block k hlt (fun q => by have := LX.out; have := GG.out.1; have := hk.1; have := hk.2; omega))) (fun _ q => q.1)); have HT3 := Aside0.mk (Tch.step HT2.out hT (fun k q hlt => by rcases q with q | q | q; exact .inl q; exact .inr q; exact absurd hlt (by have := GG.out.1; omega))); clear H2 HN2 HT2 RD hS hR hT) | ((with_reducible refine gate_dst (N := 25) rfl ?_); refine Kd.N_append (Kd.slice 5 (Kd.int .u8)) (w0 := W3) w.heap.size rfl (.tmp 22) (.tmp 24) 40 22 (.slice none 0 0) 24 rfl Try.underlying40 infoS rfl (by decide) (by decide) _ (outsN (enc perm sub mask) mask.length false s (ls.take k)) (outN (enc perm sub mask) mask.length false (F, u) l) [.slice (some ⟨g, 0, none⟩) l.length l.length] (fun j => w.heap.size ≤ j) (fun j => j = g) rfl rfl ?hp ?hk ?hf HN3.out (Below.refl _ _) ?hb ?hl ?_; (case hp => have q1 := Kd.R_F (Kd.R_mono (Kd.R_tight rfl R3.out) (ok' := fun j => j = g) (fun j e => by simp [Value.ownBlock] at e; exact e)); have q2 := Kd.FK_slice_mk (e := 5) (d := Kd.int .u8) (W := W3) (ok := fun j => j = g) (A := some ⟨g, 0, none⟩) (c := l.length) (l := outN (enc perm sub mask) mask.length false (F, u) l) (by rw [outN_length]; exact Nat.le_refl _) (by rw [outN_length]; exact q1); rw [outN_length] at q2; exact q2); (case hk => intro j e; subst e; exact ⟨GG.out.1, fun e => absurd (NL.out _ e.symm) (Nat.lt_irrefl _)⟩); (case hf => intro j hj; exact Nat.le_trans HT3.out.size hj); (case hb => exact HT3.out.size); (case hl => rw [outsN_length, List.length_take]; omega); intro v1 w1 hN hB hG hAt; have ob := Kd.N_base HN3.out; have hT := Tch.of_grown hG; have N4 := Aside0.mk hN; have H4 := Aside0.mk (H3.out.kept hT (fun j e => .inl (by have := ob j e; have := LX.out; omega)) (fun e => by have := ob _ e; have := LX.out; omega) (fun e => by have := ob _ e; have := LX.out; omega)); have T4 := Aside0.mk (Tch.step HT3.out hT (fun j e hlt => absurd (ob j e) (by omega))); clear H3 R3 HN3 HT3 hN hB hG hAt ob hT))
      go_roundw
      case rel =>
        have e1 := outsN_take (enc perm sub mask) mask.length false s ls k hlt
        rw [ES.out, EL.out] at e1
        refine ⟨k + 1, hlt, by go_num, ⟨_, _, e1.2, H4.out⟩, ⟨?_⟩, T4⟩
        rw [e1.1]
        exact N4.out
      case measure => simp [intOf]; omega
    · obtain rfl : k = ls.length := by omega
      rw [List.take_length] at HN
      go_wp2
      go_ret
      exact ⟨_, rfl, HN.out, HT.out⟩

set_option maxHeartbeats 3200000 in
set_option maxRecDepth 100000 in
theorem streamedD_calls {lo hi base : Nat} {w : World} {x f a : Nat} {P S M : Option Addr} {cP cS cM : Nat} {perm sub mask : List Int} {s : List Int × Nat} (h : Str lo hi base w x f a P S M cP cS cM perm sub mask s.1 s.2) (hb : base ≤ w.heap.size)
    {A : Option Addr} {c n : Nat} {ls : List (List Int)} (hl : Kd.F (Kd.slice 5 (Kd.int .u8)) w (fun k => k ≠ x ∧ k ≠ f) A n ls) (hlB : ∀ l, l ∈ ls → Bytes l) (hn : n = ls.length) (hm : ls.length ≤ 100) (hlen : ∀ l, l ∈ ls → l.length ≤ 1000000) :
    Calls Try.prog 50 #[.iface 110 (.pointer (some ⟨x, 0, none⟩)), .slice A n c] w fun e w' => ∃ v, e = .returned v ∧
      Kd.N (Kd.slice 5 (Kd.int .u8)) 22 w' w.heap.size (fun k => w.heap.size ≤ k) v (outsN (enc perm sub mask) mask.length true s ls) ∧ Tch (fun k => k = x ∨ k = f) w w' := by
  subst hn
  have H0 := Aside0.mk h
  have HF := Aside0.mk hl
  have HB := Aside0.mk hlB
  have HL := Aside0.mk hlen
  have LX := Aside0.mk (show x < w.heap.size ∧ f < w.heap.size ∧ hi ≤ w.heap.size ∧ lo ≤ hi from ⟨World.block_lt_of_cell? w _ h.c0, Kd.R_lt h.rf f rfl, h.blk.hs, Nat.le_of_lt (Nat.lt_of_le_of_lt h.blk.al h.blk.ah)⟩)
  clear h hl hlB hlen
  go_enter Try.func50, Try.ntmps50
  go_wp2_with fail
  go_loopw [5, 11] (fun v i wr => ∃ k : Nat, k ≤ ls.length ∧ i = .int .i64 (k : Int) ∧ Aside0 (∃ F u, stN (enc perm sub mask) mask.length true s (ls.take k).flatten = (F, u) ∧ Str lo hi base wr x f a P S M cP cS cM perm sub mask F u) ∧ Aside0 (Kd.N (Kd.slice 5 (Kd.int .u8)) 22 wr w.heap.size (fun k => w.heap.size ≤ k) v (outsN (enc perm sub mask) mask.length true s (ls.take k))) ∧ Aside0 (Tch (fun k => k = x ∨ k = f) w wr)) (fun _ i _ => ls.length - (intOf i).toNat)
  case atStart => exact ⟨0, Nat.zero_le _, rfl, ⟨s.1, s.2, rfl, H0.out⟩, ⟨Kd.N_nil _ _ _ _ _⟩, ⟨Tch.refl _ _⟩⟩
  case round =>
    clear H0
    obtain ⟨k, hk, rfl, HS, HN, HT⟩ := hrel
    by_cases hlt : k < ls.length
    · obtain ⟨F, u, es, hs⟩ := HS.out
      have ES := Aside0.mk es
      have H1 := Aside0.mk hs
      clear es hs HS
      have hFw := Kd.F_step HF.out (fun j hj hlt => HT.out.block j hlt (fun e => by rcases e with e | e; exact hj.1 e; exact hj.2 e))
      obtain ⟨ad, cs, rfl, _, hK, hcc, _⟩ := Kd.F_get hFw [] (k : Int) (by omega) (by omega)
      obtain ⟨Ak, ck, rfl, hck, hFk⟩ := Kd.FK_slice_open hK
      have hx := hcc 0 _ rfl
      have ez : (k : Int).toNat * (Kd.slice 5 (Kd.int .u8)).sz + 0 = k := by show (k : Int).toNat * 1 + 0 = k; omega
      rw [ez] at hx
      rw [Int.toNat_natCast] at hx hFk hck
      obtain ⟨l, el⟩ : ∃ l, ls.getD k [] = l := ⟨_, rfl⟩
      rw [el] at hx hFk hck
      have FK1 := Aside0.mk hFk
      have LB := Aside0.mk (show Bytes l by rw [← el]; apply HB.out; rw [List.getD_eq_getElem?_getD, List.getElem?_eq_getElem hlt]; exact List.getElem_mem hlt)
      have EL := Aside0.mk el
      have lmax := Kd.C_max (Kd.F_now hFk)
      have l6 : l.length ≤ 1000000 := by rw [← el]; apply HL.out; rw [List.getD_eq_getElem?_getD, List.getElem?_eq_getElem hlt]; exact List.getElem_mem hlt
      have L6 := Aside0.mk l6
      have hmk := made_run (P := Try.prog) 22 5 l.length Try.underlying22 infoB (by omega)
      clear hK hcc hFk el ez hFw l6
      go_upto_region 6 with (fail)
      have hBa := below_alloc (Below.refl wr.heap.size wr) (.cells (madeCells #[Value.int IntKind.u8 0] l.length) 5)
      have zz := HT.out.size
      have RD := Aside0.mk (show R8 5 (wr.alloc (.cells (madeCells #[Value.int IntKind.u8 0] l.length) 5)) base (.slice (some ⟨wr.heap.size, 0, none⟩) l.length l.length) (List.replicate l.length 0) from Kd.R_lower (made8 5 l.length (by have := L6.out; omega) wr) (by omega))
      have H2 := Aside0.mk (H1.out.below hBa)
      have HN2 := Aside0.mk (Kd.N_below (Kd.N_bound HN.out) hBa)
      have HT2 := Aside0.mk (HT.out.trans (Tch.of_below hBa))
      have FK2 := Aside0.mk (Kd.F_mono (Kd.F_bound FK1.out) (ok' := fun k => k ≠ x ∧ k ≠ f ∧ k ≠ wr.heap.size) (fun k q => ⟨q.1.1, q.1.2, by have := q.2; omega⟩))
      have FK3 := Aside0.mk (Kd.F_below FK2.out hBa)
      have GG := Aside0.mk (show w.heap.size ≤ wr.heap.size ∧ ∀ k, k < wr.heap.size → ¬ wr.heap.size = k from ⟨zz, fun k q => by omega⟩)
      have NL := Aside0.mk (Kd.N_lt HN.out)
      clear H1 HN HT FK1 FK2 hmk zz hBa
      generalize wr.alloc (.cells (madeCells #[Value.int IntKind.u8 0] l.length) 5) = W1 at H2 HN2 HT2 FK3 RD ⊢
      generalize wr.heap.size = g at FK3 RD GG NL HN2 ⊢
      go_wp2_with (first | (go_at_call 111; (with_reducible refine (xorD_calls (s := (F, u)) (l := l) H2.out RD.out ?gx ?gf ?gh (Kd.F_now FK3.out) LB.out ?ho (Nat.le_refl _) rfl).mono ?_); (case gx => have := GG.out.1; have := LX.out; omega); (case gf => have := GG.out.1; have := LX.out; omega); (case gh => have := GG.out.1; have := LX.out; omega); (case ho => intro ad e hp hk; subst e; obtain ⟨_, _, e2, _, _, _, hq⟩ := Kd.F_get FK3.out (0 : Int) 0 (Int.le_refl 0) (by omega); injection e2 with e2; subst e2; have q := hq (by decide); rcases hk with hk | hk | hk; exact q.1 hk; exact q.2.1 hk; exact q.2.2 hk); rintro e W3 ⟨rfl, hS, hR, hT⟩; rw [List.drop_of_length_le (by rw [List.length_replicate]; exact Nat.le_refl _), List.append_nil] at hR; have H3 := Aside0.mk hS; have R3 := Aside0.mk hR; have HN3 := Aside0.mk (Kd.N_mono (Kd.N_step HN2.out (fun k hk hlt => hT.block k hlt (fun q => by have := LX.out; have := GG.out.1; have := hk.1; have := hk.2; omega))) (fun _ q => q.1)); have HT3 := Aside0.mk (Tch.step HT2.out hT (fun k q hlt => by rcases q with q | q | q; exact .inl q; exact .inr q; exact absurd hlt (by have := GG.out.1; omega))); clear H2 HN2 HT2 RD hS hR hT) | ((with_reducible refine gate_dst (N := 25) rfl ?_); refine Kd.N_append (Kd.slice 5 (Kd.int .u8)) (w0 := W3) w.heap.size rfl (.tmp 22) (.tmp 24) 40 22 (.slice none 0 0) 24 rfl Try.underlying40 infoS rfl (by decide) (by decide) _ (outsN (enc perm sub mask) mask.length true s (ls.take k)) (outN (enc perm sub mask) mask.length true (F, u) l) [.slice (some ⟨g, 0, none⟩) l.length l.length] (fun j => w.heap.size ≤ j) (fun j => j = g) rfl rfl ?hp ?hk ?hf HN3.out (Below.refl _ _) ?hb ?hl ?_; (case hp => have q1 := Kd.R_F (Kd.R_mono (Kd.R_tight rfl R3.out) (ok' := fun j => j = g) (fun j e => by simp [Value.ownBlock] at e; exact e)); have q2 := Kd.FK_slice_mk (e := 5) (d := Kd.int .u8) (W := W3) (ok := fun j => j = g) (A := some ⟨g, 0, none⟩) (c := l.length) (l := outN (enc perm sub mask) mask.length true (F, u) l) (by rw [outN_length]; exact Nat.le_refl _) (by rw [outN_length]; exact q1); rw [outN_length] at q2; exact q2); (case hk => intro j e; subst e; exact ⟨GG.out.1, fun e => absurd (NL.out _ e.symm) (Nat.lt_irrefl _)⟩); (case hf => intro j hj; exact Nat.le_trans HT3.out.size hj); (case hb => exact HT3.out.size); (case hl => rw [outsN_length, List.length_take]; omega); intro v1 w1 hN hB hG hAt; have ob := Kd.N_base HN3.out; have hT := Tch.of_grown hG; have N4 := Aside0.mk hN; have H4 := Aside0.mk (H3.out.kept hT (fun j e => .inl (by have := ob j e; have := LX.out; omega)) (fun e => by have := ob _ e; have := LX.out; omega) (fun e => by have := ob _ e; have := LX.out; omega)); have T4 := Aside0.mk (Tch.step HT3.out hT (fun j e hlt => absurd (ob j e) (by omega))); clear H3 R3 HN3 HT3 hN hB hG hAt ob hT))
      go_roundw
      case rel =>
        have e1 := outsN_take (enc perm sub mask) mask.length true s ls k hlt
        rw [ES.out, EL.out] at e1
        refine ⟨k + 1, hlt, by go_num, ⟨_, _, e1.2, H4.out⟩, ⟨?_⟩, T4⟩
        rw [e1.1]
        exact N4.out
      case measure => simp [intOf]; omega
    · obtain rfl : k = ls.length := by omega
      rw [List.take_length] at HN
      go_wp2
      go_ret
      exact ⟨_, rfl, HN.out, HT.out⟩

end Go.Proofs.Ytkehjcppgpoobaa.Ocf

/- A stream of the feedback mode while it is made: the stream, and a row of the call's own beside it. -/
set_option linter.unusedVariables false
set_option linter.unusedSimpArgs false
namespace Go.Proofs.Ytkehjcppgpoobaa.Ocf
open Go.RowKit Go.Proofs.YtkehjcppgpoobaaW.PrintWords Go.Proofs.YtkehjcppgpoobaaW.PrintMore Go.Proofs.Ytkehjcppgpoobaa.Kit Go.Proofs.Ytkehjcppgpoobaa.Mix Go.Proofs.Ytkehjcppgpoobaa.Blk

section
variable {lo hi base : Nat} {w w1 : World} {x f a : Nat} {P S M : Option Addr} {cP cS cM : Nat} {perm sub mask F X : List Int} {u : Nat}
theorem Str.encd (h : Str lo hi base w x f a P S M cP cS cM perm sub mask F u) (hT : Tch (fun k => k = f) w w1) (hR : R8 5 w1 base (.slice (some ⟨f, 0, none⟩) mask.length mask.length) (F.take 0 ++ (enc perm sub mask X ++ F.drop (0 + mask.length)))) : Str lo hi base w1 x f a P S M cP cS cM perm sub mask (enc perm sub mask X) u := by
  have e : F.take 0 ++ (enc perm sub mask X ++ F.drop (0 + mask.length)) = enc perm sub mask X := by
    rw [List.take_zero, List.nil_append, List.drop_of_length_le (by rw [h.len]; omega), List.append_nil]
  rw [e] at hR
  exact { h with
    blk := h.blk.kept hT (fun k e => .inl (by have := h.hf; omega))
    c0 := hT.cell h.c0 h.xf
    c1 := hT.cell h.c1 h.xf
    c2 := hT.cell h.c2 h.xf
    z2 := (hT.frozen (World.block_lt_of_cell? w _ h.c2) h.xf).trans h.z2
    rf := hR
    bF := enc_bytes h.blk.rt }
end
/-- The stream at x and the row L at g, all but the cipher made since w0. -/
structure Neu (w0 : World) (lo hi : Nat) (w : World) (x f a g N C : Nat) (P S M : Option Addr) (cP cS cM : Nat) (perm sub mask : List Int) (F : List Int) (u : Nat) (L : List Int) : Prop where
  st : Str lo hi w0.heap.size w x f a P S M cP cS cM perm sub mask F u
  pr : R8 5 w w0.heap.size (.slice (some ⟨g, 0, none⟩) N C) L
  bL : Bytes L
  gx : g ≠ x
  gf : g ≠ f
  gh : w0.heap.size ≤ g
  hiw : hi ≤ w0.heap.size
  xh : w0.heap.size ≤ x
  fh : w0.heap.size ≤ f
  bl : Below w0.heap.size w0 w
section
variable {w0 : World} {lo hi : Nat} {w w1 : World} {x f a g N C : Nat} {P S M : Option Addr} {cP cS cM : Nat} {perm sub mask F X L : List Int} {u : Nat}
theorem Neu.len (h : Neu w0 lo hi w x f a g N C P S M cP cS cM perm sub mask F u L) : N = L.length ∧ N ≤ C ∧ C8 w (some ⟨g, 0, none⟩) L := Kd.R_reads' h.pr
theorem Neu.below (h : Neu w0 lo hi w x f a g N C P S M cP cS cM perm sub mask F u L) (hB : Below w.heap.size w w1) : Neu w0 lo hi w1 x f a g N C P S M cP cS cM perm sub mask F u L :=
  { h with st := h.st.below hB, pr := Kd.R_below h.pr hB, bl := below_then h.bl (below_size h.bl) hB }
theorem Neu.drew (h : Neu w0 lo hi w x f a g N C P S M cP cS cM perm sub mask F u L) : Neu w0 lo hi w.drew x f a g N C P S M cP cS cM perm sub mask F u L := h.below (below_drew (Below.refl _ _))
theorem Neu.encd (h : Neu w0 lo hi w x f a g N C P S M cP cS cM perm sub mask F u L) (hT : Tch (fun k => k = f) w w1) (hR : R8 5 w1 w0.heap.size (.slice (some ⟨f, 0, none⟩) mask.length mask.length) (F.take 0 ++ (enc perm sub mask X ++ F.drop (0 + mask.length)))) : Neu w0 lo hi w1 x f a g N C P S M cP cS cM perm sub mask (enc perm sub mask X) u L :=
  { h with
    st := h.st.encd hT hR
    pr := hT.r8 h.pr (fun k e => by simp [Value.ownBlock] at e; subst e; exact h.gf)
    bl := hT.below h.bl (below_size h.bl) (fun k e => by subst e; exact h.fh) }
theorem Neu.used (h : Neu w0 lo hi w x f a g N C P S M cP cS cM perm sub mask F u L) (v : Nat) (hv : v ≤ mask.length) : Neu w0 lo hi (w.setCell ⟨x, 2, none⟩ (.int .i64 (v : Int))) x f a g N C P S M cP cS cM perm sub mask F v L :=
  have hT : Tch (fun k => k = x) w (w.setCell ⟨x, 2, none⟩ (.int .i64 (v : Int))) := (Tch.refl (fun k => k = x) w).setCell (p := ⟨x, 2, none⟩) (fun _ => rfl) _
  { h with
    st := h.st.used v hv
    pr := hT.r8 h.pr (fun k e => by simp [Value.ownBlock] at e; subst e; exact h.gx)
    bl := hT.below h.bl (below_size h.bl) (fun k e => by subst e; exact h.xh) }
theorem Neu.put (h : Neu w0 lo hi w x f a g N C P S M cP cS cM perm sub mask F u L) (i : Nat) {v : Int} (v0 : 0 ≤ v) (v1 : v ≤ 255) : Neu w0 lo hi (w.setCell ⟨f, i, none⟩ (.int .u8 v)) x f a g N C P S M cP cS cM perm sub mask (F.set i v) u L :=
  have hT : Tch (fun k => k = f) w (w.setCell ⟨f, i, none⟩ (.int .u8 v)) := (Tch.refl (fun k => k = f) w).setCell (p := ⟨f, i, none⟩) (fun _ => rfl) _
  { h with
    st := h.st.put i v0 v1
    pr := hT.r8 h.pr (fun k e => by simp [Value.ownBlock] at e; subst e; exact h.gf)
    bl := hT.below h.bl (below_size h.bl) (fun k e => by subst e; exact h.fh) }
theorem Neu.lay (h : Neu w0 lo hi w x f a g N C P S M cP cS cM perm sub mask F u L) (i : Nat) {v : Int} (v0 : 0 ≤ v) (v1 : v ≤ 255) : Neu w0 lo hi (w.setCell ⟨g, i, none⟩ (.int .u8 v)) x f a g N C P S M cP cS cM perm sub mask F u (L.set i v) := by
  have hT : Tch (fun k => k = g) w (w.setCell ⟨g, i, none⟩ (.int .u8 v)) := (Tch.refl (fun k => k = g) w).setCell (p := ⟨g, i, none⟩) (fun _ => rfl) _
  have hR := (Kd.R_putg h.pr (i : Int) v).1
  rw [Int.toNat_natCast] at hR
  have z := below_size h.bl
  have bh := h.st.blk
  exact { h with
    st := h.st.kept hT (fun k e => .inl (by subst e; have := h.st.hx; have := h.st.hf; have := h.gh; have := h.st.blk.hs; have := h.hiw; omega)) (fun e => h.gx e.symm) (fun e => h.gf e.symm)
    pr := hR
    bL := bytes_set h.bL i v0 v1
    bl := hT.below h.bl z (fun k e => by subst e; exact h.gh) }
end
end Go.Proofs.Ytkehjcppgpoobaa.Ocf

/- Rows of bytes cut: l[:k], l[k:]. -/
set_option linter.unusedVariables false
set_option linter.unusedSimpArgs false
namespace Go.Proofs.Ytkehjcppgpoobaa.Kit
open Go.RowKit Go.Proofs.YtkehjcppgpoobaaW.PrintWords

theorem info_partsC {P : Program} {e : TypeId} {z : Value} {a b : Nat} (h : (P.info? e).map (fun i => (i.zero, i.size, i.bytes)) = some (some z, a, b)) : ∃ i, P.info? e = some i ∧ i.zero = some z ∧ i.size = a ∧ i.bytes = b := by
  obtain ⟨i0, hi, hzz⟩ := Option.map_eq_some_iff.1 h
  simp only [Prod.mk.injEq] at hzz
  exact ⟨i0, hi, hzz.1, hzz.2.1, hzz.2.2⟩
/-- The address lies in the block of that one. -/
def Same (A' A : Option Addr) : Prop := ∀ ad', A' = some ad' → ∃ ad, A = some ad ∧ ad'.block = ad.block
theorem Same.refl (A : Option Addr) : Same A A := fun ad' e => ⟨ad', e, rfl⟩
section
variable {P : Program} {t e : TypeId}
theorem take8 (ht : P.underlying t = some (.slice e)) (hinfo : (P.info? e).map (fun i => (i.zero, i.size, i.bytes)) = some (some (.int .u8 0), 1, 1)) (A : Option Addr) (c : Nat) (l : List Int) (k : Nat) (hk : k ≤ l.length) (hc : l.length ≤ c) {n : Nat} (hn : n = l.length) :
    (∀ W : World, (Instr.slice t (.slice A n c) none (some (.int .i64 (k : Int))) none).run P W = .ok (.slice A k c) W) ∧ (∀ w, C8 w A l → C8 w A (l.take k)) := by
  subst hn
  obtain ⟨i, hi, _, hs, _⟩ := info_partsC hinfo
  have hl : (l.take k).length = k := by rw [List.length_take]; omega
  obtain ⟨h1, h2, _⟩ := print_take_of (P := P) (Value.int .u8) (0 : Int) t e .i64 ht hi hs A c l (k : Int) (by omega) (by omega) hc
  rw [Int.toNat_natCast] at h1 h2
  rw [hl] at h1
  exact ⟨h1, fun w h => Kd.C_of_reads (h1 := fun _ => rfl) (h2 w (Kd.reads_of_C h))⟩
theorem drop8 (ht : P.underlying t = some (.slice e)) (hinfo : (P.info? e).map (fun i => (i.zero, i.size, i.bytes)) = some (some (.int .u8 0), 1, 1)) (A : Option Addr) (c : Nat) (l : List Int) (k : Nat) (hk : k ≤ l.length) (hc : l.length ≤ c) {n : Nat} (hn : n = l.length) :
    ∃ A', (∀ W : World, (Instr.slice t (.slice A n c) (some (.int .i64 (k : Int))) none none).run P W = .ok (.slice A' (n - k) (c - k)) W) ∧ (∀ w, C8 w A l → C8 w A' (l.drop k)) ∧ Same A' A := by
  subst hn
  obtain ⟨i, hi, _, hsz, _⟩ := info_partsC hinfo
  have hl : (l.drop k).length = l.length - k := List.length_drop
  refine ⟨if c = k then A else A.map (·.add k), fun W => ?_, fun w h => ?_, ?_⟩
  · have hel : P.elem t = e := by simp [Program.elem, ht]
    have hu : P.underlying t = some (.slice (P.elem t)) := by rw [hel]; exact ht
    rw [run_slice_l W t A l.length c hu .i64 (k : Int) (Int.natCast_nonneg _) (by omega), hel]
    simp [sizeOf, typeInfo, hi, hsz, sliced, Result.andThen]
  · have := ReadsOf.drop_ (h := Kd.reads_of_C (enc := Value.int .u8) (d := (0 : Int)) (h1 := fun _ => rfl) h) k hk hc
    rw [← hl] at this
    exact Kd.C_of_reads (h1 := fun _ => rfl) this
  · intro ad' e
    by_cases h : c = k
    · rw [if_pos h] at e; exact ⟨ad', e, rfl⟩
    · rw [if_neg h] at e
      cases A with
      | none => cases e
      | some ad => injection e with e; exact ⟨ad, rfl, by rw [← e, add_block]⟩
end
theorem bytesC_take {l : List Int} (h : ∀ i, 0 ≤ l.getD i 0 ∧ l.getD i 0 ≤ 255) (k : Nat) : ∀ i, 0 ≤ (l.take k).getD i 0 ∧ (l.take k).getD i 0 ≤ 255 := by
  intro i
  rw [List.getD_eq_getElem?_getD, List.getElem?_take]
  by_cases hi : i < k
  · rw [if_pos hi, ← List.getD_eq_getElem?_getD]; exact h i
  · rw [if_neg hi]; simp
theorem bytesC_drop {l : List Int} (h : ∀ i, 0 ≤ l.getD i 0 ∧ l.getD i 0 ≤ 255) (k : Nat) : ∀ i, 0 ≤ (l.drop k).getD i 0 ∧ (l.drop k).getD i 0 ≤ 255 := by
  intro i
  rw [List.getD_eq_getElem?_getD, List.getElem?_drop, ← List.getD_eq_getElem?_getD]
  exact h _
end Go.Proofs.Ytkehjcppgpoobaa.Kit

/- spec.Cfb over plain data, walked. -/
set_option linter.unusedVariables false
set_option linter.unusedSimpArgs false
namespace Go.Proofs.Ytkehjcppgpoobaa.Ocf
open Go.RowKit Go.Proofs.YtkehjcppgpoobaaW.PrintWords Go.Proofs.YtkehjcppgpoobaaW.PrintMore Go.Proofs.Ytkehjcppgpoobaa.Kit Go.Proofs.Ytkehjcppgpoobaa.Mix Go.Proofs.Ytkehjcppgpoobaa.Blk Go.Proofs.Ytkehjcppgpoobaa.PFnOcfb

theorem nil_enc (l : Array Value) (w : World) : (nilAhead 310 79 (.agg l) "Encipher").run Try.prog w = .ok (some false) w := by kernel_rfl
def lenOf : Value → Nat
  | .slice _ n _ => n
  | _ => 0
/-- What stands at the head of Cfb's loop. -/
structure CfI (w0 w : World) (E : List Int → List Int) (n : Nat) (back : Bool) (total : List Int) (Ar : Option Addr) (R : List Int) (At : Option Addr) (T : List Int) (ov : Value) (O : List Int) : Prop where
  rr : C8 w Ar R
  rt : C8 w At T
  ro : R8 5 w w0.heap.size ov O
  bR : Bytes R
  bT : Bytes T
  lr : T = [] ∨ R.length = n
  fr : ∀ g, ov.ownBlock = some g → ∀ ad, Ar = some ad → 0 < R.length → ad.block ≠ g
  ft : ∀ ad, At = some ad → 0 < T.length → ad.block < w0.heap.size
  eq : O ++ outN E n back (R, n) T = total
  bl : Below w0.heap.size w0 w
  ln : O.length + T.length ≤ 100000000

theorem CfI.below {w0 w w1 : World} {E : List Int → List Int} {n : Nat} {back : Bool} {total : List Int} {Ar : Option Addr} {R : List Int} {At : Option Addr} {T : List Int} {ov : Value} {O : List Int} (h : CfI w0 w E n back total Ar R At T ov O) (hB : Below w.heap.size w w1) : CfI w0 w1 E n back total Ar R At T ov O :=
  { h with rr := Kd.C_below h.rr hB, rt := Kd.C_below h.rt hB, ro := Kd.R_below h.ro hB, bl := below_then h.bl (below_size h.bl) hB }
theorem segO_bytes {f : List Int} (hf : Bytes f) {l : List Int} (hl : Bytes l) (u : Nat) : Bytes (segO f u l) := by
  intro i
  by_cases hi : i < l.length
  · rw [segO_getD f l u i hi]
    have h1 := hf (u + i)
    have h2 := hl i
    have := xr_range h1.1 h1.2 h2.1 h2.2
    omega
  · rw [List.getD_eq_getElem?_getD, List.getElem?_eq_none (by rw [segO_length]; omega)]; simp
theorem CfI.step {w0 w w1 w2 : World} {E : List Int → List Int} {n : Nat} {back : Bool} {total : List Int} {Ar : Option Addr} {R : List Int} {At : Option Addr} {T : List Int} {ov : Value} {O : List Int} (h : CfI w0 w E n back total Ar R At T ov O)
    (hn : 0 < n) (hE : (E R).length = n) (hEB : Bytes (E R)) {k : Nat} (hk : k = min n T.length) {y : List Int} (ey : y = segO (E R) 0 (T.take k)) {Ay : Option Addr}
    (hB : Below w.heap.size w w1) (hy : C8 w1 Ay y) (ya : ∀ ad, Ay = some ad → w.heap.size ≤ ad.block ∧ ad.block < w1.heap.size) {v1 : Value} (hg : w1.grownBy w2 ov.ownBlock) (hB2 : Below w0.heap.size w0 w2) (ho : R8 5 w2 w0.heap.size v1 (O ++ y)) (hat : v1.ownBlock = ov.ownBlock ∨ ∃ b, v1.ownBlock = some b ∧ w1.heap.size ≤ b)
    {At' : Option Addr} (hd : ∀ w, C8 w At T → C8 w At' (T.drop k)) (hs : Same At' At) (ht : ∀ w, C8 w At T → C8 w At (T.take k)) :
    CfI w0 w2 E n back total (if back = true then At else Ay) (if back = true then T.take k else y) At' (T.drop k) v1 (O ++ y) := by
  have hB1 : Below w0.heap.size w0 w1 := below_then h.bl (below_size h.bl) hB
  have hT := Tch.of_grown hg
  have lk : (T.take k).length = k := by rw [List.length_take]; omega
  have ly : y.length = k := by rw [ey, segO_length, lk]
  have rtw1 : C8 w1 At T := Kd.C_below h.rt hB
  have z0 := below_size h.bl
  have z1 := below_size hB
  have ol : ∀ g, ov.ownBlock = some g → w0.heap.size ≤ g ∧ g < w.heap.size := fun g e => ⟨Kd.R_base h.ro g e, Kd.R_lt h.ro g e⟩
  have rtw2 : C8 w2 At T := hT.c8 rtw1 (fun ad e hp he => by have := h.ft ad e hp; have := ol _ he; omega)
  have ryw2 : C8 w2 Ay y := hT.c8 hy (fun ad e _ he => by have := ya ad e; have := ol _ he; omega)
  have fresh : ∀ g, v1.ownBlock = some g → w0.heap.size ≤ g ∧ (g < w.heap.size ∨ w1.heap.size ≤ g) := by
    intro g e
    refine ⟨Kd.R_base ho g e, ?_⟩
    rcases hat with hat | ⟨b, hb, hb2⟩
    · exact .inl (ol g (hat ▸ e)).2
    · rw [hb] at e; injection e with e; exact .inr (by omega)
  have hT2 : T.drop k = [] ∨ k = n := by
    by_cases e : k = n
    · exact .inr e
    · exact .inl (List.drop_of_length_le (by omega))
  have hblk := block E n back R T hn hE hk
  refine ⟨?_, hd _ rtw2, ho, ?_, bytesC_drop h.bT k, ?_, ?_, ?_, ?_, ?_, ?_⟩
  · cases back
    · exact ryw2
    · exact ht _ rtw2
  · cases back
    · show Bytes y
      rw [ey]; exact segO_bytes hEB (bytes_take h.bT k) 0
    · exact bytes_take h.bT k
  · rcases hT2 with e | e
    · exact .inl e
    · refine .inr ?_
      cases back
      · exact ly.trans e
      · exact lk.trans e
  · intro g e ad ea hp
    have := fresh g e
    cases back
    · have := ya ad ea; omega
    · have := h.ft ad ea (by have hp' : 0 < (T.take k).length := hp; rw [List.length_take] at hp'; omega); omega
  · intro ad ea hp
    obtain ⟨ad0, e0, e1⟩ := hs ad ea
    rw [e1]
    rw [List.length_drop] at hp
    exact h.ft ad0 e0 (by omega)
  · have e1 : (if back = true then T.take k else y) = keeps back (E R) 0 (T.take k) := by
      unfold keeps; rw [ey]
    rw [e1, List.append_assoc, ey, ← hblk]
    exact h.eq
  · exact hB2
  · rw [List.length_append, ly, List.length_drop]
    have := h.ln
    omega

theorem xored_k (A0 : Option Addr) (c0 : Nat) (l0 : List Int) (A1 : Option Addr) (c1 : Nat) (l1 : List Int) (w : World) {n0 n1 : Nat} (h0 : n0 = l0.length) (h1 : n1 = l1.length) (hr0 : C8 w A0 l0) (hc0 : n0 ≤ c0) (hr1 : C8 w A1 l1) (hc1 : n1 ≤ c1) (hle : l1.length ≤ l0.length) (hb : l0.length ≤ 4294967296) :
    Calls Try.prog 63 #[.slice A0 n0 c0, .slice A1 n1 c1] w fun e w' => ∃ v, e = .returned v ∧ R8 5 w' w.heap.size v (mix l0 l1 l1.length) ∧ Below w.heap.size w w' := by
  subst h0
  subst h1
  exact (spec_Xored.calls (l1.length + 1) A0 c0 l0 A1 c1 l1 _ w hr0 hc0 hr1 hc1 (xored_f l0 l1 hle hb)).mono (fun e w' h => h)

set_option maxHeartbeats 1600000 in
set_option maxRecDepth 100000 in
theorem cfb_calls (Ap : Option Addr) (cp : Nat) (perm : List Int) (As : Option Addr) (cs : Nat) (sub : List Int) (Am : Option Addr) (cm : Nat) (mask : List Int) (Ar : Option Addr) (cr : Nat) (R : List Int) (At : Option Addr) (ct : Nat) (T : List Int) (back : Bool) (w : World)
    (hp : C8 w Ap perm) (hs : C8 w As sub) (hm : C8 w Am mask) (hr : Right perm sub mask) (hR : C8 w Ar R) (hRB : Bytes R) (hRl : R.length = mask.length) (hT : C8 w At T) (hTB : Bytes T) (hTc : T.length ≤ ct) (hTl : T.length ≤ 100000000) {nr nt : Nat} (hnr : nr = R.length) (hnt : nt = T.length) :
    Calls Try.prog 44 #[.iface 79 (.agg #[.slice Ap perm.length cp, .slice As sub.length cs, .slice Am mask.length cm]), .slice Ar nr cr, .slice At nt ct, .bool back] w fun e w' => ∃ v, e = .returned v ∧ R8 5 w' w.heap.size v (outN (enc perm sub mask) mask.length back (R, mask.length) T) ∧ Below w.heap.size w w' := by
  subst hnr
  subst hnt
  obtain ⟨total, et⟩ : ∃ total, outN (enc perm sub mask) mask.length back (R, mask.length) T = total := ⟨_, rfl⟩
  have h0 : CfI w w (enc perm sub mask) mask.length back total Ar R At T (.slice none 0 0) [] :=
    ⟨hR, hT, Kd.R_nil _ _ _ _ _, hRB, hTB, .inr hRl, fun g e => by simp [Value.ownBlock] at e, c8_lt hT, by rw [List.nil_append]; exact et, Below.refl _ _, by simp; omega⟩
  rw [et]
  have HP := Aside0.mk hp
  have HS := Aside0.mk hs
  have HM := Aside0.mk hm
  have HR := Aside0.mk hr
  have H0 := Aside0.mk h0
  have m1 := hr.m1
  have m2 := hr.m2
  clear hp hs hm hr hR hT hRB hTB hRl h0 et
  go_enter Try.func44, Try.ntmps44
  go_wp2_with (go_at_call 110; (with_reducible refine (dsize_calls Ap perm.length cp As sub.length cs Am mask.length cm).mono ?_); rintro e w1 ⟨rfl, hB⟩; have n1 := Aside0.mk (H0.out.below hB); clear H0 hB; have H0 := n1; clear n1)
  go_loopw [1, 2, 10] (fun rv tv ov wr => ∃ Ar cr R At ct T O, rv = .slice Ar R.length cr ∧ tv = .slice At T.length ct ∧ T.length ≤ ct ∧ Aside0 (CfI w wr (enc perm sub mask) mask.length back total Ar R At T ov O)) (fun _ tv _ _ => lenOf tv)
  case atStart => exact ⟨Ar, cr, R, At, ct, T, [], rfl, rfl, hTc, H0⟩
  case round =>
    clear H0
    clear hTc hTl
    obtain ⟨Ar, cr, R, At, ct, T, O, rfl, rfl, hct, HC⟩ := hrel
    by_cases hne : 0 < T.length
    · by_cases hs : T.length < mask.length
      ·
        have hRl : R.length = mask.length := by
          rcases HC.out.lr with e | e
          · rw [e] at hne; simp at hne
          · exact e
        have RL := Aside0.mk hRl
        have k1 : T.length ≤ T.length := by omega
        have k2 : T.length ≤ mask.length := by omega
        have k0 : 0 < T.length := by omega
        have KE := Aside0.mk (show T.length = min mask.length T.length by omega)
        obtain ⟨t1, t2⟩ := take8 (P := Try.prog) (t := 22) (e := 5) Try.underlying22 infoB At ct T (T.length) k1 hct rfl
        obtain ⟨At', d1, d2, d3⟩ := drop8 (P := Try.prog) (t := 22) (e := 5) Try.underlying22 infoB At ct T (T.length) k1 hct rfl
        have T2 := Aside0.mk t2
        have D2 := Aside0.mk (And.intro d2 d3)
        have LT := Aside0.mk (show (T.take (T.length)).length = T.length ∧ ((enc perm sub mask R).take (T.length)).length = T.length by rw [List.length_take, List.length_take, enc_length]; omega)
        obtain ⟨y, ey⟩ : ∃ y, segO (enc perm sub mask R) 0 (T.take (T.length)) = y := ⟨_, rfl⟩
        have EY := Aside0.mk (show mix (T.take (T.length)) ((enc perm sub mask R).take (T.length)) ((enc perm sub mask R).take (T.length)).length = y by
          have := mix_seg (T.take (T.length)) (enc perm sub mask R) (bytes_take HC.out.bT _) (enc_bytes HR.out) (by rw [LT.out.1, enc_length]; exact k2)
          rw [LT.out.1] at this
          rw [LT.out.2, this, ey])
        have YE := Aside0.mk ey
        have YL := Aside0.mk (show y.length = T.length by rw [← ey, segO_length, LT.out.1])
        have ns := nil_enc #[.slice Ap perm.length cp, .slice As sub.length cs, .slice Am mask.length cm]
        have CH := Aside0.mk (below_drew (Below.refl wr.heap.size wr))
        rw [hRl]
        clear t2 d2 d3 ey hRl
        go_wp2_with fail
        go_region_held3 (fun w' => Below w.heap.size w w') (first | assumption | (exact below_drew HC.out.bl)) (first | (go_at_call 109; (with_reducible refine (encipher_calls Ap cp perm As cs sub Am cm mask Ar cr mask.length R _ (Kd.C_below HP.out (below_then HC.out.bl (below_size HC.out.bl) CH.out)) (Kd.C_below HS.out (below_then HC.out.bl (below_size HC.out.bl) CH.out)) (Kd.C_below HM.out (below_then HC.out.bl (below_size HC.out.bl) CH.out)) HR.out (HC.out.below CH.out).rr HC.out.bR RL.out RL.out.symm).mono ?_); rintro e w1 ⟨v4, rfl, hR, hB⟩; obtain ⟨Ae, ce, e4, hce, hre⟩ := r8_reads hR; subst e4; rw [enc_length] at hce ⊢; have RE := Aside0.mk hre; have TE := take8 (P := Try.prog) (t := 22) (e := 5) Try.underlying22 infoB Ae ce (enc perm sub mask R) (T.length) (by rw [enc_length]; omega) (by rw [enc_length]; exact hce) (enc_length perm sub mask R).symm; have TE2 := Aside0.mk TE.2; have TE1 := TE.1; have CE := Aside0.mk hce; clear TE hR hre; have n1 := Aside0.mk (below_then CH.out (below_size CH.out) hB); clear CH; have CH := n1; clear n1; have hB0 : Below w.heap.size w w1 := (below_then HC.out.bl (below_size HC.out.bl) CH.out)) | (go_at_call 63; (with_reducible refine (xored_k At ct (T.take (T.length)) Ae ce ((enc perm sub mask R).take (T.length)) _ LT.out.1.symm LT.out.2.symm (T2.out _ (HC.out.below CH.out).rt) (by omega) (TE2.out _ RE.out) (by have := CE.out; omega) (by rw [LT.out.1, LT.out.2]; exact Nat.le_refl _) (by rw [LT.out.1]; have := HC.out.ln; omega)).mono ?_); rintro e w1 ⟨v5, rfl, hR, hB⟩; rw [EY.out] at hR; obtain ⟨Ay, cy, e5, hcy, hry⟩ := r8_reads hR; subst e5; have YA := Aside0.mk (fun ad (e : Ay = some ad) => And.intro (Nat.le_trans (below_size CH.out) (Kd.R_base hR ad.block (by rw [e]; rfl))) (Kd.R_lt hR ad.block (by rw [e]; rfl))); have RY := Aside0.mk hry; clear hR hry; have n1 := Aside0.mk (below_then CH.out (below_size CH.out) hB); clear CH; have CH := n1; clear n1; have hB0 : Below w.heap.size w w1 := (below_then HC.out.bl (below_size HC.out.bl) CH.out)))
        all_goals
          go_wp2_with ((with_reducible refine gate_dst (N := 33) rfl ?_); refine append8 w.heap.size (w0 := w) rfl (.tmp 31) (.tmp 32) 22 5 rfl Try.underlying22 infoB u10 O y Ay cy rfl rfl rfl (HC.out.below CH.out).ro RY.out (below_then HC.out.bl (below_size HC.out.bl) CH.out) (below_size (below_then HC.out.bl (below_size HC.out.bl) CH.out)) ?hl ?_; (case hl => have := HC.out.ln; have := YL.out; omega); intro v6 w6 hR hB hG hAt; have HN := Aside0.mk (HC.out.step (by omega) (enc_length ..) (enc_bytes HR.out) KE.out YE.out.symm CH.out RY.out YA.out hG hB hR hAt D2.out.1 D2.out.2 T2.out); clear hR hB hG hAt)
          all_goals
            rename_i hb
            refine ⟨?_, ?_⟩
            · first
                | (have hn := HN.out; rw [if_pos hb, if_pos hb] at hn; exact ⟨At, ct, T.take (T.length), At', ct - (T.length), T.drop (T.length), O ++ y, by rw [LT.out.1], by first | (rw [List.length_drop]; done) | (rw [List.length_drop, Nat.sub_self]), by rw [List.length_drop]; omega, ⟨hn⟩⟩)
                | (have hn := HN.out; rw [if_neg (show ¬ back = true by rw [hb]; decide), if_neg (show ¬ back = true by rw [hb]; decide)] at hn; exact ⟨Ay, cy, y, At', ct - (T.length), T.drop (T.length), O ++ y, by first | rfl | (rw [YL.out]; done), by first | (rw [List.length_drop]; done) | (rw [List.length_drop, Nat.sub_self]), by rw [List.length_drop]; omega, ⟨hn⟩⟩)
            · simp [lenOf]; (try omega)
      ·
        have hRl : R.length = mask.length := by
          rcases HC.out.lr with e | e
          · rw [e] at hne; simp at hne
          · exact e
        have RL := Aside0.mk hRl
        have k1 : mask.length ≤ T.length := by omega
        have k2 : mask.length ≤ mask.length := by omega
        have k0 : 0 < mask.length := by omega
        have KE := Aside0.mk (show mask.length = min mask.length T.length by omega)
        obtain ⟨t1, t2⟩ := take8 (P := Try.prog) (t := 22) (e := 5) Try.underlying22 infoB At ct T (mask.length) k1 hct rfl
        obtain ⟨At', d1, d2, d3⟩ := drop8 (P := Try.prog) (t := 22) (e := 5) Try.underlying22 infoB At ct T (mask.length) k1 hct rfl
        have T2 := Aside0.mk t2
        have D2 := Aside0.mk (And.intro d2 d3)
        have LT := Aside0.mk (show (T.take (mask.length)).length = mask.length ∧ ((enc perm sub mask R).take (mask.length)).length = mask.length by rw [List.length_take, List.length_take, enc_length]; omega)
        obtain ⟨y, ey⟩ : ∃ y, segO (enc perm sub mask R) 0 (T.take (mask.length)) = y := ⟨_, rfl⟩
        have EY := Aside0.mk (show mix (T.take (mask.length)) ((enc perm sub mask R).take (mask.length)) ((enc perm sub mask R).take (mask.length)).length = y by
          have := mix_seg (T.take (mask.length)) (enc perm sub mask R) (bytes_take HC.out.bT _) (enc_bytes HR.out) (by rw [LT.out.1, enc_length]; exact k2)
          rw [LT.out.1] at this
          rw [LT.out.2, this, ey])
        have YE := Aside0.mk ey
        have YL := Aside0.mk (show y.length = mask.length by rw [← ey, segO_length, LT.out.1])
        have ns := nil_enc #[.slice Ap perm.length cp, .slice As sub.length cs, .slice Am mask.length cm]
        have CH := Aside0.mk (below_drew (Below.refl wr.heap.size wr))
        rw [hRl]
        clear t2 d2 d3 ey hRl
        go_wp2_with fail
        go_region_held3 (fun w' => Below w.heap.size w w') (first | assumption | (exact below_drew HC.out.bl)) (first | (go_at_call 109; (with_reducible refine (encipher_calls Ap cp perm As cs sub Am cm mask Ar cr mask.length R _ (Kd.C_below HP.out (below_then HC.out.bl (below_size HC.out.bl) CH.out)) (Kd.C_below HS.out (below_then HC.out.bl (below_size HC.out.bl) CH.out)) (Kd.C_below HM.out (below_then HC.out.bl (below_size HC.out.bl) CH.out)) HR.out (HC.out.below CH.out).rr HC.out.bR RL.out RL.out.symm).mono ?_); rintro e w1 ⟨v4, rfl, hR, hB⟩; obtain ⟨Ae, ce, e4, hce, hre⟩ := r8_reads hR; subst e4; rw [enc_length] at hce ⊢; have RE := Aside0.mk hre; have TE := take8 (P := Try.prog) (t := 22) (e := 5) Try.underlying22 infoB Ae ce (enc perm sub mask R) (mask.length) (by rw [enc_length]; omega) (by rw [enc_length]; exact hce) (enc_length perm sub mask R).symm; have TE2 := Aside0.mk TE.2; have TE1 := TE.1; have CE := Aside0.mk hce; clear TE hR hre; have n1 := Aside0.mk (below_then CH.out (below_size CH.out) hB); clear CH; have CH := n1; clear n1; have hB0 : Below w.heap.size w w1 := (below_then HC.out.bl (below_size HC.out.bl) CH.out)) | (go_at_call 63; (with_reducible refine (xored_k At ct (T.take (mask.length)) Ae ce ((enc perm sub mask R).take (mask.length)) _ LT.out.1.symm LT.out.2.symm (T2.out _ (HC.out.below CH.out).rt) (by omega) (TE2.out _ RE.out) (by have := CE.out; omega) (by rw [LT.out.1, LT.out.2]; exact Nat.le_refl _) (by rw [LT.out.1]; have := HC.out.ln; omega)).mono ?_); rintro e w1 ⟨v5, rfl, hR, hB⟩; rw [EY.out] at hR; obtain ⟨Ay, cy, e5, hcy, hry⟩ := r8_reads hR; subst e5; have YA := Aside0.mk (fun ad (e : Ay = some ad) => And.intro (Nat.le_trans (below_size CH.out) (Kd.R_base hR ad.block (by rw [e]; rfl))) (Kd.R_lt hR ad.block (by rw [e]; rfl))); have RY := Aside0.mk hry; clear hR hry; have n1 := Aside0.mk (below_then CH.out (below_size CH.out) hB); clear CH; have CH := n1; clear n1; have hB0 : Below w.heap.size w w1 := (below_then HC.out.bl (below_size HC.out.bl) CH.out)))
        all_goals
          go_wp2_with ((with_reducible refine gate_dst (N := 33) rfl ?_); refine append8 w.heap.size (w0 := w) rfl (.tmp 31) (.tmp 32) 22 5 rfl Try.underlying22 infoB u10 O y Ay cy rfl rfl rfl (HC.out.below CH.out).ro RY.out (below_then HC.out.bl (below_size HC.out.bl) CH.out) (below_size (below_then HC.out.bl (below_size HC.out.bl) CH.out)) ?hl ?_; (case hl => have := HC.out.ln; have := YL.out; omega); intro v6 w6 hR hB hG hAt; have HN := Aside0.mk (HC.out.step (by omega) (enc_length ..) (enc_bytes HR.out) KE.out YE.out.symm CH.out RY.out YA.out hG hB hR hAt D2.out.1 D2.out.2 T2.out); clear hR hB hG hAt)
          all_goals
            rename_i hb
            refine ⟨?_, ?_⟩
            · first
                | (have hn := HN.out; rw [if_pos hb, if_pos hb] at hn; exact ⟨At, ct, T.take (mask.length), At', ct - (mask.length), T.drop (mask.length), O ++ y, by rw [LT.out.1], by first | (rw [List.length_drop]; done) | (rw [List.length_drop, Nat.sub_self]), by rw [List.length_drop]; omega, ⟨hn⟩⟩)
                | (have hn := HN.out; rw [if_neg (show ¬ back = true by rw [hb]; decide), if_neg (show ¬ back = true by rw [hb]; decide)] at hn; exact ⟨Ay, cy, y, At', ct - (mask.length), T.drop (mask.length), O ++ y, by first | rfl | (rw [YL.out]; done), by first | (rw [List.length_drop]; done) | (rw [List.length_drop, Nat.sub_self]), by rw [List.length_drop]; omega, ⟨hn⟩⟩)
            · simp [lenOf]; (try omega)
    · go_wp2
      go_ret
      have hT0 : T = [] := List.eq_nil_of_length_eq_zero (by omega)
      have he := HC.out.eq
      rw [hT0, outN, List.append_nil] at he
      rw [← he]
      exact ⟨_, rfl, HC.out.ro, HC.out.bl⟩
end Go.Proofs.Ytkehjcppgpoobaa.Ocf
