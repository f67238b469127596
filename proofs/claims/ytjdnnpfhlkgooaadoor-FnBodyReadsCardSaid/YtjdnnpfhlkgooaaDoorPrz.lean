/- Reads with an empty buffer. -/
import Derived.Test.YtjdnnpfhlkgooaaDoorBdy
set_option linter.unusedVariables false
set_option linter.unusedSimpArgs false
namespace Go.Proofs.YtjdnnpfhlkgooaaDoor.Rd
open Go.RowKit Go.Proofs.YtjdnnpfhlkgooaaDoorW.PrintWords Go.Proofs.YtjdnnpfhlkgooaaDoorW.PrintMore Go.Proofs.YtjdnnpfhlkgooaaDoor.Kit

set_option maxHeartbeats 3200000 in
set_option maxRecDepth 100000 in
theorem prt_zero {w : World} {d s b : Nat} {split : Int} {aE aU : Addr} {bd rest : List Int} (hP : PrtS w d s b split bd true rest) (hE : Env w d aE aU) {g off mc : Nat} (db : d ≤ b) :
    Calls Tryd.prog 128 #[.pointer (some ⟨b, 0, none⟩), .slice (some ⟨g, off, none⟩) 0 mc] w fun en w' => ∃ er, en = .returned (.tuple #[.int .i64 0, er]) ∧ (er = .nilIface ∨ bd = [] ∧ er = (.iface 209 (.pointer (some aE)))) ∧ PrtS w' d s b split bd true rest ∧ Tch (fun j => j = s ∨ j = b) w w' := by
  have g0 : ¬ b = 0 := by have := hE.ge; omega
  have g1 : ¬ b = 1 := by have := hE.gu; omega
  have g2 : ¬ 0 = b := by have := hE.ge; omega
  have g3 : ¬ 1 = b := by have := hE.gu; omega
  have ee := eql_same aE
  have nl := fun W : World => run_eql_iface_nil_left (P := Tryd.prog) W 209 (.pointer (some aE)) Tryd.underlying85
  have HE := Aside0.mk hE
  have HP := Aside0.mk hP
  clear hE hP
  go_enter Tryd.func128, Tryd.ntmps128
  go_wp2_with fail
  go_loopw [5] (fun ev wr => ev = .nilIface ∧ Aside0 (PrtS wr d s b split bd true rest) ∧ Aside0 (Tch (fun j => j = s ∨ j = b) w wr)) (fun _ wr => srcLen wr s)
  case atStart => exact ⟨rfl, HP, ⟨Tch.refl _ _⟩⟩
  case round =>
    clear HP
    obtain ⟨rfl, HP, HT⟩ := hrel
    obtain ⟨n, p, L, A, c, hs, hp, hn2, hpa⟩ := HP.out
    clear HP
    have H0 := Aside0.mk hs
    have P0 := Aside0.mk hp
    have bs := hp.ne
    have ds := hs.ds
    have hE1 := HE.out.kept HT.out (fun j q => by rcases q with q | q <;> subst q <;> assumption)
    have E1 := Aside0.mk hE1
    have e0 := hE1.e
    have u0 := hE1.u
    have c0 := hp.c0
    have c2 := hp.c2
    have z1 := hp.z1
    have z2 := hp.z2
    by_cases hn : n = 0
    · subst hn
      have c1 : wr.cell? ⟨b, 1, none⟩ = some (.int .i64 0) := hp.c1
      rcases hpa.zero with ⟨rfl, rfl, _, rfl⟩ | ⟨_, _, _, h, _⟩ | ⟨rfl, n', p', t, hr, hpa'⟩
      · clear hs hp hE1 hpa
        go_wp2_with fail
        go_quiet (fail)
        go_wp2
        go_ret2
        exact ⟨(.iface 209 (.pointer (some aE))), rfl, by first | exact .inr rfl | exact .inr ⟨rfl, rfl⟩, ⟨0, false, _, A, c, H0.out.below (pw_below_drewN (Below.refl _ _) _), P0.out.kept (Tch.of_below (S := fun _ => False) (pw_below_drewN (Below.refl _ _) _)) id, by omega, by simpa using Parts.last (n := 0) (Nat.zero_le _)⟩, HT.out.trans (Tch.of_below (pw_below_drewN (Below.refl _ _) _))⟩
      · cases h
      · have HR := Aside0.mk hr
        have HA := Aside0.mk hpa'
        have hN := rdl_bound hr hs.by_
        obtain ⟨n1, rfl⟩ := Int.eq_ofNat_of_zero_le hN.1
        clear hs hp hE1 hpa hr hpa'
        go_wp2_with fail
        refine (rl_ok H0.out E1.out HR.out).mono ?_
        rintro en w1 ⟨rfl, ⟨A1, c1', hS1⟩, hT1⟩
        have hp1 := P0.out.kept hT1 (fun q => by omega)
        have S1 := Aside0.mk hS1
        have T1 := Aside0.mk hT1
        have P1 := Aside0.mk hp1
        clear c0 c1 c2 z1 z2 e0 u0 hS1 hT1
        have c0 := hp1.c0
        have c1 := hp1.c1
        have c2 := hp1.c2
        have z1 := hp1.z1
        have z2 := hp1.z2
        clear hp1
        go_wp2_with fail
        go_roundw
        case rel =>
          have hT2 : Tch (fun j => j = b) w1 ((w1.setCell ⟨b, 1, none⟩ (.int .i64 (n1 : Int))).setCell ⟨b, 2, none⟩ (.bool p')) := ((Tch.refl (fun j => j = b) w1).setCell (p := ⟨b, 1, none⟩) (fun _ => rfl) _).setCell (p := ⟨b, 2, none⟩) (fun _ => rfl) _
          have hTT : Tch (fun j => j = s ∨ j = b) wr ((w1.setCell ⟨b, 1, none⟩ (.int .i64 (n1 : Int))).setCell ⟨b, 2, none⟩ (.bool p')) := (T1.out.mono (fun j q => .inl q)).trans (hT2.mono (fun j q => .inr q))
          have hS2 := S1.out.kept hT2 (fun j q => by subst q; exact ⟨db, bs⟩)
          have hP2 := P1.out.put2 n1 p'
          have hT3 := HT.out.trans (hTT)
          exact ⟨rfl, ⟨n1, p', t, A1, c1', hS2, hP2, by omega, by simpa using HA.out⟩, ⟨hT3⟩⟩
        case measure =>
          have hT2 : Tch (fun j => j = b) w1 ((w1.setCell ⟨b, 1, none⟩ (.int .i64 (n1 : Int))).setCell ⟨b, 2, none⟩ (.bool p')) := ((Tch.refl (fun j => j = b) w1).setCell (p := ⟨b, 1, none⟩) (fun _ => rfl) _).setCell (p := ⟨b, 2, none⟩) (fun _ => rfl) _
          have hTT : Tch (fun j => j = s ∨ j = b) wr ((w1.setCell ⟨b, 1, none⟩ (.int .i64 (n1 : Int))).setCell ⟨b, 2, none⟩ (.bool p')) := (T1.out.mono (fun j q => .inl q)).trans (hT2.mono (fun j q => .inr q))
          have hS2 := S1.out.kept hT2 (fun j q => by subst q; exact ⟨db, bs⟩)
          have hP2 := P1.out.put2 n1 p'
          have hT3 := HT.out.trans (hTT)
          rw [srcLen_eq hS2, srcLen_eq H0.out]
          exact rdl_lt HR.out
    · have c1 := hp.c1
      have hn0 : ((n : Int) == 0) = false := beq_eq_false_iff_ne.2 (by omega)
      have PA := Aside0.mk hpa
      clear hs hp hE1 hpa
      have q : ¬ (n : Int) < 0 := by omega
      have TD : Tch (fun j => j = s) wr wr.drew := Tch.of_below (below_drew (Below.refl _ _))
      have TD := Aside0.mk TD
      have nn := fun W : World => run_eql_iface_nil_left (P := Tryd.prog) W 209 (.pointer (some aU)) Tryd.underlying85
      go_wp2_with fail
      go_region_held3 (fun w' => w'.cell? ⟨b, 0, none⟩ = some (.iface 88 (.pointer (some ⟨s, 0, none⟩)))) (first | assumption | go_keep) ((go_at_call 113; (with_reducible refine (src_zero (some ⟨g, off, none⟩) mc).mono ?_); rintro en w1 ⟨rfl, rfl⟩))
      go_wp2_with fail
      go_ret2
      have hT2 : Tch (fun j => j = b) wr (wr.setCell ⟨b, 1, none⟩ (.int .i64 (n : Int))) := (Tch.refl (fun j => j = b) wr).setCell (p := ⟨b, 1, none⟩) (fun _ => rfl) _
      have hT3 : Tch (fun j => j = b) wr (wr.setCell ⟨b, 1, none⟩ (.int .i64 (n : Int))).drew := hT2.trans (Tch.of_below (below_drew (Below.refl _ _)))
      exact ⟨.nilIface, rfl, Or.inl rfl, ⟨n, p, L, A, c, H0.out.kept hT3 (fun j q => by subst q; exact ⟨db, bs⟩), (P0.out.put n).kept (Tch.of_below (S := fun _ => False) (below_drew (Below.refl _ _))) id, hn2, PA.out⟩, HT.out.trans (hT3.mono (fun j q => .inr q))⟩
theorem bdy_zero {w : World} {d s b : Nat} {split : Int} {v : Value} {aE aU : Addr} {bd rest : List Int} (h : Bdy w d s b split v bd true rest) (hE : Env w d aE aU) {g off mc : Nat} {fn : FuncId} (hf : (v = .iface 88 (.pointer (some ⟨b, 0, none⟩)) ∧ fn = 113) ∨ (v = .iface 157 (.pointer (some ⟨b, 0, none⟩)) ∧ fn = 127) ∨ (v = .iface 162 (.pointer (some ⟨b, 0, none⟩)) ∧ fn = 128)) :
    Calls Tryd.prog fn #[.pointer (some ⟨b, 0, none⟩), .slice (some ⟨g, off, none⟩) 0 mc] w fun en w' => ∃ er, en = .returned (.tuple #[.int .i64 0, er]) ∧ (er = .nilIface ∨ bd = [] ∧ er = (.iface 209 (.pointer (some aE)))) ∧ Bdy w' d s b split v bd true rest ∧ Tch (fun j => j = s ∨ j = b) w w' := by
  rcases hf with ⟨rfl, rfl⟩ | ⟨rfl, rfl⟩ | ⟨rfl, rfl⟩
  · refine (src_zero (some ⟨g, off, none⟩) mc).mono ?_
    rintro en w1 ⟨rfl, rfl⟩
    exact ⟨.nilIface, rfl, Or.inl rfl, h, Tch.refl _ _⟩
  · obtain ⟨db, n, A, c, L, hs, hp, hn, rfl, ho, rfl⟩ := h.v_spn
    by_cases hn0 : n = 0
    · subst hn0
      refine (spn_eof hp hE _ 0 mc).mono ?_
      rintro en w1 ⟨rfl, hB⟩
      exact ⟨_, rfl, Or.inr (And.intro List.take_zero rfl), .inr (.inl ⟨rfl, db, 0, A, c, L, hs.below hB, hp.kept (Tch.of_below (S := fun _ => False) hB) id, hn, rfl, ho, rfl⟩), Tch.of_below hB⟩
    · refine (spn_zero (A := A) (c := c) (split := split) hp hE (some ⟨g, off, none⟩) mc (by omega) hn db).mono ?_
      rintro en w1 ⟨rfl, hP, hT⟩
      exact ⟨_, rfl, Or.inl rfl, .inr (.inl ⟨rfl, db, n, A, c, L, hs.kept hT (fun j q => by subst q; exact ⟨db, hp.ne⟩), hP, hn, rfl, ho, rfl⟩), hT.mono (fun j q => .inr q)⟩
  · obtain ⟨db, hp⟩ := h.v_prt
    refine (prt_zero hp hE db).mono ?_
    rintro en w1 ⟨er, rfl, ho, hP, hT⟩
    exact ⟨er, rfl, ho, .inr (.inr ⟨rfl, db, hP⟩), hT⟩
end Go.Proofs.YtjdnnpfhlkgooaaDoor.Rd
