/- packet.partialLengthReader over impl.source: its Read, walked. -/
import Derived.Test.YtjdnnpfhlkgooaaDoorPrt
set_option linter.unusedVariables false
set_option linter.unusedSimpArgs false
namespace Go.Proofs.YtjdnnpfhlkgooaaDoor.Rd
open Go.RowKit Go.Proofs.YtjdnnpfhlkgooaaDoorW.PrintWords Go.Proofs.YtjdnnpfhlkgooaaDoorW.PrintMore Go.Proofs.YtjdnnpfhlkgooaaDoor.Kit

/-- What a reader in parts keeps. -/
def PrtS (w : World) (d s b : Nat) (split : Int) (bd : List Int) (ok : Bool) (rest : List Int) : Prop :=
  ∃ n p L A c, Src w d s A c L split ∧ Prt w b s n p ∧ n ≤ 4294967296 ∧ Parts n p L bd ok rest
def PrtOut (w : World) (d s b : Nat) (split : Int) (e base g off N cap m : Nat) (xs : List Int) (aE aU : Addr) (bd : List Int) (ok : Bool) (rest : List Int) (en : Ending) (w' : World) : Prop :=
  ∃ k ok' rest', k ≤ m ∧ k ≤ bd.length ∧ (0 < bd.length → 1 ≤ k ∧ ok' = ok ∧ rest' = rest) ∧ (ok = true → ok' = true ∧ rest' = rest ∧ (bd = [] → ∃ A c, Src w' d s A c rest split)) ∧ en = .returned (.tuple #[.int .i64 (k : Int), if 0 < bd.length then .nilIface else if ok = true then (.iface 209 (.pointer (some aE))) else (.iface 209 (.pointer (some aU)))]) ∧ PrtS w' d s b split (bd.drop k) ok' rest' ∧ R8 e w' base (.slice (some ⟨g, 0, none⟩) N cap) (xs.take off ++ (bd.take k ++ xs.drop (off + k))) ∧ Tch (fun j => j = g ∨ j = s ∨ j = b) w w'
def srcLen (w : World) (s : Nat) : Nat := match w.cell? ⟨s, 0, none⟩ with
  | some (.slice _ n _) => n
  | _ => 0
theorem Parts.nil (n : Nat) (p : Bool) : ∃ ok, Parts n p [] [] ok [] := by
  by_cases h : n = 0
  · subst h
    cases p with
    | false => exact ⟨true, by simpa using Parts.last (n := 0) (L := []) (Nat.le_refl _)⟩
    | true => exact ⟨false, by simpa using Parts.cut (n := 0) (L := []) (Nat.le_refl _) rfl⟩
  · exact ⟨false, .short (by simp; omega)⟩
theorem srcLen_eq {w : World} {d s : Nat} {A : Option Addr} {c : Nat} {L : List Int} {split : Int} (h : Src w d s A c L split) : srcLen w s = L.length := by
  unfold srcLen
  rw [h.c0]
theorem rl_no {w : World} {d s : Nat} {A : Option Addr} {c : Nat} {l : List Int} {split : Int} {aE aU : Addr} (h : Src w d s A c l split) (hE : Env w d aE aU) (hn : rdl l = none) :
    Calls Tryd.prog 68 #[(.iface 88 (.pointer (some ⟨s, 0, none⟩)))] w (RlNo w d s split aU) := by
  have H := rl_calls h hE
  rw [hn] at H
  exact H
theorem rl_ok {w : World} {d s : Nat} {A : Option Addr} {c : Nat} {l : List Int} {split : Int} {aE aU : Addr} (h : Src w d s A c l split) (hE : Env w d aE aU) {n : Int} {p : Bool} {t : List Int} (hn : rdl l = some (n, p, t)) :
    Calls Tryd.prog 68 #[(.iface 88 (.pointer (some ⟨s, 0, none⟩)))] w (RlOk w d s split n p t) := by
  have H := rl_calls h hE
  rw [hn] at H
  exact H
set_option maxHeartbeats 6400000 in
set_option maxRecDepth 100000 in
theorem prt_read {w : World} {d s b : Nat} {split : Int} {aE aU : Addr} {bd : List Int} {ok : Bool} {rest : List Int} (hP : PrtS w d s b split bd ok rest) (hE : Env w d aE aU) {e base g off N cap m mc : Nat} {xs : List Int} (hD : R8 e w base (.slice (some ⟨g, 0, none⟩) N cap) xs) (h1 : off + m ≤ N) (hm : 1 ≤ m) (hmc : m ≤ mc) (gs : g ≠ s) (gd : d ≤ g) (gb : g ≠ b) (db : d ≤ b) :
    Calls Tryd.prog 128 #[.pointer (some ⟨b, 0, none⟩), .slice (some ⟨g, off, none⟩) m mc] w (PrtOut w d s b split e base g off N cap m xs aE aU bd ok rest) := by
  have g0 : ¬ b = 0 := by have := hE.ge; omega
  have g1 : ¬ b = 1 := by have := hE.gu; omega
  have g2 : ¬ 0 = b := by have := hE.ge; omega
  have g3 : ¬ 1 = b := by have := hE.gu; omega
  have ee := eql_same aE
  have nl := fun W : World => run_eql_iface_nil_left (P := Tryd.prog) W 209 (.pointer (some aE)) Tryd.underlying85
  have HE := Aside0.mk hE
  have HD := Aside0.mk hD
  have HP := Aside0.mk hP
  have NX := Aside0.mk (Kd.R_reads' hD).1
  clear hE hD hP
  go_enter Tryd.func128, Tryd.ntmps128
  go_wp2_with fail
  go_loopw [5] (fun ev wr => ev = .nilIface ∧ Aside0 (PrtS wr d s b split bd ok rest) ∧ Aside0 (R8 e wr base (.slice (some ⟨g, 0, none⟩) N cap) xs) ∧ Aside0 (Tch (fun j => j = g ∨ j = s ∨ j = b) w wr)) (fun _ wr => srcLen wr s)
  case atStart => exact ⟨rfl, HP, HD, ⟨Tch.refl _ _⟩⟩
  case round =>
    clear HP HD
    obtain ⟨rfl, HP, HD, HT⟩ := hrel
    obtain ⟨n, p, L, A, c, hs, hp, hn2, hpa⟩ := HP.out
    clear HP
    have H0 := Aside0.mk hs
    have P0 := Aside0.mk hp
    have bs := hp.ne
    have ds := hs.ds
    have hE1 := HE.out.kept HT.out (fun j q => by rcases q with q | q | q <;> subst q <;> assumption)
    have E1 := Aside0.mk hE1
    have e0 := hE1.e
    have u0 := hE1.u
    have c0 := hp.c0
    have c2 := hp.c2
    have z1 := hp.z1
    have z2 := hp.z2
    by_cases hn : n = 0
    · subst hn
      have c1 : wr.cell? ⟨b, 1, none⟩ = some (.int .i64 0) := hp.c1
      rcases hpa.zero with ⟨rfl, rfl, rfl, rfl⟩ | ⟨rfl, hr, rfl, rfl, rfl⟩ | ⟨rfl, n', p', t, hr, hpa'⟩
      · clear hs hp hE1 hpa
        go_wp2_with fail
        go_quiet (fail)
        go_wp2
        go_ret2
        refine ⟨0, true, _, by omega, by simp, fun h => absurd h (by simp), fun _ => ⟨rfl, rfl, fun _ => ⟨A, c, H0.out.below (pw_below_drewN (Below.refl _ _) _)⟩⟩, by simp, ⟨0, false, _, A, c, H0.out.below (pw_below_drewN (Below.refl _ _) _), P0.out.kept (Tch.of_below (S := fun _ => False) (pw_below_drewN (Below.refl _ _) _)) id, by omega, by simpa using Parts.last (n := 0) (Nat.zero_le _)⟩, ?_, HT.out.trans (Tch.of_below (pw_below_drewN (Below.refl _ _) _))⟩
        rw [List.take_nil, List.nil_append, Nat.add_zero, List.take_append_drop]
        exact Kd.R_below HD.out (pw_below_drewN (Below.refl _ _) _)
      · have HR := Aside0.mk hr
        clear hs hp hE1 hpa hr
        go_wp2_with fail
        refine (rl_no H0.out E1.out HR.out).mono ?_
        rintro en w1 ⟨n1, q1, rfl, ⟨A1, c1', hS1⟩, hT1, hN1, hN2⟩
        obtain ⟨n1, rfl⟩ := Int.eq_ofNat_of_zero_le hN1
        have hp1 := P0.out.kept hT1 (fun q => by omega)
        have S1 := Aside0.mk hS1
        have T1 := Aside0.mk hT1
        have P1 := Aside0.mk hp1
        clear c0 c1 c2 z1 z2 e0 u0 hS1 hT1
        have c0 := hp1.c0
        have c1 := hp1.c1
        have c2 := hp1.c2
        have z1 := hp1.z1
        have z2 := hp1.z2
        clear hp1
        go_wp2_with fail
        go_ret2
        have hT2 : Tch (fun j => j = b) w1 ((w1.setCell ⟨b, 1, none⟩ (.int .i64 (n1 : Int))).setCell ⟨b, 2, none⟩ (.bool q1)) := ((Tch.refl (fun j => j = b) w1).setCell (p := ⟨b, 1, none⟩) (fun _ => rfl) _).setCell (p := ⟨b, 2, none⟩) (fun _ => rfl) _
        have hTT : Tch (fun j => j = s ∨ j = b) wr ((w1.setCell ⟨b, 1, none⟩ (.int .i64 (n1 : Int))).setCell ⟨b, 2, none⟩ (.bool q1)) := (T1.out.mono (fun j q => .inl q)).trans (hT2.mono (fun j q => .inr q))
        have hS2 := S1.out.kept hT2 (fun j q => by subst q; exact ⟨db, bs⟩)
        have hP2 := P1.out.put2 n1 q1
        have hR2 := hTT.r8 HD.out (fun j e q => by simp [Value.ownBlock] at e; omega)
        have hT3 := HT.out.trans (hTT.mono (fun j q => .inr q))
        obtain ⟨ok', hpn⟩ := Parts.nil n1 q1
        refine ⟨0, ok', [], by omega, by simp, fun h => absurd h (by simp), fun h => absurd h (by simp), by simp, ⟨n1, q1, [], A1, c1', hS2, hP2, by omega, hpn⟩, ?_, hT3⟩
        rw [List.take_nil, List.nil_append, Nat.add_zero, List.take_append_drop]
        exact hR2
      · have HR := Aside0.mk hr
        have HA := Aside0.mk hpa'
        have hN := rdl_bound hr hs.by_
        obtain ⟨n1, rfl⟩ := Int.eq_ofNat_of_zero_le hN.1
        clear hs hp hE1 hpa hr hpa'
        go_wp2_with fail
        refine (rl_ok H0.out E1.out HR.out).mono ?_
        rintro en w1 ⟨rfl, ⟨A1, c1', hS1⟩, hT1⟩
        have hp1 := P0.out.kept hT1 (fun q => by omega)
        have S1 := Aside0.mk hS1
        have T1 := Aside0.mk hT1
        have P1 := Aside0.mk hp1
        clear c0 c1 c2 z1 z2 e0 u0 hS1 hT1
        have c0 := hp1.c0
        have c1 := hp1.c1
        have c2 := hp1.c2
        have z1 := hp1.z1
        have z2 := hp1.z2
        clear hp1
        go_wp2_with fail
        go_roundw
        case rel =>
          have hT2 : Tch (fun j => j = b) w1 ((w1.setCell ⟨b, 1, none⟩ (.int .i64 (n1 : Int))).setCell ⟨b, 2, none⟩ (.bool p')) := ((Tch.refl (fun j => j = b) w1).setCell (p := ⟨b, 1, none⟩) (fun _ => rfl) _).setCell (p := ⟨b, 2, none⟩) (fun _ => rfl) _
          have hTT : Tch (fun j => j = s ∨ j = b) wr ((w1.setCell ⟨b, 1, none⟩ (.int .i64 (n1 : Int))).setCell ⟨b, 2, none⟩ (.bool p')) := (T1.out.mono (fun j q => .inl q)).trans (hT2.mono (fun j q => .inr q))
          have hS2 := S1.out.kept hT2 (fun j q => by subst q; exact ⟨db, bs⟩)
          have hP2 := P1.out.put2 n1 p'
          have hR2 := hTT.r8 HD.out (fun j e q => by simp [Value.ownBlock] at e; omega)
          have hT3 := HT.out.trans (hTT.mono (fun j q => .inr q))
          exact ⟨rfl, ⟨n1, p', t, A1, c1', hS2, hP2, by omega, by simpa using HA.out⟩, ⟨hR2⟩, ⟨hT3⟩⟩
        case measure =>
          have hT2 : Tch (fun j => j = b) w1 ((w1.setCell ⟨b, 1, none⟩ (.int .i64 (n1 : Int))).setCell ⟨b, 2, none⟩ (.bool p')) := ((Tch.refl (fun j => j = b) w1).setCell (p := ⟨b, 1, none⟩) (fun _ => rfl) _).setCell (p := ⟨b, 2, none⟩) (fun _ => rfl) _
          have hTT : Tch (fun j => j = s ∨ j = b) wr ((w1.setCell ⟨b, 1, none⟩ (.int .i64 (n1 : Int))).setCell ⟨b, 2, none⟩ (.bool p')) := (T1.out.mono (fun j q => .inl q)).trans (hT2.mono (fun j q => .inr q))
          have hS2 := S1.out.kept hT2 (fun j q => by subst q; exact ⟨db, bs⟩)
          have hP2 := P1.out.put2 n1 p'
          have hR2 := hTT.r8 HD.out (fun j e q => by simp [Value.ownBlock] at e; omega)
          have hT3 := HT.out.trans (hTT.mono (fun j q => .inr q))
          rw [srcLen_eq hS2, srcLen_eq H0.out]
          exact rdl_lt HR.out
    · have c1 := hp.c1
      have hn0 : ((n : Int) == 0) = false := beq_eq_false_iff_ne.2 (by omega)
      have PA := Aside0.mk hpa
      clear hs hp hE1 hpa
      by_cases q : n < m
      · have ti0 : (0 : Int) ≤ (n : Int) := by omega
        have ti1 : (n : Int) ≤ (mc : Int) := by omega
        by_cases hL : L = []
        · subst hL
          obtain ⟨rfl, rfl, rfl⟩ := PA.out.empty (by omega)
          have H1d := Aside0.mk (H0.out.below (below_drew (Below.refl _ _)))
          have E1d := Aside0.mk (E1.out.below (below_drew (Below.refl _ _)))
          go_wp2_with fail
          go_region_held3 (fun w' => w'.cell? ⟨b, 0, none⟩ = some (.iface 88 (.pointer (some ⟨s, 0, none⟩)))) (first | assumption | go_keep) ((go_at_call 113; (with_reducible refine (read_end H1d.out E1d.out _ (show 1 ≤ n by omega)).mono ?_); rintro en w1 ⟨rfl, hB⟩; have hB2 := below_then (below_drew (Below.refl _ wr)) (Nat.le_refl _) hB; have B1 := Aside0.mk hB2; have hp1 := P0.out.kept (Tch.of_below (S := fun _ => False) hB2) id; have P1 := Aside0.mk hp1; have hE1 := E1.out.below hB2; clear c0 c1 c2 z1 z2 e0 u0 hB hB2; have c0 := hp1.c0; have c1 := hp1.c1; have c2 := hp1.c2; have z1 := hp1.z1; have e0 := hE1.e; have u0 := hE1.u; clear hp1 hE1))
          go_wp2_with fail
          go_ret2
          have hT2 : Tch (fun j => j = b) w1 (w1.setCell ⟨b, 1, none⟩ (.int .i64 (n : Int))) := (Tch.refl (fun j => j = b) w1).setCell (p := ⟨b, 1, none⟩) (fun _ => rfl) _
          have hTT : Tch (fun j => j = b) wr (w1.setCell ⟨b, 1, none⟩ (.int .i64 (n : Int))) := (Tch.of_below B1.out).trans hT2
          refine ⟨0, false, [], by omega, by simp, fun h => absurd h (by simp), fun h => absurd h (by simp), by simp, ⟨n, p, [], A, c, H0.out.kept hTT (fun j q => by subst q; exact ⟨db, bs⟩), P1.out.put n, hn2, by simpa using PA.out⟩, ?_, HT.out.trans (hTT.mono (fun j q => .inr (.inr q)))⟩
          rw [List.take_nil, List.nil_append, Nat.add_zero, List.take_append_drop]
          exact hTT.r8 HD.out (fun j e q => by simp [Value.ownBlock] at e; omega)
        · have hL0 : 0 < L.length := List.length_pos_iff.2 hL
          have H1d := Aside0.mk (H0.out.below (below_drew (Below.refl _ _)))
          have R1d := Aside0.mk (Kd.R_drew HD.out)
          have TD : Tch (fun j => j = g ∨ j = s) wr wr.drew := Tch.of_below (below_drew (Below.refl _ _))
          have TD := Aside0.mk TD
          go_wp2_with fail
          go_region_held3 (fun w' => w'.cell? ⟨b, 0, none⟩ = some (.iface 88 (.pointer (some ⟨s, 0, none⟩)))) (first | assumption | go_keep) ((go_at_call 113; (with_reducible refine (read_more H1d.out R1d.out (show off + n ≤ N by omega) (show 1 ≤ n by omega) (show n ≤ mc by omega) gs gd hL0).mono ?_); rintro en w1 ⟨k, k1, k2, k3, rfl, hS1, hR1, hT1⟩; have hT1 := TD.out.trans hT1; have hp1 := P0.out.kept hT1 (fun q => by rcases q with q | q <;> omega); have P1 := Aside0.mk hp1; have X1 := Aside0.mk (And.intro hS1 (And.intro hR1 hT1)); have hE1 := E1.out.kept hT1 (fun j q => by rcases q with q | q <;> subst q <;> assumption); clear c0 c1 c2 z1 z2 e0 u0 hS1 hR1 hT1; have c0 := hp1.c0; have c1 := hp1.c1; have c2 := hp1.c2; have z1 := hp1.z1; have e0 := hE1.e; have kn : (k : Int) ≤ (n : Int) := (by omega); clear hp1 hE1))
          go_wp2_with fail
          all_goals
            go_ret2
            obtain ⟨⟨A', c', hS1⟩, hR1, hT1⟩ := X1.out
            obtain ⟨kb, tk, pa⟩ := PA.out.step (k := k) (by omega) k3
            have hb0 := PA.out.pos (by omega) hL0
            have ek : ((n : Int) - (k : Int)) = ((n - k : Nat) : Int) := by omega
            have hT2 : Tch (fun j => j = b) w1 (w1.setCell ⟨b, 1, none⟩ (.int .i64 ((n : Int) - (k : Int)))) := (Tch.refl (fun j => j = b) w1).setCell (p := ⟨b, 1, none⟩) (fun _ => rfl) _
            exact ⟨k, ok, rest, by omega, kb, fun _ => ⟨k1, rfl, rfl⟩, fun h => ⟨h, rfl, fun e => by rw [e] at hb0; simp at hb0⟩, by rw [if_pos hb0]; rfl, ⟨n - k, p, L.drop k, A', c', hS1.kept hT2 (fun j q => by subst q; exact ⟨db, bs⟩), by rw [ek]; exact P1.out.put (n - k), by omega, pa⟩, by rw [tk]; exact hT2.r8 hR1 (fun j e q => by simp [Value.ownBlock] at e; omega), HT.out.trans ((hT1.mono (fun j q => by rcases q with q | q; exact .inl q; exact .inr (.inl q))).trans (hT2.mono (fun j q => .inr (.inr q))))⟩
      · have ti0 : (0 : Int) ≤ (m : Int) := by omega
        have ti1 : (m : Int) ≤ (mc : Int) := by omega
        by_cases hL : L = []
        · subst hL
          obtain ⟨rfl, rfl, rfl⟩ := PA.out.empty (by omega)
          have H1d := Aside0.mk (H0.out.below (below_drew (Below.refl _ _)))
          have E1d := Aside0.mk (E1.out.below (below_drew (Below.refl _ _)))
          go_wp2_with fail
          go_region_held3 (fun w' => w'.cell? ⟨b, 0, none⟩ = some (.iface 88 (.pointer (some ⟨s, 0, none⟩)))) (first | assumption | go_keep) ((go_at_call 113; (with_reducible refine (read_end H1d.out E1d.out _ (show 1 ≤ m by omega)).mono ?_); rintro en w1 ⟨rfl, hB⟩; have hB2 := below_then (below_drew (Below.refl _ wr)) (Nat.le_refl _) hB; have B1 := Aside0.mk hB2; have hp1 := P0.out.kept (Tch.of_below (S := fun _ => False) hB2) id; have P1 := Aside0.mk hp1; have hE1 := E1.out.below hB2; clear c0 c1 c2 z1 z2 e0 u0 hB hB2; have c0 := hp1.c0; have c1 := hp1.c1; have c2 := hp1.c2; have z1 := hp1.z1; have e0 := hE1.e; have u0 := hE1.u; clear hp1 hE1))
          go_wp2_with fail
          go_ret2
          have hT2 : Tch (fun j => j = b) w1 (w1.setCell ⟨b, 1, none⟩ (.int .i64 (n : Int))) := (Tch.refl (fun j => j = b) w1).setCell (p := ⟨b, 1, none⟩) (fun _ => rfl) _
          have hTT : Tch (fun j => j = b) wr (w1.setCell ⟨b, 1, none⟩ (.int .i64 (n : Int))) := (Tch.of_below B1.out).trans hT2
          refine ⟨0, false, [], by omega, by simp, fun h => absurd h (by simp), fun h => absurd h (by simp), by simp, ⟨n, p, [], A, c, H0.out.kept hTT (fun j q => by subst q; exact ⟨db, bs⟩), P1.out.put n, hn2, by simpa using PA.out⟩, ?_, HT.out.trans (hTT.mono (fun j q => .inr (.inr q)))⟩
          rw [List.take_nil, List.nil_append, Nat.add_zero, List.take_append_drop]
          exact hTT.r8 HD.out (fun j e q => by simp [Value.ownBlock] at e; omega)
        · have hL0 : 0 < L.length := List.length_pos_iff.2 hL
          have H1d := Aside0.mk (H0.out.below (below_drew (Below.refl _ _)))
          have R1d := Aside0.mk (Kd.R_drew HD.out)
          have TD : Tch (fun j => j = g ∨ j = s) wr wr.drew := Tch.of_below (below_drew (Below.refl _ _))
          have TD := Aside0.mk TD
          go_wp2_with fail
          go_region_held3 (fun w' => w'.cell? ⟨b, 0, none⟩ = some (.iface 88 (.pointer (some ⟨s, 0, none⟩)))) (first | assumption | go_keep) ((go_at_call 113; (with_reducible refine (read_more H1d.out R1d.out (show off + m ≤ N by omega) (show 1 ≤ m by omega) (show m ≤ mc by omega) gs gd hL0).mono ?_); rintro en w1 ⟨k, k1, k2, k3, rfl, hS1, hR1, hT1⟩; have hT1 := TD.out.trans hT1; have hp1 := P0.out.kept hT1 (fun q => by rcases q with q | q <;> omega); have P1 := Aside0.mk hp1; have X1 := Aside0.mk (And.intro hS1 (And.intro hR1 hT1)); have hE1 := E1.out.kept hT1 (fun j q => by rcases q with q | q <;> subst q <;> assumption); clear c0 c1 c2 z1 z2 e0 u0 hS1 hR1 hT1; have c0 := hp1.c0; have c1 := hp1.c1; have c2 := hp1.c2; have z1 := hp1.z1; have e0 := hE1.e; have kn : (k : Int) ≤ (n : Int) := (by omega); clear hp1 hE1))
          go_wp2_with fail
          all_goals
            go_ret2
            obtain ⟨⟨A', c', hS1⟩, hR1, hT1⟩ := X1.out
            obtain ⟨kb, tk, pa⟩ := PA.out.step (k := k) (by omega) k3
            have hb0 := PA.out.pos (by omega) hL0
            have ek : ((n : Int) - (k : Int)) = ((n - k : Nat) : Int) := by omega
            have hT2 : Tch (fun j => j = b) w1 (w1.setCell ⟨b, 1, none⟩ (.int .i64 ((n : Int) - (k : Int)))) := (Tch.refl (fun j => j = b) w1).setCell (p := ⟨b, 1, none⟩) (fun _ => rfl) _
            exact ⟨k, ok, rest, by omega, kb, fun _ => ⟨k1, rfl, rfl⟩, fun h => ⟨h, rfl, fun e => by rw [e] at hb0; simp at hb0⟩, by rw [if_pos hb0]; rfl, ⟨n - k, p, L.drop k, A', c', hS1.kept hT2 (fun j q => by subst q; exact ⟨db, bs⟩), by rw [ek]; exact P1.out.put (n - k), by omega, pa⟩, by rw [tk]; exact hT2.r8 hR1 (fun j e q => by simp [Value.ownBlock] at e; omega), HT.out.trans ((hT1.mono (fun j q => by rcases q with q | q; exact .inl q; exact .inr (.inl q))).trans (hT2.mono (fun j q => .inr (.inr q))))⟩
end Go.Proofs.YtjdnnpfhlkgooaaDoor.Rd
