/- io.ReadAtLeast, io.ReadFull, packet.readFull over any reader of a body. -/
import Derived.Test.YtfhefoaieefnkaaDoorBdy
set_option linter.unusedVariables false
set_option linter.unusedSimpArgs false
namespace Go.Proofs.YtfhefoaieefnkaaDoor.Rd
open Go.RowKit Go.Proofs.YtfhefoaieefnkaaDoorW.PrintWords Go.Proofs.YtfhefoaieefnkaaDoorW.PrintMore Go.Proofs.YtfhefoaieefnkaaDoor.Kit

/-- What a full read of M bytes of a body comes to. -/
def GotB (w : World) (d s b : Nat) (split : Int) (v : Value) (e base g off N cap M : Nat) (xs bd : List Int) (ok : Bool) (rest : List Int) (aE aU : Addr) (en : Ending) (w' : World) : Prop :=
  ∃ k ok' rest', k = min M bd.length ∧ en = .returned (.tuple #[.int .i64 (k : Int), if k = M then .nilIface else if k = 0 ∧ ok = true then (.iface 206 (.pointer (some aE))) else (.iface 206 (.pointer (some aU)))]) ∧ (k = M → ok' = ok ∧ rest' = rest) ∧ Bdy w' d s b split v (bd.drop k) ok' rest' ∧ R8 e w' base (.slice (some ⟨g, 0, none⟩) N cap) (xs.take off ++ (bd.take k ++ xs.drop (off + k))) ∧ Tch (fun j => j = g ∨ j = s ∨ j = b) w w'
set_option maxHeartbeats 3200000 in
set_option maxRecDepth 100000 in
theorem atLeastB_src {w : World} {d s b : Nat} {split : Int} {bd rest : List Int} {ok : Bool} {aE aU : Addr} (h : Bdy w d s b split (.iface 94 (.pointer (some ⟨b, 0, none⟩))) bd ok rest) (hE : Env w d aE aU) {e base g off N cap M mc : Nat} {xs : List Int} (hD : R8 e w base (.slice (some ⟨g, 0, none⟩) N cap) xs) (h1 : off + M ≤ N) (hmc : M ≤ mc) (hM : M ≤ 100000000) (gs : g ≠ s) (gd : d ≤ g) (gb : g ≠ b) :
    Calls Tryd.prog 84 #[(.iface 94 (.pointer (some ⟨b, 0, none⟩))), .slice (some ⟨g, off, none⟩) M mc, .int .i64 (M : Int)] w (GotB w d s b split (.iface 94 (.pointer (some ⟨b, 0, none⟩))) e base g off N cap M xs bd ok rest aE aU) := by
  have HE := Aside0.mk hE
  have H0 := Aside0.mk h
  have HD := Aside0.mk hD
  have ds := h.ds
  have db := h.db
  have xl := (Kd.R_reads' hD).1
  have XL := Aside0.mk xl
  clear h hE hD xl
  go_enter Tryd.func84, Tryd.ntmps84
  go_wp2_with fail
  go_loopw [6, 7] (fun nv ev wr => ∃ (k : Nat) (ok' : Bool) (rest' : List Int), k ≤ M ∧ k ≤ bd.length ∧ nv = .int .i64 (k : Int) ∧ ((ev = .nilIface ∧ ok' = ok ∧ rest' = rest) ∨ (ev = (if ok = true then (.iface 206 (.pointer (some aE))) else (.iface 206 (.pointer (some aU)))) ∧ k = bd.length ∧ k < M)) ∧ Aside0 (Bdy wr d s b split (.iface 94 (.pointer (some ⟨b, 0, none⟩))) (bd.drop k) ok' rest') ∧ Aside0 (R8 e wr base (.slice (some ⟨g, 0, none⟩) N cap) (xs.take off ++ (bd.take k ++ xs.drop (off + k)))) ∧ Aside0 (Tch (fun j => j = g ∨ j = s ∨ j = b) w wr)) (fun nv ev _ => (M - (intOf nv).toNat) * 2 + open_ ev)
  case atStart => exact ⟨0, ok, rest, Nat.zero_le _, Nat.zero_le _, rfl, .inl ⟨rfl, rfl, rfl⟩, ⟨by rw [List.drop_zero]; exact H0.out⟩, ⟨by rw [List.take_zero, List.nil_append, Nat.add_zero, List.take_append_drop]; exact HD.out⟩, ⟨Tch.refl _ _⟩⟩
  case round =>
    clear H0 HD
    obtain ⟨k, ok', rest', hk, hkl, rfl, hev, HS, HR, HT⟩ := hrel
    have HE1 := Aside0.mk (HE.out.kept HT.out (fun j q => by rcases q with q | q | q <;> subst q <;> assumption))
    rcases hev with ⟨rfl, rfl, rfl⟩ | ⟨rfl, hk2, hk3⟩
    · by_cases hlt : k < M
      · have ni := nil_read b
        have kI : (k : Int) < (M : Int) := by omega
        have kJ : (k : Int) ≤ (M : Int) := by omega
        have kK : (k : Int) ≤ (mc : Int) := by omega
        have kL : k < mc := by omega
        have kM : ¬ mc = k := by omega
        have d1 : ∀ W : World, (Instr.slice 22 (.slice (some ⟨g, off, none⟩) M mc) (some (.int .i64 (k : Int))) none none).run Tryd.prog W = .ok (.slice (some ⟨g, off + k, none⟩) (M - k) (mc - k)) W := by
          obtain ⟨i, hi, _, hsz, _⟩ := info_partsC infoB
          intro W
          have hel : Tryd.prog.elem 22 = 5 := by simp [Program.elem, Tryd.underlying22]
          have hu : Tryd.prog.underlying 22 = some (.slice (Tryd.prog.elem 22)) := by rw [hel]; exact Tryd.underlying22
          rw [run_slice_l W 22 (some ⟨g, off, none⟩) M mc hu .i64 (k : Int) (Int.natCast_nonneg _) (by omega), hel]
          simp [sizeOf, typeInfo, hi, hsz, sliced, Result.andThen, kM, Addr.add]
        have H1d := Aside0.mk (HS.out.below (below_drew (Below.refl _ _)))
        have R1d := Aside0.mk (Kd.R_drew HR.out)
        have E1d := Aside0.mk (HE1.out.below (below_drew (Below.refl _ _)))
        by_cases hne : k < bd.length
        · have hdl : 0 < (bd.drop k).length := by rw [List.length_drop]; omega
          have DL := Aside0.mk hdl
          clear hdl
          go_wp2_with fail
          go_region_held3 (fun _ => True) (trivial) ((go_at_call 102; (with_reducible refine (bdy_src H1d.out E1d.out R1d.out (show off + k + (M - k) ≤ N by omega) (show 1 ≤ M - k by omega) (show M - k ≤ mc - k by omega) gs gd gb).mono ?_); rintro en w1 ⟨q, ok2, rest2, q1, q2, q3, q4, q5, q6, q7, q8⟩; rw [if_pos DL.out] at q5; subst q5; obtain ⟨q30, rfl, rfl⟩ := q3 DL.out; have X1 := Aside0.mk (And.intro q6 (And.intro q7 q8)); have Q1 := Aside0.mk (And.intro q30 (And.intro q1 q2)); clear q1 q2 q3 q4 q6 q7 q8 q30))
          have qq : q ≤ M := by have := Q1.out.2.1; omega
          go_wp2_with fail
          obtain ⟨hq6, hR1, hT1⟩ := X1.out
          obtain ⟨q30, q1, q2⟩ := Q1.out
          rw [List.length_drop] at q2
          rw [List.drop_drop] at hq6
          have e1 := splice xs bd off k q (by have := XL.out; omega) hkl
          rw [e1] at hR1
          go_roundw
          case rel => exact ⟨k + q, _, _, by omega, by omega, by first | rfl | go_num, .inl ⟨rfl, rfl, rfl⟩, ⟨hq6⟩, ⟨hR1⟩, ⟨(HT.out.trans (Tch.of_below (below_drew (Below.refl _ _)))).trans hT1⟩⟩
          case measure => simp [intOf, open_]; omega
        · obtain rfl : k = bd.length := by omega
          have DL := Aside0.mk (show ¬ 0 < (bd.drop bd.length).length by simp)
          obtain ⟨ve, hve⟩ : ∃ x : Value, (if ok' = true then (.iface 206 (.pointer (some aE))) else (.iface 206 (.pointer (some aU)))) = x := ⟨_, rfl⟩
          have VE := Aside0.mk hve
          clear hve
          go_wp2_with fail
          go_region_held3 (fun _ => True) (trivial) ((go_at_call 102; (with_reducible refine (bdy_src H1d.out E1d.out R1d.out (show off + bd.length + (M - bd.length) ≤ N by omega) (show 1 ≤ M - bd.length by omega) (show M - bd.length ≤ mc - bd.length by omega) gs gd gb).mono ?_); rintro en w1 ⟨q, ok2, rest2, q1, q2, q3, q4, q5, q6, q7, q8⟩; rw [if_neg DL.out, VE.out] at q5; obtain rfl : q = 0 := (by have := DL.out; omega); subst q5; have X1 := Aside0.mk (And.intro q6 (And.intro q7 q8)); clear q1 q2 q3 q4 q6 q7 q8))
          go_wp2_with fail
          obtain ⟨hq6, hR1, hT1⟩ := X1.out
          rw [List.drop_zero] at hq6
          have e1 := splice xs bd off bd.length 0 (by have := XL.out; omega) hkl
          rw [Nat.add_zero] at hR1
          simp only [List.take_zero, List.nil_append, List.take_append_drop] at hR1
          go_roundw
          case rel => exact ⟨bd.length, ok2, rest2, by omega, Nat.le_refl _, by first | rfl | go_num, .inr ⟨VE.out.symm, rfl, hlt⟩, ⟨hq6⟩, ⟨hR1⟩, ⟨(HT.out.trans (Tch.of_below (below_drew (Below.refl _ _)))).trans hT1⟩⟩
          case measure => rw [← VE.out]; cases ok' <;> simp [intOf, open_]
      · obtain rfl : k = M := by omega
        go_wp2_with fail
        go_ret2
        exact ⟨k, _, _, by omega, by rw [if_pos rfl]; rfl, fun _ => ⟨rfl, rfl⟩, HS.out, HR.out, HT.out⟩
    · subst hk2
      have kI : (bd.length : Int) < (M : Int) := by omega
      have kJ : ¬ (M : Int) ≤ (bd.length : Int) := by omega
      have kK : ¬ M ≤ bd.length := by omega
      have ee := eql_same aE
      have e0 := HE1.out.e
      have u0 := HE1.out.u
      have eo := eql_other (w := wr) (Ne.symm HE1.out.ne) HE1.out.hu HE1.out.he
      by_cases hz : bd.length = 0
      · have z1 : ¬ 0 < bd.length := by omega
        have z2 : decide ((0 : Int) < (bd.length : Int)) = false := decide_eq_false (by omega)
        cases ok
        all_goals
          simp only [if_true, if_false, Bool.false_eq_true]
          go_wp2_with fail
          go_ret2
          exact ⟨bd.length, _, _, by omega, by simp [hz, show ¬ (0 : Nat) = M by omega], fun q => absurd q (by omega), HS.out, HR.out, HT.out⟩
      · have z1 : 0 < bd.length := by omega
        have z2 : decide ((0 : Int) < (bd.length : Int)) = true := decide_eq_true (by omega)
        cases ok
        all_goals
          simp only [if_true, if_false, Bool.false_eq_true]
          go_wp2_with fail
          go_ret2
          exact ⟨bd.length, _, _, by omega, by rw [if_neg (show ¬ bd.length = M by omega), if_neg (fun q => hz q.1)]; rfl, fun q => absurd q (by omega), HS.out, HR.out, HT.out⟩
theorem nil_read_spn (a : Nat) (w : World) : (nilAhead 333 197 (.pointer (some ⟨a, 0, none⟩)) "Read").run Tryd.prog w = .ok (some false) w := by kernel_rfl
set_option maxHeartbeats 3200000 in
set_option maxRecDepth 100000 in
theorem atLeastB_spn {w : World} {d s b : Nat} {split : Int} {bd rest : List Int} {ok : Bool} {aE aU : Addr} (h : Bdy w d s b split (.iface 197 (.pointer (some ⟨b, 0, none⟩))) bd ok rest) (hE : Env w d aE aU) {e base g off N cap M mc : Nat} {xs : List Int} (hD : R8 e w base (.slice (some ⟨g, 0, none⟩) N cap) xs) (h1 : off + M ≤ N) (hmc : M ≤ mc) (hM : M ≤ 100000000) (gs : g ≠ s) (gd : d ≤ g) (gb : g ≠ b) :
    Calls Tryd.prog 84 #[(.iface 197 (.pointer (some ⟨b, 0, none⟩))), .slice (some ⟨g, off, none⟩) M mc, .int .i64 (M : Int)] w (GotB w d s b split (.iface 197 (.pointer (some ⟨b, 0, none⟩))) e base g off N cap M xs bd ok rest aE aU) := by
  have HE := Aside0.mk hE
  have H0 := Aside0.mk h
  have HD := Aside0.mk hD
  have ds := h.ds
  have db := h.db
  have xl := (Kd.R_reads' hD).1
  have XL := Aside0.mk xl
  clear h hE hD xl
  go_enter Tryd.func84, Tryd.ntmps84
  go_wp2_with fail
  go_loopw [6, 7] (fun nv ev wr => ∃ (k : Nat) (ok' : Bool) (rest' : List Int), k ≤ M ∧ k ≤ bd.length ∧ nv = .int .i64 (k : Int) ∧ ((ev = .nilIface ∧ ok' = ok ∧ rest' = rest) ∨ (ev = (if ok = true then (.iface 206 (.pointer (some aE))) else (.iface 206 (.pointer (some aU)))) ∧ k = bd.length ∧ k < M)) ∧ Aside0 (Bdy wr d s b split (.iface 197 (.pointer (some ⟨b, 0, none⟩))) (bd.drop k) ok' rest') ∧ Aside0 (R8 e wr base (.slice (some ⟨g, 0, none⟩) N cap) (xs.take off ++ (bd.take k ++ xs.drop (off + k)))) ∧ Aside0 (Tch (fun j => j = g ∨ j = s ∨ j = b) w wr)) (fun nv ev _ => (M - (intOf nv).toNat) * 2 + open_ ev)
  case atStart => exact ⟨0, ok, rest, Nat.zero_le _, Nat.zero_le _, rfl, .inl ⟨rfl, rfl, rfl⟩, ⟨by rw [List.drop_zero]; exact H0.out⟩, ⟨by rw [List.take_zero, List.nil_append, Nat.add_zero, List.take_append_drop]; exact HD.out⟩, ⟨Tch.refl _ _⟩⟩
  case round =>
    clear H0 HD
    obtain ⟨k, ok', rest', hk, hkl, rfl, hev, HS, HR, HT⟩ := hrel
    have HE1 := Aside0.mk (HE.out.kept HT.out (fun j q => by rcases q with q | q | q <;> subst q <;> assumption))
    rcases hev with ⟨rfl, rfl, rfl⟩ | ⟨rfl, hk2, hk3⟩
    · by_cases hlt : k < M
      · have ni := nil_read_spn b
        have kI : (k : Int) < (M : Int) := by omega
        have kJ : (k : Int) ≤ (M : Int) := by omega
        have kK : (k : Int) ≤ (mc : Int) := by omega
        have kL : k < mc := by omega
        have kM : ¬ mc = k := by omega
        have d1 : ∀ W : World, (Instr.slice 22 (.slice (some ⟨g, off, none⟩) M mc) (some (.int .i64 (k : Int))) none none).run Tryd.prog W = .ok (.slice (some ⟨g, off + k, none⟩) (M - k) (mc - k)) W := by
          obtain ⟨i, hi, _, hsz, _⟩ := info_partsC infoB
          intro W
          have hel : Tryd.prog.elem 22 = 5 := by simp [Program.elem, Tryd.underlying22]
          have hu : Tryd.prog.underlying 22 = some (.slice (Tryd.prog.elem 22)) := by rw [hel]; exact Tryd.underlying22
          rw [run_slice_l W 22 (some ⟨g, off, none⟩) M mc hu .i64 (k : Int) (Int.natCast_nonneg _) (by omega), hel]
          simp [sizeOf, typeInfo, hi, hsz, sliced, Result.andThen, kM, Addr.add]
        have H1d := Aside0.mk (HS.out.below (below_drew (Below.refl _ _)))
        have R1d := Aside0.mk (Kd.R_drew HR.out)
        have E1d := Aside0.mk (HE1.out.below (below_drew (Below.refl _ _)))
        by_cases hne : k < bd.length
        · have hdl : 0 < (bd.drop k).length := by rw [List.length_drop]; omega
          have DL := Aside0.mk hdl
          clear hdl
          go_wp2_with fail
          go_region_held3 (fun _ => True) (trivial) ((go_at_call 122; (with_reducible refine (bdy_spn H1d.out E1d.out R1d.out (show off + k + (M - k) ≤ N by omega) (show 1 ≤ M - k by omega) (show M - k ≤ mc - k by omega) gs gd gb).mono ?_); rintro en w1 ⟨q, ok2, rest2, q1, q2, q3, q4, q5, q6, q7, q8⟩; rw [if_pos DL.out] at q5; subst q5; obtain ⟨q30, rfl, rfl⟩ := q3 DL.out; have X1 := Aside0.mk (And.intro q6 (And.intro q7 q8)); have Q1 := Aside0.mk (And.intro q30 (And.intro q1 q2)); clear q1 q2 q3 q4 q6 q7 q8 q30))
          have qq : q ≤ M := by have := Q1.out.2.1; omega
          go_wp2_with fail
          obtain ⟨hq6, hR1, hT1⟩ := X1.out
          obtain ⟨q30, q1, q2⟩ := Q1.out
          rw [List.length_drop] at q2
          rw [List.drop_drop] at hq6
          have e1 := splice xs bd off k q (by have := XL.out; omega) hkl
          rw [e1] at hR1
          go_roundw
          case rel => exact ⟨k + q, _, _, by omega, by omega, by first | rfl | go_num, .inl ⟨rfl, rfl, rfl⟩, ⟨hq6⟩, ⟨hR1⟩, ⟨(HT.out.trans (Tch.of_below (below_drew (Below.refl _ _)))).trans hT1⟩⟩
          case measure => simp [intOf, open_]; omega
        · obtain rfl : k = bd.length := by omega
          have DL := Aside0.mk (show ¬ 0 < (bd.drop bd.length).length by simp)
          obtain ⟨ve, hve⟩ : ∃ x : Value, (if ok' = true then (.iface 206 (.pointer (some aE))) else (.iface 206 (.pointer (some aU)))) = x := ⟨_, rfl⟩
          have VE := Aside0.mk hve
          clear hve
          go_wp2_with fail
          go_region_held3 (fun _ => True) (trivial) ((go_at_call 122; (with_reducible refine (bdy_spn H1d.out E1d.out R1d.out (show off + bd.length + (M - bd.length) ≤ N by omega) (show 1 ≤ M - bd.length by omega) (show M - bd.length ≤ mc - bd.length by omega) gs gd gb).mono ?_); rintro en w1 ⟨q, ok2, rest2, q1, q2, q3, q4, q5, q6, q7, q8⟩; rw [if_neg DL.out, VE.out] at q5; obtain rfl : q = 0 := (by have := DL.out; omega); subst q5; have X1 := Aside0.mk (And.intro q6 (And.intro q7 q8)); clear q1 q2 q3 q4 q6 q7 q8))
          go_wp2_with fail
          obtain ⟨hq6, hR1, hT1⟩ := X1.out
          rw [List.drop_zero] at hq6
          have e1 := splice xs bd off bd.length 0 (by have := XL.out; omega) hkl
          rw [Nat.add_zero] at hR1
          simp only [List.take_zero, List.nil_append, List.take_append_drop] at hR1
          go_roundw
          case rel => exact ⟨bd.length, ok2, rest2, by omega, Nat.le_refl _, by first | rfl | go_num, .inr ⟨VE.out.symm, rfl, hlt⟩, ⟨hq6⟩, ⟨hR1⟩, ⟨(HT.out.trans (Tch.of_below (below_drew (Below.refl _ _)))).trans hT1⟩⟩
          case measure => rw [← VE.out]; cases ok' <;> simp [intOf, open_]
      · obtain rfl : k = M := by omega
        go_wp2_with fail
        go_ret2
        exact ⟨k, _, _, by omega, by rw [if_pos rfl]; rfl, fun _ => ⟨rfl, rfl⟩, HS.out, HR.out, HT.out⟩
    · subst hk2
      have kI : (bd.length : Int) < (M : Int) := by omega
      have kJ : ¬ (M : Int) ≤ (bd.length : Int) := by omega
      have kK : ¬ M ≤ bd.length := by omega
      have ee := eql_same aE
      have e0 := HE1.out.e
      have u0 := HE1.out.u
      have eo := eql_other (w := wr) (Ne.symm HE1.out.ne) HE1.out.hu HE1.out.he
      by_cases hz : bd.length = 0
      · have z1 : ¬ 0 < bd.length := by omega
        have z2 : decide ((0 : Int) < (bd.length : Int)) = false := decide_eq_false (by omega)
        cases ok
        all_goals
          simp only [if_true, if_false, Bool.false_eq_true]
          go_wp2_with fail
          go_ret2
          exact ⟨bd.length, _, _, by omega, by simp [hz, show ¬ (0 : Nat) = M by omega], fun q => absurd q (by omega), HS.out, HR.out, HT.out⟩
      · have z1 : 0 < bd.length := by omega
        have z2 : decide ((0 : Int) < (bd.length : Int)) = true := decide_eq_true (by omega)
        cases ok
        all_goals
          simp only [if_true, if_false, Bool.false_eq_true]
          go_wp2_with fail
          go_ret2
          exact ⟨bd.length, _, _, by omega, by rw [if_neg (show ¬ bd.length = M by omega), if_neg (fun q => hz q.1)]; rfl, fun q => absurd q (by omega), HS.out, HR.out, HT.out⟩
theorem nil_read_prt (a : Nat) (w : World) : (nilAhead 333 200 (.pointer (some ⟨a, 0, none⟩)) "Read").run Tryd.prog w = .ok (some false) w := by kernel_rfl
set_option maxHeartbeats 3200000 in
set_option maxRecDepth 100000 in
theorem atLeastB_prt {w : World} {d s b : Nat} {split : Int} {bd rest : List Int} {ok : Bool} {aE aU : Addr} (h : Bdy w d s b split (.iface 200 (.pointer (some ⟨b, 0, none⟩))) bd ok rest) (hE : Env w d aE aU) {e base g off N cap M mc : Nat} {xs : List Int} (hD : R8 e w base (.slice (some ⟨g, 0, none⟩) N cap) xs) (h1 : off + M ≤ N) (hmc : M ≤ mc) (hM : M ≤ 100000000) (gs : g ≠ s) (gd : d ≤ g) (gb : g ≠ b) :
    Calls Tryd.prog 84 #[(.iface 200 (.pointer (some ⟨b, 0, none⟩))), .slice (some ⟨g, off, none⟩) M mc, .int .i64 (M : Int)] w (GotB w d s b split (.iface 200 (.pointer (some ⟨b, 0, none⟩))) e base g off N cap M xs bd ok rest aE aU) := by
  have HE := Aside0.mk hE
  have H0 := Aside0.mk h
  have HD := Aside0.mk hD
  have ds := h.ds
  have db := h.db
  have xl := (Kd.R_reads' hD).1
  have XL := Aside0.mk xl
  clear h hE hD xl
  go_enter Tryd.func84, Tryd.ntmps84
  go_wp2_with fail
  go_loopw [6, 7] (fun nv ev wr => ∃ (k : Nat) (ok' : Bool) (rest' : List Int), k ≤ M ∧ k ≤ bd.length ∧ nv = .int .i64 (k : Int) ∧ ((ev = .nilIface ∧ ok' = ok ∧ rest' = rest) ∨ (ev = (if ok = true then (.iface 206 (.pointer (some aE))) else (.iface 206 (.pointer (some aU)))) ∧ k = bd.length ∧ k < M)) ∧ Aside0 (Bdy wr d s b split (.iface 200 (.pointer (some ⟨b, 0, none⟩))) (bd.drop k) ok' rest') ∧ Aside0 (R8 e wr base (.slice (some ⟨g, 0, none⟩) N cap) (xs.take off ++ (bd.take k ++ xs.drop (off + k)))) ∧ Aside0 (Tch (fun j => j = g ∨ j = s ∨ j = b) w wr)) (fun nv ev _ => (M - (intOf nv).toNat) * 2 + open_ ev)
  case atStart => exact ⟨0, ok, rest, Nat.zero_le _, Nat.zero_le _, rfl, .inl ⟨rfl, rfl, rfl⟩, ⟨by rw [List.drop_zero]; exact H0.out⟩, ⟨by rw [List.take_zero, List.nil_append, Nat.add_zero, List.take_append_drop]; exact HD.out⟩, ⟨Tch.refl _ _⟩⟩
  case round =>
    clear H0 HD
    obtain ⟨k, ok', rest', hk, hkl, rfl, hev, HS, HR, HT⟩ := hrel
    have HE1 := Aside0.mk (HE.out.kept HT.out (fun j q => by rcases q with q | q | q <;> subst q <;> assumption))
    rcases hev with ⟨rfl, rfl, rfl⟩ | ⟨rfl, hk2, hk3⟩
    · by_cases hlt : k < M
      · have ni := nil_read_prt b
        have kI : (k : Int) < (M : Int) := by omega
        have kJ : (k : Int) ≤ (M : Int) := by omega
        have kK : (k : Int) ≤ (mc : Int) := by omega
        have kL : k < mc := by omega
        have kM : ¬ mc = k := by omega
        have d1 : ∀ W : World, (Instr.slice 22 (.slice (some ⟨g, off, none⟩) M mc) (some (.int .i64 (k : Int))) none none).run Tryd.prog W = .ok (.slice (some ⟨g, off + k, none⟩) (M - k) (mc - k)) W := by
          obtain ⟨i, hi, _, hsz, _⟩ := info_partsC infoB
          intro W
          have hel : Tryd.prog.elem 22 = 5 := by simp [Program.elem, Tryd.underlying22]
          have hu : Tryd.prog.underlying 22 = some (.slice (Tryd.prog.elem 22)) := by rw [hel]; exact Tryd.underlying22
          rw [run_slice_l W 22 (some ⟨g, off, none⟩) M mc hu .i64 (k : Int) (Int.natCast_nonneg _) (by omega), hel]
          simp [sizeOf, typeInfo, hi, hsz, sliced, Result.andThen, kM, Addr.add]
        have H1d := Aside0.mk (HS.out.below (below_drew (Below.refl _ _)))
        have R1d := Aside0.mk (Kd.R_drew HR.out)
        have E1d := Aside0.mk (HE1.out.below (below_drew (Below.refl _ _)))
        by_cases hne : k < bd.length
        · have hdl : 0 < (bd.drop k).length := by rw [List.length_drop]; omega
          have DL := Aside0.mk hdl
          clear hdl
          go_wp2_with fail
          go_region_held3 (fun _ => True) (trivial) ((go_at_call 123; (with_reducible refine (bdy_prt H1d.out E1d.out R1d.out (show off + k + (M - k) ≤ N by omega) (show 1 ≤ M - k by omega) (show M - k ≤ mc - k by omega) gs gd gb).mono ?_); rintro en w1 ⟨q, ok2, rest2, q1, q2, q3, q4, q5, q6, q7, q8⟩; rw [if_pos DL.out] at q5; subst q5; obtain ⟨q30, rfl, rfl⟩ := q3 DL.out; have X1 := Aside0.mk (And.intro q6 (And.intro q7 q8)); have Q1 := Aside0.mk (And.intro q30 (And.intro q1 q2)); clear q1 q2 q3 q4 q6 q7 q8 q30))
          have qq : q ≤ M := by have := Q1.out.2.1; omega
          go_wp2_with fail
          obtain ⟨hq6, hR1, hT1⟩ := X1.out
          obtain ⟨q30, q1, q2⟩ := Q1.out
          rw [List.length_drop] at q2
          rw [List.drop_drop] at hq6
          have e1 := splice xs bd off k q (by have := XL.out; omega) hkl
          rw [e1] at hR1
          go_roundw
          case rel => exact ⟨k + q, _, _, by omega, by omega, by first | rfl | go_num, .inl ⟨rfl, rfl, rfl⟩, ⟨hq6⟩, ⟨hR1⟩, ⟨(HT.out.trans (Tch.of_below (below_drew (Below.refl _ _)))).trans hT1⟩⟩
          case measure => simp [intOf, open_]; omega
        · obtain rfl : k = bd.length := by omega
          have DL := Aside0.mk (show ¬ 0 < (bd.drop bd.length).length by simp)
          obtain ⟨ve, hve⟩ : ∃ x : Value, (if ok' = true then (.iface 206 (.pointer (some aE))) else (.iface 206 (.pointer (some aU)))) = x := ⟨_, rfl⟩
          have VE := Aside0.mk hve
          clear hve
          go_wp2_with fail
          go_region_held3 (fun _ => True) (trivial) ((go_at_call 123; (with_reducible refine (bdy_prt H1d.out E1d.out R1d.out (show off + bd.length + (M - bd.length) ≤ N by omega) (show 1 ≤ M - bd.length by omega) (show M - bd.length ≤ mc - bd.length by omega) gs gd gb).mono ?_); rintro en w1 ⟨q, ok2, rest2, q1, q2, q3, q4, q5, q6, q7, q8⟩; rw [if_neg DL.out, VE.out] at q5; obtain rfl : q = 0 := (by have := DL.out; omega); subst q5; have X1 := Aside0.mk (And.intro q6 (And.intro q7 q8)); clear q1 q2 q3 q4 q6 q7 q8))
          go_wp2_with fail
          obtain ⟨hq6, hR1, hT1⟩ := X1.out
          rw [List.drop_zero] at hq6
          have e1 := splice xs bd off bd.length 0 (by have := XL.out; omega) hkl
          rw [Nat.add_zero] at hR1
          simp only [List.take_zero, List.nil_append, List.take_append_drop] at hR1
          go_roundw
          case rel => exact ⟨bd.length, ok2, rest2, by omega, Nat.le_refl _, by first | rfl | go_num, .inr ⟨VE.out.symm, rfl, hlt⟩, ⟨hq6⟩, ⟨hR1⟩, ⟨(HT.out.trans (Tch.of_below (below_drew (Below.refl _ _)))).trans hT1⟩⟩
          case measure => rw [← VE.out]; cases ok' <;> simp [intOf, open_]
      · obtain rfl : k = M := by omega
        go_wp2_with fail
        go_ret2
        exact ⟨k, _, _, by omega, by rw [if_pos rfl]; rfl, fun _ => ⟨rfl, rfl⟩, HS.out, HR.out, HT.out⟩
    · subst hk2
      have kI : (bd.length : Int) < (M : Int) := by omega
      have kJ : ¬ (M : Int) ≤ (bd.length : Int) := by omega
      have kK : ¬ M ≤ bd.length := by omega
      have ee := eql_same aE
      have e0 := HE1.out.e
      have u0 := HE1.out.u
      have eo := eql_other (w := wr) (Ne.symm HE1.out.ne) HE1.out.hu HE1.out.he
      by_cases hz : bd.length = 0
      · have z1 : ¬ 0 < bd.length := by omega
        have z2 : decide ((0 : Int) < (bd.length : Int)) = false := decide_eq_false (by omega)
        cases ok
        all_goals
          simp only [if_true, if_false, Bool.false_eq_true]
          go_wp2_with fail
          go_ret2
          exact ⟨bd.length, _, _, by omega, by simp [hz, show ¬ (0 : Nat) = M by omega], fun q => absurd q (by omega), HS.out, HR.out, HT.out⟩
      · have z1 : 0 < bd.length := by omega
        have z2 : decide ((0 : Int) < (bd.length : Int)) = true := decide_eq_true (by omega)
        cases ok
        all_goals
          simp only [if_true, if_false, Bool.false_eq_true]
          go_wp2_with fail
          go_ret2
          exact ⟨bd.length, _, _, by omega, by rw [if_neg (show ¬ bd.length = M by omega), if_neg (fun q => hz q.1)]; rfl, fun q => absurd q (by omega), HS.out, HR.out, HT.out⟩
theorem atLeastB {w : World} {d s b : Nat} {split : Int} {v : Value} {bd rest : List Int} {ok : Bool} {aE aU : Addr} (h : Bdy w d s b split v bd ok rest) (hE : Env w d aE aU) {e base g off N cap M mc : Nat} {xs : List Int} (hD : R8 e w base (.slice (some ⟨g, 0, none⟩) N cap) xs) (h1 : off + M ≤ N) (hmc : M ≤ mc) (hM : M ≤ 100000000) (gs : g ≠ s) (gd : d ≤ g) (gb : g ≠ b) :
    Calls Tryd.prog 84 #[v, .slice (some ⟨g, off, none⟩) M mc, .int .i64 (M : Int)] w (GotB w d s b split v e base g off N cap M xs bd ok rest aE aU) := by
  have h2 := h
  rcases h2 with ⟨rfl, rfl, _⟩ | ⟨rfl, _⟩ | ⟨rfl, _⟩
  · exact atLeastB_src h hE hD h1 hmc hM gs gd gb
  · exact atLeastB_spn h hE hD h1 hmc hM gs gd gb
  · exact atLeastB_prt h hE hD h1 hmc hM gs gd gb
set_option maxHeartbeats 1600000 in
set_option maxRecDepth 100000 in
theorem fullB {w : World} {d s b : Nat} {split : Int} {v : Value} {bd rest : List Int} {ok : Bool} {aE aU : Addr} (h : Bdy w d s b split v bd ok rest) (hE : Env w d aE aU) {e base g off N cap M mc : Nat} {xs : List Int} (hD : R8 e w base (.slice (some ⟨g, 0, none⟩) N cap) xs) (h1 : off + M ≤ N) (hmc : M ≤ mc) (hM : M ≤ 100000000) (gs : g ≠ s) (gd : d ≤ g) (gb : g ≠ b) :
    Calls Tryd.prog 73 #[v, .slice (some ⟨g, off, none⟩) M mc] w (GotB w d s b split v e base g off N cap M xs bd ok rest aE aU) := by
  have H := Aside0.mk (atLeastB h hE hD h1 hmc hM gs gd gb)
  clear h hE hD
  go_enter Tryd.func73, Tryd.ntmps73
  go_wp2_with fail
  refine H.out.mono ?_
  rintro en w1 ⟨k, ok', rest', e1, e2, e3, e4⟩
  generalize ev : (if k = M then Value.nilIface else if k = 0 ∧ ok = true then (.iface 206 (.pointer (some aE))) else (.iface 206 (.pointer (some aU)))) = x at e2
  subst e2
  have P := Aside0.mk (And.intro e1 (And.intro ev (And.intro e3 e4)))
  clear e1 ev e3 e4
  go_wp2_with fail
  go_ret2
  obtain ⟨e1, ev, e3, e4⟩ := P.out
  exact ⟨k, ok', rest', e1, by rw [ev]; rfl, e3, e4⟩
/-- The same by packet.readFull: an end is always told as an end within. -/
def GotC (w : World) (d s b : Nat) (split : Int) (v : Value) (e base g off N cap M : Nat) (xs bd : List Int) (ok : Bool) (rest : List Int) (aU : Addr) (en : Ending) (w' : World) : Prop :=
  ∃ k ok' rest', k = min M bd.length ∧ en = .returned (.tuple #[.int .i64 (k : Int), if k = M then .nilIface else (.iface 206 (.pointer (some aU)))]) ∧ (k = M → ok' = ok ∧ rest' = rest) ∧ Bdy w' d s b split v (bd.drop k) ok' rest' ∧ R8 e w' base (.slice (some ⟨g, 0, none⟩) N cap) (xs.take off ++ (bd.take k ++ xs.drop (off + k))) ∧ Tch (fun j => j = g ∨ j = s ∨ j = b) w w'
set_option maxHeartbeats 1600000 in
set_option maxRecDepth 100000 in
theorem rfullB {w : World} {d s b : Nat} {split : Int} {v : Value} {bd rest : List Int} {ok : Bool} {aE aU : Addr} (h : Bdy w d s b split v bd ok rest) (hE : Env w d aE aU) {e base g off N cap M mc : Nat} {xs : List Int} (hD : R8 e w base (.slice (some ⟨g, 0, none⟩) N cap) xs) (h1 : off + M ≤ N) (hmc : M ≤ mc) (hM : M ≤ 100000000) (gs : g ≠ s) (gd : d ≤ g) (gb : g ≠ b) :
    Calls Tryd.prog 83 #[v, .slice (some ⟨g, off, none⟩) M mc] w (GotC w d s b split v e base g off N cap M xs bd ok rest aU) := by
  have H := Aside0.mk (fullB h hE hD h1 hmc hM gs gd gb)
  have HE := Aside0.mk hE
  have ds := h.ds
  have db := h.db
  clear h hE hD
  go_enter Tryd.func83, Tryd.ntmps83
  go_wp2_with fail
  refine H.out.mono ?_
  rintro en w1 ⟨k, ok', rest', e1, e2, e3, e4, e5, hT⟩
  have hE2 := HE.out.kept hT (fun j q => by rcases q with q | q | q <;> subst q <;> assumption)
  have e0 := hE2.e
  have u0 := hE2.u
  have ee := eql_same aE
  have nl := fun W : World => run_eql_iface_nil_left (P := Tryd.prog) W 206 (.pointer (some aE)) Tryd.underlying98
  have eo := eql_other (w := w1) (Ne.symm hE2.ne) hE2.hu hE2.he
  have P := Aside0.mk (And.intro e1 (And.intro e3 (And.intro e4 (And.intro e5 hT))))
  clear e1 e3 e4 e5 hT hE2
  by_cases c1 : k = M
  · rw [if_pos c1] at e2
    have C1 := Aside0.mk c1
    clear c1
    subst e2
    go_wp2_with fail
    go_ret2
    obtain ⟨e1, e3⟩ := P.out
    exact ⟨k, ok', rest', e1, by rw [if_pos C1.out]; rfl, e3⟩
  · rw [if_neg c1] at e2
    have C1 := Aside0.mk c1
    clear c1
    by_cases c0 : k = 0 ∧ ok = true
    · rw [if_pos c0] at e2
      clear c0
      subst e2
      go_wp2_with fail
      go_ret2
      obtain ⟨e1, e3⟩ := P.out
      exact ⟨k, ok', rest', e1, by rw [if_neg C1.out]; rfl, e3⟩
    · rw [if_neg c0] at e2
      clear c0
      subst e2
      go_wp2_with fail
      go_ret2
      obtain ⟨e1, e3⟩ := P.out
      exact ⟨k, ok', rest', e1, by rw [if_neg C1.out]; rfl, e3⟩
end Go.Proofs.YtfhefoaieefnkaaDoor.Rd
