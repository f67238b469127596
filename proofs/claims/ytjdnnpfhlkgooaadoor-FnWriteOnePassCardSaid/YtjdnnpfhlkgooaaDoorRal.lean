/- io.ReadAtLeast, io.ReadFull, packet.readFull over impl.source. -/
import Derived.Test.YtjdnnpfhlkgooaaDoorSrc
import Derived.Deep.Cut
set_option linter.unusedVariables false
set_option linter.unusedSimpArgs false
namespace Go.Proofs.YtjdnnpfhlkgooaaDoor.Rd
open Go.RowKit Go.Proofs.YtjdnnpfhlkgooaaDoorW.PrintWords Go.Proofs.YtjdnnpfhlkgooaaDoorW.PrintMore Go.Proofs.YtjdnnpfhlkgooaaDoor.Kit

theorem nil_read (a : Nat) (w : World) : (nilAhead 339 88 (.pointer (some ⟨a, 0, none⟩)) "Read").run Tryd.prog w = .ok (some false) w := by kernel_rfl
theorem eql_same (a : Addr) (w : World) : (binOp .eql 85 (.iface 209 (.pointer (some a))) (.iface 209 (.pointer (some a)))).run Tryd.prog w = .ok (.bool true) w := by
  obtain ⟨i, hi, hc⟩ : ∃ i, Tryd.prog.info? 209 = some i ∧ i.comparable = true := Option.map_eq_some_iff.1 (show (Tryd.prog.info? 209).map (·.comparable) = some true by kernel_rfl)
  obtain ⟨j, hj, _⟩ : ∃ j, Tryd.prog.info? 236 = some j ∧ j.size = 1 := Option.map_eq_some_iff.1 (show (Tryd.prog.info? 236).map (·.size) = some 1 by kernel_rfl)
  exact run_eql_iface_ptr_same w a Tryd.underlying85 Tryd.underlying209 hi hc hj
theorem eql_other {a b : Addr} {w : World} (hne : a ≠ b) (ha : ∃ ca ta, w.heap[a.block]? = some (.cells ca ta (0, 0))) (hb : ∃ ca ta, w.heap[b.block]? = some (.cells ca ta (0, 0))) : (binOp .eql 85 (.iface 209 (.pointer (some a))) (.iface 209 (.pointer (some b)))).run Tryd.prog w = .ok (.bool false) w := by
  obtain ⟨i, hi, hc⟩ : ∃ i, Tryd.prog.info? 209 = some i ∧ i.comparable = true := Option.map_eq_some_iff.1 (show (Tryd.prog.info? 209).map (·.comparable) = some true by kernel_rfl)
  obtain ⟨j, hj, hz⟩ : ∃ j, Tryd.prog.info? 236 = some j ∧ j.size = 1 := Option.map_eq_some_iff.1 (show (Tryd.prog.info? 236).map (·.size) = some 1 by kernel_rfl)
  obtain ⟨ca, ta, ha⟩ := ha
  obtain ⟨cb, tb, hb⟩ := hb
  exact run_eql_iface_ptr_other w Tryd.underlying85 Tryd.underlying209 hi hc hj (by omega) hne ha hb
theorem splice (xs l : List Int) (off k q : Nat) (hx : off + k ≤ xs.length) (hk : k ≤ l.length) :
    (xs.take off ++ (l.take k ++ xs.drop (off + k))).take (off + k) ++ ((l.drop k).take q ++ (xs.take off ++ (l.take k ++ xs.drop (off + k))).drop (off + k + q)) = xs.take off ++ (l.take (k + q) ++ xs.drop (off + (k + q))) := by
  have l1 : (xs.take off).length = off := by rw [List.length_take]; omega
  have l2 : (l.take k).length = k := by rw [List.length_take]; omega
  have e1 : (xs.take off ++ (l.take k ++ xs.drop (off + k))).take (off + k) = xs.take off ++ l.take k := by
    rw [← List.append_assoc, List.take_append_of_le_length (by rw [List.length_append, l1, l2]; exact Nat.le_refl _), List.take_of_length_le (by rw [List.length_append, l1, l2]; exact Nat.le_refl _)]
  have e2 : (xs.take off ++ (l.take k ++ xs.drop (off + k))).drop (off + k + q) = xs.drop (off + (k + q)) := by
    rw [← List.append_assoc, List.drop_append, List.length_append, l1, l2, List.drop_of_length_le (by rw [List.length_append, l1, l2]; omega), List.nil_append, List.drop_drop]
    congr 1; omega
  rw [e1, e2, List.append_assoc, ← List.append_assoc (l.take k), List.take_add]
/-- What a full read of M bytes comes to. -/
def Got (w : World) (d s : Nat) (split : Int) (e base g off N cap M : Nat) (xs l : List Int) (aE aU : Addr) (en : Ending) (w' : World) : Prop :=
  ∃ k, k = min M l.length ∧ en = .returned (.tuple #[.int .i64 (k : Int), if k = M then .nilIface else if k = 0 then (.iface 209 (.pointer (some aE))) else (.iface 209 (.pointer (some aU)))]) ∧ (∃ A' c', Src w' d s A' c' (l.drop k) split) ∧ R8 e w' base (.slice (some ⟨g, 0, none⟩) N cap) (xs.take off ++ (l.take k ++ xs.drop (off + k))) ∧ Tch (fun j => j = g ∨ j = s) w w'
/-- The second word of the measure: a read has not ended yet. -/
def open_ : Value → Nat
  | .nilIface => 1
  | _ => 0

set_option maxHeartbeats 3200000 in
set_option maxRecDepth 100000 in
theorem atLeast_calls {w : World} {d s : Nat} {A : Option Addr} {c : Nat} {l : List Int} {split : Int} {aE aU : Addr} (h : Src w d s A c l split) (hE : Env w d aE aU) {e base g off N cap M mc : Nat} {xs : List Int} (hD : R8 e w base (.slice (some ⟨g, 0, none⟩) N cap) xs) (h1 : off + M ≤ N) (hmc : M ≤ mc) (hM : M ≤ 100000000) (gs : g ≠ s) (gd : d ≤ g) :
    Calls Tryd.prog 75 #[.iface 88 (.pointer (some ⟨s, 0, none⟩)), .slice (some ⟨g, off, none⟩) M mc, .int .i64 (M : Int)] w (Got w d s split e base g off N cap M xs l aE aU) := by
  have HE := Aside0.mk hE
  have H0 := Aside0.mk h
  have HD := Aside0.mk hD
  have ds := h.ds
  clear h hE hD
  go_enter Tryd.func75, Tryd.ntmps75
  go_wp2_with fail
  go_loopw [6, 7] (fun nv ev wr => ∃ k : Nat, k ≤ M ∧ k ≤ l.length ∧ nv = .int .i64 (k : Int) ∧ (ev = .nilIface ∨ ev = (.iface 209 (.pointer (some aE))) ∧ k = l.length ∧ k < M) ∧ Aside0 (∃ A' c', Src wr d s A' c' (l.drop k) split) ∧ Aside0 (R8 e wr base (.slice (some ⟨g, 0, none⟩) N cap) (xs.take off ++ (l.take k ++ xs.drop (off + k)))) ∧ Aside0 (Tch (fun j => j = g ∨ j = s) w wr)) (fun nv ev _ => (M - (intOf nv).toNat) * 2 + open_ ev)
  case atStart => exact ⟨0, Nat.zero_le _, Nat.zero_le _, rfl, .inl rfl, ⟨_, _, H0.out⟩, ⟨by rw [List.take_zero, List.nil_append, Nat.add_zero, List.take_append_drop]; exact HD.out⟩, ⟨Tch.refl _ _⟩⟩
  case round =>
    clear H0 HD
    obtain ⟨k, hk, hkl, rfl, hev, HS, HR, HT⟩ := hrel
    rcases hev with rfl | ⟨rfl, hk2, hk3⟩
    · by_cases hlt : k < M
      · obtain ⟨A', c', hs⟩ := HS.out
        have H1 := Aside0.mk hs
        have ni := nil_read s
        have kI : (k : Int) < (M : Int) := by omega
        have kJ : (k : Int) ≤ (M : Int) := by omega
        have kK : (k : Int) ≤ (mc : Int) := by omega
        have kL : k < mc := by omega
        have kM : ¬ mc = k := by omega
        have d1 : ∀ W : World, (Instr.slice 22 (.slice (some ⟨g, off, none⟩) M mc) (some (.int .i64 (k : Int))) none none).run Tryd.prog W = .ok (.slice (some ⟨g, off + k, none⟩) (M - k) (mc - k)) W := by
          obtain ⟨i, hi, _, hsz, _⟩ := info_partsC infoB
          intro W
          have hel : Tryd.prog.elem 22 = 5 := by simp [Program.elem, Tryd.underlying22]
          have hu : Tryd.prog.underlying 22 = some (.slice (Tryd.prog.elem 22)) := by rw [hel]; exact Tryd.underlying22
          rw [run_slice_l W 22 (some ⟨g, off, none⟩) M mc hu .i64 (k : Int) (Int.natCast_nonneg _) (by omega), hel]
          simp [sizeOf, typeInfo, hi, hsz, sliced, Result.andThen, kM, Addr.add]
        clear hs HS
        by_cases hne : k < l.length
        · have h1d := H1.out.below (below_drew (Below.refl _ _))
          have hRd := Kd.R_drew HR.out
          have H1d := Aside0.mk h1d
          have HRd := Aside0.mk hRd
          clear h1d hRd
          go_wp2_with fail
          go_region_held3 (fun _ => True) (trivial) ((go_at_call 113; (with_reducible refine (read_more H1d.out HRd.out (show off + k + (M - k) ≤ N by omega) (show 1 ≤ M - k by omega) (show M - k ≤ mc - k by omega) gs gd (by rw [List.length_drop]; omega)).mono ?_); rintro en w1 ⟨q, q1, q2, q3, rfl, hS, hR, hT⟩; have S1 := Aside0.mk hS; have R1 := Aside0.mk hR; have T1 := Aside0.mk hT; have Q1 := Aside0.mk (And.intro q1 (And.intro q2 q3)); clear hS hR hT q1 q2 q3))
          have qq : q ≤ M := by have := Q1.out.2.1; omega
          go_wp2_with fail
          have el : (l.drop k).length = l.length - k := List.length_drop
          obtain ⟨A2, c2, hs2⟩ := S1.out
          rw [List.drop_drop] at hs2
          have hR1 := R1.out
          have e1 : (xs.take off ++ (l.take k ++ xs.drop (off + k))).take (off + k) ++ ((l.drop k).take q ++ (xs.take off ++ (l.take k ++ xs.drop (off + k))).drop (off + k + q)) = xs.take off ++ (l.take (k + q) ++ xs.drop (off + (k + q))) := splice xs l off k q (by have := (Kd.R_reads' HR.out).1; rw [List.length_append, List.length_append, List.length_take, List.length_take, List.length_drop] at this; omega) hkl
          rw [e1] at hR1
          have hq := Q1.out
          go_roundw
          case rel => exact ⟨k + q, by omega, by omega, by first | rfl | go_num, .inl rfl, ⟨A2, c2, hs2⟩, ⟨hR1⟩, ⟨(HT.out.trans (Tch.of_below (below_drew (Below.refl _ _)))).trans T1.out⟩⟩
          case measure => simp [intOf, open_]; omega
        · obtain rfl : k = l.length := by omega
          have h1d := H1.out.below (below_drew (Below.refl _ _))
          rw [List.drop_length] at h1d
          have H1d := Aside0.mk h1d
          have HEd := Aside0.mk ((HE.out.kept HT.out (fun j q => by rcases q with q | q <;> subst q <;> assumption)).below (below_drew (Below.refl _ _)))
          clear h1d
          go_wp2_with fail
          go_region_held3 (fun _ => True) (trivial) ((go_at_call 113; (with_reducible refine (read_end H1d.out HEd.out _ (show 1 ≤ M - l.length by omega)).mono ?_); rintro en w1 ⟨rfl, hB⟩; have B1 := Aside0.mk hB; clear hB))
          go_wp2_with fail
          have h2 := H1.out.below (below_then (below_drew (Below.refl _ _)) (Nat.le_refl _) B1.out)
          have hT2 : Tch (fun j => j = g ∨ j = s) w w1 := HT.out.trans (Tch.of_below (below_then (below_drew (Below.refl _ _)) (Nat.le_refl _) B1.out))
          have hR2 := Kd.R_below HR.out (below_then (below_drew (Below.refl _ _)) (Nat.le_refl _) B1.out)
          go_roundw
          case rel => exact ⟨l.length, by omega, Nat.le_refl _, by first | rfl | go_num, .inr ⟨rfl, rfl, hlt⟩, ⟨A', c', h2⟩, ⟨hR2⟩, ⟨hT2⟩⟩
          case measure => simp [intOf, open_]
      · obtain rfl : k = M := by omega
        go_wp2_with fail
        go_ret2
        exact ⟨k, by omega, by rw [if_pos rfl]; rfl, HS.out, HR.out, HT.out⟩
    · subst hk2
      have kI : (l.length : Int) < (M : Int) := by omega
      have kJ : ¬ (M : Int) ≤ (l.length : Int) := by omega
      have kK : ¬ M ≤ l.length := by omega
      have ee := eql_same aE
      have e0 := (HE.out.kept HT.out (fun j q => by rcases q with q | q <;> subst q <;> assumption)).e
      have u0 := (HE.out.kept HT.out (fun j q => by rcases q with q | q <;> subst q <;> assumption)).u
      by_cases hz : l.length = 0
      · have z1 : ¬ 0 < l.length := by omega
        have z2 : decide ((0 : Int) < (l.length : Int)) = false := decide_eq_false (by omega)
        go_wp2_with fail
        go_ret2
        exact ⟨l.length, by omega, by rw [if_neg (show ¬ l.length = M by omega), if_pos hz, hz]; rfl, HS.out, HR.out, HT.out⟩
      · have z1 : 0 < l.length := by omega
        have z2 : decide ((0 : Int) < (l.length : Int)) = true := decide_eq_true (by omega)
        go_wp2_with fail
        go_ret2
        exact ⟨l.length, by omega, by rw [if_neg (show ¬ l.length = M by omega), if_neg hz]; rfl, HS.out, HR.out, HT.out⟩

set_option maxHeartbeats 1600000 in
set_option maxRecDepth 100000 in
theorem full_calls {w : World} {d s : Nat} {A : Option Addr} {c : Nat} {l : List Int} {split : Int} {aE aU : Addr} (h : Src w d s A c l split) (hE : Env w d aE aU) {e base g off N cap M mc : Nat} {xs : List Int} (hD : R8 e w base (.slice (some ⟨g, 0, none⟩) N cap) xs) (h1 : off + M ≤ N) (hmc : M ≤ mc) (hM : M ≤ 100000000) (gs : g ≠ s) (gd : d ≤ g) :
    Calls Tryd.prog 62 #[.iface 88 (.pointer (some ⟨s, 0, none⟩)), .slice (some ⟨g, off, none⟩) M mc] w (Got w d s split e base g off N cap M xs l aE aU) := by
  have H := Aside0.mk (atLeast_calls h hE hD h1 hmc hM gs gd)
  clear h hE hD
  go_enter Tryd.func62, Tryd.ntmps62
  go_wp2_with (go_at_call 75; (with_reducible refine H.out.mono ?_); rintro en w1 ⟨k, e1, rfl, hS, hR, hT⟩; generalize ev : (if k = M then Value.nilIface else if k = 0 then (.iface 209 (.pointer (some aE))) else (.iface 209 (.pointer (some aU)))) = v; have P := Aside0.mk (show k = min M l.length ∧ (if k = M then Value.nilIface else if k = 0 then (.iface 209 (.pointer (some aE))) else (.iface 209 (.pointer (some aU)))) = v ∧ (∃ A' c', Src w1 d s A' c' (l.drop k) split) ∧ R8 e w1 base (.slice (some ⟨g, 0, none⟩) N cap) (xs.take off ++ (l.take k ++ xs.drop (off + k))) ∧ Tch (fun j => j = g ∨ j = s) w w1 from ⟨e1, ev, hS, hR, hT⟩); clear e1 ev hS hR hT)
  go_ret2
  obtain ⟨e1, ev, hS, hR, hT⟩ := P.out
  exact ⟨k, e1, by rw [ev]; rfl, hS, hR, hT⟩
/-- The same by packet.readFull: an end is always told as an end within. -/
def Got2 (w : World) (d s : Nat) (split : Int) (e base g off N cap M : Nat) (xs l : List Int) (aU : Addr) (en : Ending) (w' : World) : Prop :=
  ∃ k, k = min M l.length ∧ en = .returned (.tuple #[.int .i64 (k : Int), if k = M then .nilIface else (.iface 209 (.pointer (some aU)))]) ∧ (∃ A' c', Src w' d s A' c' (l.drop k) split) ∧ R8 e w' base (.slice (some ⟨g, 0, none⟩) N cap) (xs.take off ++ (l.take k ++ xs.drop (off + k))) ∧ Tch (fun j => j = g ∨ j = s) w w'
set_option maxHeartbeats 1600000 in
set_option maxRecDepth 100000 in
theorem rfull_calls {w : World} {d s : Nat} {A : Option Addr} {c : Nat} {l : List Int} {split : Int} {aE aU : Addr} (h : Src w d s A c l split) (hE : Env w d aE aU) {e base g off N cap M mc : Nat} {xs : List Int} (hD : R8 e w base (.slice (some ⟨g, 0, none⟩) N cap) xs) (h1 : off + M ≤ N) (hmc : M ≤ mc) (hM : M ≤ 100000000) (gs : g ≠ s) (gd : d ≤ g) :
    Calls Tryd.prog 67 #[.iface 88 (.pointer (some ⟨s, 0, none⟩)), .slice (some ⟨g, off, none⟩) M mc] w (Got2 w d s split e base g off N cap M xs l aU) := by
  have H := Aside0.mk (full_calls h hE hD h1 hmc hM gs gd)
  have HE := Aside0.mk hE
  have ds := h.ds
  clear h hE hD
  by_cases c1 : min M l.length = M
  · go_enter Tryd.func67, Tryd.ntmps67
    have C1 := Aside0.mk c1
    clear c1
    go_wp2_with (go_at_call 62; (with_reducible refine H.out.mono ?_); rintro en w1 ⟨k, e1, rfl, hS, hR, hT⟩; rw [C1.out] at e1; rw [if_pos e1]; have e0 := ((HE.out.kept hT (fun j q => by rcases q with q | q <;> subst q <;> assumption)).e); have P := Aside0.mk (And.intro e1 (And.intro hS (And.intro hR hT))); clear e1 hS hR hT; have nl := run_eql_iface_nil_left (P := Tryd.prog) w1 209 (.pointer (some aE)) Tryd.underlying85)
    go_ret2
    obtain ⟨e1, hS, hR, hT⟩ := P.out
    exact ⟨k, by rw [C1.out]; exact e1, by rw [if_pos e1]; rfl, hS, hR, hT⟩
  · have C1 := Aside0.mk c1
    clear c1
    by_cases c0 : min M l.length = 0
    · have C0 := Aside0.mk c0
      clear c0
      go_enter Tryd.func67, Tryd.ntmps67
      go_wp2_with (go_at_call 62; (with_reducible refine H.out.mono ?_); rintro en w1 ⟨k, e1, rfl, hS, hR, hT⟩; rw [if_neg (show ¬ k = M by rw [e1]; exact C1.out), if_pos (show k = 0 by rw [e1]; exact C0.out)]; have e0 := ((HE.out.kept hT (fun j q => by rcases q with q | q <;> subst q <;> assumption)).e); have u0 := ((HE.out.kept hT (fun j q => by rcases q with q | q <;> subst q <;> assumption)).u); have P := Aside0.mk (And.intro e1 (And.intro hS (And.intro hR hT))); clear e1 hS hR hT; have ee := eql_same aE w1)
      go_ret2
      obtain ⟨e1, hS, hR, hT⟩ := P.out
      exact ⟨k, e1, by rw [if_neg (show ¬ k = M by rw [e1]; exact C1.out)]; rfl, hS, hR, hT⟩
    · have C0 := Aside0.mk c0
      clear c0
      go_enter Tryd.func67, Tryd.ntmps67
      go_wp2_with (go_at_call 62; (with_reducible refine H.out.mono ?_); rintro en w1 ⟨k, e1, rfl, hS, hR, hT⟩; rw [if_neg (show ¬ k = M by rw [e1]; exact C1.out), if_neg (show ¬ k = 0 by rw [e1]; exact C0.out)]; have hE2 := (HE.out.kept hT (fun j q => by rcases q with q | q <;> subst q <;> assumption)); have e0 := hE2.e; have ee := eql_other (w := w1) (Ne.symm hE2.ne) hE2.hu hE2.he; have P := Aside0.mk (And.intro e1 (And.intro hS (And.intro hR hT))); clear e1 hS hR hT hE2)
      go_ret2
      obtain ⟨e1, hS, hR, hT⟩ := P.out
      exact ⟨k, e1, by rw [if_neg (show ¬ k = M by rw [e1]; exact C1.out)]; rfl, hS, hR, hT⟩
end Go.Proofs.YtjdnnpfhlkgooaaDoor.Rd
