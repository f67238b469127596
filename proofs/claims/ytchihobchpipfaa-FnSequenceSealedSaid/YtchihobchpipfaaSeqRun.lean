/- impl.Sequence over a list of symbols, of which it is known how the verifier goes. -/
import Derived.Test.YtchihobchpipfaaSeq0
import Derived.Test.YtchihobchpipfaaNum
set_option linter.unusedVariables false
set_option linter.unusedSimpArgs false
namespace Go.Proofs.Ytchihobchpipfaa.Seq
open Go.RowKit Go.Proofs.YtchihobchpipfaaW.PrintWords Go.Proofs.YtchihobchpipfaaW.PrintLast Go.Proofs.YtchihobchpipfaaW.PrintMore Go.Proofs.Ytchihobchpipfaa.Kit

/-- A verifier: how many symbols on its stack, the second one, the state. -/
structure St where
  n : Nat
  x : Int
  st : Int
/-- One symbol. -/
inductive Step : St → Int → St → Prop
  | a : Step ⟨2, 0, 0⟩ 4 ⟨2, 2, 1⟩
  | b : Step ⟨2, 2, 1⟩ 4 ⟨2, 2, 1⟩
  | c : Step ⟨2, 0, 0⟩ 5 ⟨1, 0, 4⟩
  | d : Step ⟨2, 2, 1⟩ 5 ⟨1, 2, 4⟩
  | e (x : Int) : Step ⟨1, x, 4⟩ 6 ⟨0, x, 5⟩
  | f (x : Int) : Step ⟨1, x, 4⟩ 4 ⟨2, 2, 1⟩
inductive Falls : St → Int → Prop
  | a : Falls ⟨2, 0, 0⟩ 6
  | b : Falls ⟨2, 2, 1⟩ 6

theorem step_calls {w0 w : World} {base b g : Nat} {s s' : St} {y : Int} (hs : Step s y s') (h : Ok w0 base w b g s.n s.x s.st) :
    Calls Try.prog 35 #[.pointer (some ⟨b, 0, none⟩), .int .u8 y] w (To .nilIface w0 base b g s'.n s'.x s'.st) := by
  cases hs with
  | a => exact next_msg_esk h
  | b => exact next_esk_esk h
  | c => exact next_msg_enc h
  | d => exact next_esk_enc h
  | e x => exact next_enc_eos h
  | f x => exact next_enc_esk h
theorem falls_calls {w0 w : World} {base b g : Nat} {s : St} {y : Int} (hs : Falls s y) (h : Ok w0 base w b g s.n s.x s.st) :
    Calls Try.prog 35 #[.pointer (some ⟨b, 0, none⟩), .int .u8 y] w (Fell w0 base b g s.st) := by
  cases hs with
  | a => exact next_msg_eos h
  | b => exact next_esk_eos h
theorem step_sym {s s' : St} {y : Int} (h : Step s y s') : y = 4 ∨ y = 5 ∨ y = 6 := by cases h <;> simp
theorem falls_sym {s : St} {y : Int} (h : Falls s y) : y = 6 := by cases h <;> rfl
theorem low3 {y : Int} (h : y = 4 ∨ y = 5 ∨ y = 6) : Go.bits .and .i64 y 7 = y ∧ y % 256 = y := by
  rcases h with rfl | rfl | rfl <;> decide

/-- Valid, where the state is no valid one. -/
theorem valid_no {w0 w : World} {base b g n : Nat} {x st : Int} (h : Ok w0 base w b g n x st) (hst : st ≠ 5) :
    Calls Try.prog 36 #[.pointer (some ⟨b, 0, none⟩)] w fun e w' => e = .returned (.bool false) ∧ w = w' := by
  have s0 := h.rep.s0
  have s1 := h.rep.s1
  have d1 : (st == 5) = false := by simpa using hst
  have d2 : decide (st = 5) = false := by simpa using hst
  clear h
  go_enter Try.func36, Try.ntmps36
  go_wp2
  go_ret
  exact ⟨rfl, rfl⟩
theorem valid_yes {w0 w : World} {base b g : Nat} {x : Int} (h : Ok w0 base w b g 0 x 5) :
    Calls Try.prog 36 #[.pointer (some ⟨b, 0, none⟩)] w fun e w' => e = .returned (.bool true) ∧ w = w' := by
  have s0 := h.rep.s0
  have s1 := h.rep.s1
  clear h
  go_enter Try.func36, Try.ntmps36
  go_wp2
  go_ret
  exact ⟨rfl, rfl⟩
theorem new_calls (w : World) :
    Calls Try.prog 34 #[] w fun e w' => ∃ b g, e = .returned (.pointer (some ⟨b, 0, none⟩)) ∧ Ok w w.heap.size w' b g 2 0 0 := by
  go_enter Try.func34, Try.ntmps34
  go_wp2
  go_ret
  refine ⟨w.heap.size + 1, w.heap.size, rfl, ⟨by constructor <;> simp [go_sem], by go_grown, by simp; omega, by simp, by simp, by simp⟩⟩

theorem rd_nat (l : List Int) (k : Nat) : rd l (k : Int) = l.getD k 0 := by unfold rd; rw [Int.toNat_natCast]

/-- How a run goes: the verifier ahead of each symbol; it ends well behind the last one, or falls at one. -/
structure Goes (l : List Int) (at_ : Nat → St) (stop : Nat) : Prop where
  start : at_ 0 = ⟨2, 0, 0⟩
  le : stop ≤ l.length
  step : ∀ k, k < stop → Step (at_ k) (l.getD k 0) (at_ (k + 1))
  fall : stop < l.length → Falls (at_ stop) (l.getD stop 0) ∧ (at_ stop).st ≠ 5

set_option maxHeartbeats 1600000 in
set_option maxRecDepth 100000 in
theorem run_calls (A : Option Addr) (c : Nat) (l : List Int) (w : World) (hl : CN .i64 w A l) (at_ : Nat → St) (stop : Nat) (hG : Goes l at_ stop) (v : Bool)
    (hv : stop < l.length ∧ v = false ∨ stop = l.length ∧ v = true ∧ ∃ x, at_ stop = ⟨0, x, 5⟩) :
    Calls Try.prog 19 #[.slice A l.length c] w fun e w' => e = .returned (.tuple #[.int .i64 (stop : Int), .bool v]) ∧ Below w.heap.size w w' := by
  have HL := Aside0.mk hl
  have HG := Aside0.mk hG
  have HV := Aside0.mk hv
  have hmax : l.length ≤ 9223372036854775807 := Kd.C_max hl
  clear hl hG hv
  go_enter Try.func19, Try.ntmps19
  go_wp2_with (go_at_call 34; refine (new_calls _).mono ?_; rintro e w1 ⟨b, g, rfl, hO⟩; have H1 := Aside0.mk hO; clear hO)
  go_loopw [11] (fun i wr => ∃ k : Nat, k ≤ stop ∧ i = .int .i64 (k : Int) ∧ Aside0 (Ok w w.heap.size wr b g (at_ k).n (at_ k).x (at_ k).st)) (fun i _ => l.length - (intOf i).toNat)
  case atStart => exact ⟨0, Nat.zero_le _, rfl, ⟨by rw [HG.out.start]; exact H1.out⟩⟩
  case round =>
    clear H1
    obtain ⟨k, hk, rfl, HO⟩ := hrel
    by_cases hlt : k < l.length
    · obtain ⟨ad, rfl, hx⟩ := Kd.at_int (Kd.C_below HL.out HO.out.bel) (k : Int) (by omega) (by omega)
      rw [Int.toNat_natCast, rd_nat] at hx
      obtain ⟨y, hy0⟩ : ∃ y, l.getD k 0 = y := ⟨_, rfl⟩
      rw [hy0] at hx
      by_cases hs : k < stop
      · have hst := HG.out.step k hs
        rw [hy0] at hst
        clear hy0
        have E1 := Aside0.mk (low3 (step_sym hst))
        have HS := Aside0.mk hst
        clear hst
        go_wp2_with (go_at_call 35; rw [E1.out.1, E1.out.2]; (with_reducible refine (step_calls HS.out HO.out).mono ?_); rintro e w2 ⟨rfl, hO⟩; have H2 := Aside0.mk hO; clear hO)
        go_roundw
        case rel => exact ⟨k + 1, hs, by go_num, H2⟩
        case measure => simp [intOf]; omega
      · obtain rfl : k = stop := by omega
        obtain ⟨hf, hne⟩ := HG.out.fall hlt
        rw [hy0] at hf
        clear hy0
        obtain rfl := falls_sym hf
        have E1 := Aside0.mk (low3 (.inr (.inr (rfl : (6 : Int) = 6))))
        have HF := Aside0.mk hf
        have HN := Aside0.mk hne
        clear hf hne
        go_wp2_with (first | (go_at_call 35; rw [E1.out.1, E1.out.2]; (with_reducible refine (falls_calls HF.out HO.out).mono ?_); rintro e w2 ⟨⟨t, v', rfl⟩, n, x, hO⟩; have H2 := Aside0.mk hO; clear hO) | (go_at_call 36; (with_reducible refine (valid_no H2.out HN.out).mono ?_); rintro e w3 ⟨rfl, rfl⟩))
        go_ret2
        refine ⟨?_, H2.out.bel⟩
        rcases HV.out with ⟨_, rfl⟩ | ⟨h1, _⟩
        · rfl
        · omega
    · have hks : k = stop := by have := HG.out.le; omega
      rcases HV.out with ⟨h1, _⟩ | ⟨h1, hv, x, hx⟩
      · omega
      subst hks
      rw [hx] at HO
      subst hv
      have h1' := Aside0.mk h1
      clear hx h1
      go_wp2_with (go_at_call 36; (with_reducible refine (valid_yes HO.out).mono ?_); rintro e w3 ⟨rfl, rfl⟩)
      go_ret2
      exact ⟨by rw [h1'.out]; rfl, HO.out.bel⟩
end Go.Proofs.Ytchihobchpipfaa.Seq
