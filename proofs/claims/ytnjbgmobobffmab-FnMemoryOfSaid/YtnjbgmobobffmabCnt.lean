/- Coded counts: plain facts, and the functions that code and decode them, walked. -/
import Derived.Test.YtnjbgmobobffmabProg
import Derived.Test.YtnjbgmobobffmabOct0
import Derived.Defers
import Derived.Recover
set_option linter.unusedVariables false
set_option linter.unusedSimpArgs false
namespace Go.Proofs.Ytnjbgmobobffmab.Cnt
open Go.RowKit Go.Proofs.YtnjbgmobobffmabW.PrintWords Go.Proofs.YtnjbgmobobffmabW.PrintMore Go.Proofs.Ytnjbgmobobffmab.Kit

/-- The count that a code stands for. -/
def cnt (c : Int) : Int := (16 + c % 16) * 2 ^ (c / 16 + 6).toNat
theorem pow_le {a b : Nat} (h : a ≤ b) : (2 : Int) ^ a ≤ 2 ^ b := by exact_mod_cast Nat.pow_le_pow_right (by decide : 0 < 2) h
theorem pow_pos' (a : Nat) : (0 : Int) < 2 ^ a := by exact_mod_cast Nat.two_pow_pos a
theorem cnt_le (c : Int) (h0 : 0 ≤ c) (h1 : c ≤ 255) : 0 ≤ cnt c ∧ cnt c ≤ 65011712 := by
  have hp := pow_le (show (c / 16 + 6).toNat ≤ 21 by omega)
  have hq := pow_pos' (c / 16 + 6).toNat
  unfold cnt
  generalize (2 : Int) ^ (c / 16 + 6).toNat = p at *
  have h2 : (2 : Int) ^ 21 = 2097152 := by decide
  rw [h2] at hp
  constructor
  · exact Int.mul_nonneg (by omega) (by omega)
  · calc (16 + c % 16) * p ≤ 31 * p := Int.mul_le_mul_of_nonneg_right (by omega) (by omega)
      _ ≤ 65011712 := by omega
theorem cnt_step (c : Int) (h0 : 0 ≤ c) (h1 : c < 255) : cnt c < cnt (c + 1) := by
  have hq := pow_pos' (c / 16 + 6).toNat
  unfold cnt
  by_cases h : c % 16 = 15
  · have e1 : (c + 1) % 16 = 0 := by omega
    have e2 : ((c + 1) / 16 + 6).toNat = (c / 16 + 6).toNat + 1 := by omega
    rw [h, e1, e2, Int.pow_succ]
    omega
  · have e1 : (c + 1) % 16 = c % 16 + 1 := by omega
    have e2 : ((c + 1) / 16 + 6).toNat = (c / 16 + 6).toNat := by omega
    rw [e1, e2]
    have : (16 + (c % 16 + 1)) * 2 ^ (c / 16 + 6).toNat = (16 + c % 16) * 2 ^ (c / 16 + 6).toNat + 2 ^ (c / 16 + 6).toNat := by
      rw [show (16 + (c % 16 + 1)) = (16 + c % 16) + 1 by omega, Int.add_mul, Int.one_mul]
    omega
theorem cnt_lt (d : Nat) : ∀ (a : Int), 0 ≤ a → a + d + 1 ≤ 255 → cnt a < cnt (a + d + 1) := by
  induction d with
  | zero => intro a h0 h1; have := cnt_step a h0 (by omega); rw [show a + ((0 : Nat) : Int) + 1 = a + 1 by omega]; exact this
  | succ d ih =>
    intro a h0 h1
    have h2 := ih a h0 (by omega)
    have h3 := cnt_step (a + d + 1) (by omega) (by omega)
    rw [show a + ((d + 1 : Nat) : Int) + 1 = a + d + 1 + 1 by omega]
    omega
theorem cnt_mono {a b : Int} (h0 : 0 ≤ a) (h : a < b) (h1 : b ≤ 255) : cnt a < cnt b := by
  have := cnt_lt (b - a - 1).toNat a h0 (by omega)
  rw [show a + ((b - a - 1).toNat : Int) + 1 = b by omega] at this
  exact this
theorem cnt_96 : cnt 96 = 65536 := by decide
theorem cnt_224 : cnt 224 = 16777216 := by decide
theorem cnt_255 : cnt 255 = 65011712 := by decide
/-- The code of a number: the least one that is at least as great. -/
structure Code (n e : Int) : Prop where
  lo : 96 ≤ e
  hi : e ≤ 255
  ge : n ≤ cnt e
  lt : ∀ d, 0 ≤ d → d < e → cnt d < n
theorem code_find (n : Int) (h1 : n ≤ 65011712) (k : Nat) : ∀ e : Int, 96 ≤ e → e + k = 255 → (∀ d, 0 ≤ d → d < e → cnt d < n) → ∃ e, Code n e := by
  induction k with
  | zero => intro e h0 h hd; exact ⟨e, h0, by omega, by rw [show e = 255 by omega, cnt_255]; exact h1, hd⟩
  | succ k ih =>
    intro e h0 h hd
    by_cases hn : n ≤ cnt e
    · exact ⟨e, h0, by omega, hn, hd⟩
    · refine ih (e + 1) (by omega) (by omega) (fun d hd0 hde => ?_)
      by_cases hde' : d < e
      · exact hd d hd0 hde'
      · rw [show d = e by omega]; omega
theorem code_ex (n : Int) (h0 : 65536 ≤ n) (h1 : n ≤ 65011712) : ∃ e, Code n e :=
  code_find n h1 159 96 (by decide) (by decide) (fun d hd0 hd => by have := cnt_mono hd0 hd (by decide); rw [cnt_96] at this; omega)
theorem code_self (c : Int) (h0 : 96 ≤ c) (h1 : c ≤ 255) : Code (cnt c) c := ⟨h0, h1, Int.le_refl _, fun d hd0 hd => cnt_mono hd0 hd h1⟩

theorem and15 (c : Int) (h0 : 0 ≤ c) (h1 : c ≤ 255) : Go.bits .and .u8 c 15 = c % 16 := Go.u8_and15 c h0 (by omega)

set_option maxHeartbeats 800000 in
set_option maxRecDepth 100000 in
theorem dec_calls (c : Int) (w : World) (h0 : 0 ≤ c) (h1 : c ≤ 255) :
    Calls Try.prog 41 #[.int .u8 c] w fun e w' => e = .returned (.int .i64 (cnt c)) ∧ w = w' := by
  have ha := and15 c h0 h1
  have hc := cnt_le c h0 h1
  have HC := Aside0.mk hc
  clear hc
  go_enter Try.func41, Try.ntmps41
  go_wp2
  go_ret
  refine ⟨?_, rfl⟩
  have e : wrap64 (cnt c) = cnt c := wrap64_id (by have := (cnt_le c h0 h1).1; omega) (by have := (cnt_le c h0 h1).2; omega)
  exact congrArg (fun v => Ending.returned (.int .i64 v)) e

set_option maxHeartbeats 800000 in
set_option maxRecDepth 100000 in
theorem spec_calls (c : Int) (w : World) (h0 : 0 ≤ c) (h1 : c ≤ 255) :
    Calls Try.prog 20 #[.int .u8 c] w fun e w' => e = .returned (.int .i64 (cnt c)) ∧ w = w' := by
  have ha := and15 c h0 h1
  go_enter Try.func20, Try.ntmps20
  go_wp2
  go_ret
  refine ⟨?_, rfl⟩
  have e : wrap64 (cnt c) = cnt c := wrap64_id (by have := (cnt_le c h0 h1).1; omega) (by have := (cnt_le c h0 h1).2; omega)
  exact congrArg (fun v => Ending.returned (.int .i64 v)) e
set_option maxHeartbeats 800000 in
set_option maxRecDepth 100000 in
theorem enc_calls (n e : Int) (w : World) (h : Code n e) (h0 : 65536 ≤ n) (h1 : n ≤ 65011712) :
    Calls Try.prog 42 #[.int .i64 n] w fun e' w' => e' = .returned (.int .u8 e) ∧ w = w' := by
  have d1 : decide (n < 65536) = false := decide_eq_false (by omega)
  have d2 : decide (65011712 < n) = false := decide_eq_false (by omega)
  have H := Aside0.mk h
  have hlo := h.lo
  have hhi := h.hi
  clear h
  go_enter Try.func42, Try.ntmps42
  go_wp2
  go_loop [3] (fun m => ∃ k : Int, 96 ≤ k ∧ k ≤ e ∧ m = .int .i64 k) (fun m => (256 - intOf m).toNat)
  case atStart => exact ⟨96, by decide, hlo, rfl⟩
  case round =>
    obtain ⟨k, hk0, hk1, rfl⟩ := hrel
    by_cases hke : k = e
    · subst hke
      have c1 : decide (n ≤ cnt k) = true := decide_eq_true H.out.ge
      go_wp2_with (go_at_call 41; refine (dec_calls k _ (by omega) (by omega)).mono ?_; rintro e' w' ⟨rfl, rfl⟩)
      go_ret
      exact ⟨rfl, rfl⟩
    · have c1 : decide (n ≤ cnt k) = false := decide_eq_false (by have := H.out.lt k (by omega) (by omega); omega)
      go_wp2_with (go_at_call 41; refine (dec_calls k _ (by omega) (by omega)).mono ?_; rintro e' w' ⟨rfl, rfl⟩)
      go_round
      case rel => exact ⟨k + 1, by omega, by omega, rfl⟩
      case measure => simp [intOf]; omega

set_option maxHeartbeats 800000 in
set_option maxRecDepth 100000 in
theorem coded_calls (n e : Int) (w : World) (h : Code n e) :
    Calls Try.prog 22 #[.int .i64 n] w fun e' w' => e' = .returned (.int .u8 e) ∧ w = w' := by
  have H := Aside0.mk h
  have hlo := h.lo
  have hhi := h.hi
  clear h
  go_enter Try.func22, Try.ntmps22
  go_wp2
  go_loop [4] (fun m => ∃ k : Int, 0 ≤ k ∧ k ≤ e ∧ m = .int .i64 k) (fun m => (256 - intOf m).toNat)
  case atStart => exact ⟨0, by decide, by omega, rfl⟩
  case round =>
    obtain ⟨k, hk0, hk1, rfl⟩ := hrel
    by_cases hke : k = e
    · subst hke
      have c1 : decide (n ≤ cnt k) = true := decide_eq_true H.out.ge
      by_cases h255 : k = 255
      · subst h255
        go_wp2
        go_ret
        exact ⟨rfl, rfl⟩
      · have hlt : k < 255 := by omega
        clear h255
        go_wp2_with (go_at_call 20; refine (spec_calls k _ (by omega) (by omega)).mono ?_; rintro e' w' ⟨rfl, rfl⟩)
        go_ret
        exact ⟨rfl, rfl⟩
    · have c1 : decide (n ≤ cnt k) = false := decide_eq_false (by have := H.out.lt k (by omega) (by omega); omega)
      have hlt : k < 255 := by omega
      go_wp2_with (go_at_call 20; refine (spec_calls k _ (by omega) (by omega)).mono ?_; rintro e' w' ⟨rfl, rfl⟩)
      go_round
      case rel => exact ⟨k + 1, by omega, by omega, rfl⟩
      case measure => simp [intOf]; omega
end Go.Proofs.Ytnjbgmobobffmab.Cnt
