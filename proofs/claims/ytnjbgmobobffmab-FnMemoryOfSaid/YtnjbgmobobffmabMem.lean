/- The law FnMemoryOf, walked. -/
import Derived.Test.YtnjbgmobobffmabCntLaw
set_option linter.unusedVariables false
set_option linter.unusedSimpArgs false
namespace Go.Proofs.Ytnjbgmobobffmab.Mem
open Go.RowKit Go.Proofs.YtnjbgmobobffmabW.PrintWords Go.Proofs.YtnjbgmobobffmabW.PrintMore Go.Proofs.Ytnjbgmobobffmab.Kit

/-- The powers of two that are asked for. -/
theorem pow_lt {a b : Nat} (h : a < b) : (2 : Int) ^ a < 2 ^ b := by exact_mod_cast Nat.pow_lt_pow_right (by decide : 1 < 2) h
theorem pow_31 {a : Nat} (h : a ≤ 31) : 1 ≤ (2 : Int) ^ a ∧ (2 : Int) ^ a ≤ 2147483648 := by
  constructor
  · have := Cnt.pow_pos' a; omega
  · have := Cnt.pow_le h; have e : (2 : Int) ^ 31 = 2147483648 := by decide
    omega

set_option maxHeartbeats 800000 in
set_option maxRecDepth 100000 in
theorem dec_calls (e : Int) (w : World) (h0 : 0 ≤ e) (h1 : e ≤ 31) :
    Calls Try.prog 46 #[.int .u8 e] w fun e' w' => e' = .returned (.int .u32 (2 ^ e.toNat)) ∧ w = w' := by
  have hp := pow_31 (a := e.toNat) (by omega)
  have HE : ((2 : Int) ^ e.toNat) % 4294967296 = 2 ^ e.toNat := by omega
  clear hp
  go_enter Try.func46, Try.ntmps46
  go_wp2
  go_ret
  refine ⟨?_, rfl⟩
  simp

set_option maxHeartbeats 800000 in
set_option maxRecDepth 100000 in
theorem enc_calls (m p : Int) (e : Int) (w : World) (he : m = 2 ^ e.toNat) (h0 : 3 ≤ e) (h1 : e ≤ 31) (hp0 : 0 ≤ p) (hp1 : p ≤ 255) (hp : 8 * p ≤ m) :
    Calls Try.prog 44 #[.int .u32 m, .int .u8 p] w fun e' w' => e' = .returned (.int .u8 e) ∧ w = w' := by
  have hm := pow_31 (a := e.toNat) (by omega)
  have h8 : (8 * p) % 4294967296 = 8 * p := by omega
  have d1 : decide (m < 8 * p) = false := decide_eq_false (by omega)
  have d2 : decide (2147483648 < m) = false := decide_eq_false (by omega)
  have HE := Aside0.mk he
  have H0 := Aside0.mk h0
  have H1 := Aside0.mk h1
  clear hm he h0 h1
  go_enter Try.func44, Try.ntmps44
  go_wp2
  go_loop [5] (fun v => ∃ k : Int, 3 ≤ k ∧ k ≤ e ∧ v = .int .i64 k) (fun v => (256 - intOf v).toNat)
  case atStart => exact ⟨3, by decide, H0.out, rfl⟩
  case round =>
    obtain ⟨k, hk0, hk1, rfl⟩ := hrel
    have hk2 : k ≤ 31 := by have := H1.out; omega
    by_cases hke : k = e
    · subst hke
      by_cases h31 : k = 31
      · subst h31
        go_wp2
        go_ret
        exact ⟨rfl, rfl⟩
      · have hlt : k < 31 := by omega
        clear h31
        have c1 : decide (m ≤ 2 ^ k.toNat) = true := decide_eq_true (by rw [HE.out]; exact Int.le_refl _)
        go_wp2_with (go_at_call 46; refine (dec_calls k _ (by omega) (by omega)).mono ?_; rintro e' w' ⟨rfl, rfl⟩)
        go_ret
        exact ⟨rfl, rfl⟩
    · have hlt : k < 31 := by have := H1.out; omega
      have c1 : decide (m ≤ 2 ^ k.toNat) = false := decide_eq_false (by rw [HE.out]; have := pow_lt (show k.toNat < e.toNat by omega); omega)
      go_wp2_with (go_at_call 46; refine (dec_calls k _ (by omega) (by omega)).mono ?_; rintro e' w' ⟨rfl, rfl⟩)
      go_round
      case rel => exact ⟨k + 1, by omega, by omega, rfl⟩
      case measure => simp [intOf]; omega

set_option maxHeartbeats 800000 in
set_option maxRecDepth 100000 in
theorem par_calls (p : Int) (b : Nat) (w : World) (hw : w.cell? ⟨b, 1, none⟩ = some (.int .u8 p)) (hp : 0 < p) :
    Calls Try.prog 43 #[.pointer (some ⟨b, 0, none⟩)] w fun e' w' => e' = .returned (.int .u8 p) ∧ w = w' := by
  have d3 : (p == 0) = false := by
    have : p ≠ 0 := by omega
    simpa using this
  have d4 : ¬ p = 0 := by omega
  clear hp
  go_enter Try.func43, Try.ntmps43
  go_wp2
  go_ret
  exact ⟨rfl, rfl⟩

set_option maxHeartbeats 800000 in
set_option maxRecDepth 100000 in
theorem cfg_calls (m p e : Int) (b : Nat) (w : World) (hw1 : w.cell? ⟨b, 1, none⟩ = some (.int .u8 p)) (hw2 : w.cell? ⟨b, 2, none⟩ = some (.int .u32 m)) (he : m = 2 ^ e.toNat) (h0 : 3 ≤ e) (h1 : e ≤ 31) (hp0 : 0 < p) (hp1 : p ≤ 255) (hp : 8 * p ≤ m) :
    Calls Try.prog 36 #[.pointer (some ⟨b, 0, none⟩)] w fun e' w' => e' = .returned (.int .u8 e) ∧ w = w' := by
  have hm := pow_31 (a := e.toNat) (by omega)
  have d3 : (m == 0) = false := by
    have : m ≠ 0 := by omega
    simpa using this
  have d4 : ¬ m = 0 := by omega
  have h8 : (p * 8) % 4294967296 = p * 8 := by omega
  have d1 : decide (m < p * 8) = false := decide_eq_false (by omega)
  have d2 : decide (2147483648 < m) = false := decide_eq_false (by omega)
  have HE := Aside0.mk he
  have H0 := Aside0.mk h0
  have H1 := Aside0.mk h1
  have HP0 := Aside0.mk hp0
  have HP1 := Aside0.mk hp1
  have HP := Aside0.mk hp
  clear hm he h0 h1 hp0 hp1 hp
  go_enter Try.func36, Try.ntmps36
  go_wp2_with (first | (go_at_call 43; refine (par_calls p b _ hw1 HP0.out).mono ?_; rintro e' w' ⟨rfl, rfl⟩) | (go_at_call 44; refine (enc_calls m p e _ HE.out H0.out H1.out (by have := HP0.out; omega) HP1.out HP.out).mono ?_; rintro e' w' ⟨rfl, rfl⟩))
  go_ret
  exact ⟨rfl, rfl⟩

set_option maxHeartbeats 800000 in
set_option maxRecDepth 100000 in
theorem mof_calls (m p e : Int) (w : World) (he : m = 2 ^ e.toNat) (h0 : 3 ≤ e) (h1 : e ≤ 31) (hp0 : 0 < p) (hp1 : p ≤ 255) (hp : 8 * p ≤ m) :
    Calls Try.prog 24 #[.int .u32 m, .int .u8 p] w fun e' w' => e' = .returned (.int .u8 e) ∧ Below w.heap.size w w' := by
  have HE := Aside0.mk he
  have H0 := Aside0.mk h0
  have H1 := Aside0.mk h1
  have HP0 := Aside0.mk hp0
  have HP1 := Aside0.mk hp1
  have HP := Aside0.mk hp
  clear he h0 h1 hp0 hp1 hp
  go_enter Try.func24, Try.ntmps24
  go_wp2_with (go_at_call 36; refine (cfg_calls m p e _ _ (by simp [go_sem]) (by simp [go_sem]) HE.out H0.out H1.out HP0.out HP1.out HP.out).mono ?_; rintro e' w' ⟨rfl, rfl⟩)
  go_ret
  exact ⟨rfl, (Below.refl _ w).alloc (Nat.le_refl _) _⟩

set_option maxHeartbeats 800000 in
set_option maxRecDepth 100000 in
theorem law_calls (p q : Int) (w : World) (hp0 : 0 ≤ p) (hp1 : p ≤ 255) (hq0 : 0 ≤ q) (hq1 : q ≤ 255) :
    Calls Try.prog 8 #[.int .u8 p, .int .u8 q] w fun e w' => e = .returned (.bool true) ∧ Below w.heap.size w w' := by
  obtain ⟨k, hk⟩ : ∃ k : Int, q % 32 = k := ⟨_, rfl⟩
  have hk0 : 0 ≤ k ∧ k ≤ 31 := by omega
  have HT : Aside0 (q.tmod 32 = k) := Aside0.mk ((Int.tmod_eq_emod_of_nonneg hq0).trans hk)
  have hpow := pow_31 (a := k.toNat) (by omega)
  have w64 : wrap64 (2 ^ k.toNat) = 2 ^ k.toNat := wrap64_id (by omega) (by omega)
  have w32 : ((2 : Int) ^ k.toNat) % 4294967296 = 2 ^ k.toNat := by omega
  have w8 : wrap64 (8 * p) = 8 * p := wrap64_id (by omega) (by omega)
  have w1 : wrap64 p = p := wrap64_id (by omega) (by omega)
  rcases Classical.em (p = 0) with hz | hz
  · subst hz
    clear hp0 hp1 hq0 hq1 hk hpow
    go_enter Try.func8, Try.ntmps8
    have h1 := HT.out
    go_wp2
    go_ret
    exact ⟨rfl, Below.refl _ _⟩
  have d3 : (p == 0) = false := by simpa using hz
  rcases Classical.em ((2 : Int) ^ k.toNat < 8 * p) with hl | hl
  · have d1 : decide ((2 : Int) ^ k.toNat < 8 * p) = true := decide_eq_true hl
    clear hp0 hp1 hq0 hq1 hk hpow hl
    go_enter Try.func8, Try.ntmps8
    have h1 := HT.out
    go_wp2
    go_ret
    exact ⟨rfl, Below.refl _ _⟩
  · have d1 : decide ((2 : Int) ^ k.toNat < 8 * p) = false := decide_eq_false hl
    have hk3 : 3 ≤ k := by
      by_cases h : 3 ≤ k
      · exact h
      · have hh : k = 0 ∨ k = 1 ∨ k = 2 := by omega
        rcases hh with rfl | rfl | rfl <;> simp at hl <;> omega
    have HK := Aside0.mk hk0
    have HK3 := Aside0.mk hk3
    have HP := Aside0.mk (show 0 < p ∧ p ≤ 255 ∧ 8 * p ≤ 2 ^ k.toNat by omega)
    clear hp0 hp1 hq0 hq1 hk hpow hl hz hk3
    go_enter Try.func8, Try.ntmps8
    have h1 := HT.out
    go_wp2_with (go_at_call 24; refine (mof_calls _ p k _ rfl HK3.out HK.out.2 HP.out.1 HP.out.2.1 HP.out.2.2).mono ?_; rintro e' w' ⟨rfl, hB⟩; have B0 := Aside0.mk hB; clear hB)
    go_ret
    exact ⟨rfl, B0.out⟩
theorem law (p q : Int) (w : World) (hp : (Lit.int .u8 p).wf = true) (hq : (Lit.int .u8 q).wf = true) :
    Calls Try.prog 8 #[.int .u8 p, .int .u8 q] w fun e w' => e = .returned (.bool true) ∧ Below w.heap.size w w' := by
  have h1 := wf_u8 hp
  have h2 := wf_u8 hq
  exact law_calls p q w (by omega) (by omega) (by omega) (by omega)
end Go.Proofs.Ytnjbgmobobffmab.Mem
