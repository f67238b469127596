/- The law FnGetLine: both find the same first line. -/
import Derived.Test.YtnjbgmobobffmabLineWalk
set_option linter.unusedVariables false
set_option linter.unusedSimpArgs false
namespace Go.Proofs.Ytnjbgmobobffmab.Line
open Go.RowKit Go.Proofs.YtnjbgmobobffmabW.PrintWords Go.Proofs.YtnjbgmobobffmabW.PrintMore Go.Proofs.Ytnjbgmobobffmab.Kit

/-- Where the first line ends, and where the rest begins. -/
inductive Ends (l : List Int) : Nat → Nat → Prop
  | none : Non l → Ends l l.length l.length
  | lf (i : Nat) : At l i → (0 < i → l.getD (i - 1) 0 ≠ 13) → Ends l i (i + 1)
  | cr (p : Nat) : At l (p + 1) → l.getD p 0 = 13 → Ends l p (p + 2)
theorem ends_ex (l : List Int) : ∃ p q, Ends l p q := by
  rcases non_or_at l l.length (Nat.le_refl _) with h | ⟨i, h⟩
  · exact ⟨_, _, .none h⟩
  · rcases Classical.em (0 < i → l.getD (i - 1) 0 ≠ 13) with g | g
    · exact ⟨_, _, .lf i h g⟩
    · have hi : 0 < i := Classical.byContradiction fun e => g (fun h => absurd h e)
      have h13 : l.getD (i - 1) 0 = 13 := Classical.byContradiction fun e => g (fun _ => e)
      obtain ⟨p, rfl⟩ : ∃ p, i = p + 1 := ⟨i - 1, by omega⟩
      rw [Nat.add_sub_cancel] at h13
      exact ⟨_, _, .cr p h h13⟩

theorem get_calls (A : Option Addr) (c : Nat) (l : List Int) (p q : Nat) (w : World) (h : C8 w A l) (hc : l.length ≤ c) (hB : Bytes l) (hE : Ends l p q) :
    Calls Try.prog 40 #[.slice A l.length c] w fun e w' => ∃ u v, e = .returned (.tuple #[u, v]) ∧ Two w' l p q u v ∧ ∃ nd, w' = w.drewN nd := by
  cases hE with
  | none h0 => exact get_none A c l w h hc hB h0
  | lf i h0 h1 => exact get_lf A c l _ w h hc hB h0 h1
  | cr p h0 h1 => exact get_cr A c l _ w h hc hB h0 h1

set_option maxHeartbeats 800000 in
set_option maxRecDepth 100000 in
theorem zz_calls (A : Option Addr) (c : Nat) (l : List Int) (p q : Nat) (w : World) (h : C8 w A l) (hc : l.length ≤ c) (hB : Bytes l) (hE : Ends l p q) :
    Calls Try.prog 31 #[.slice A l.length c] w fun e w' => ∃ u v, e = .returned (.tuple #[u, v]) ∧ Two w' l p q u v ∧ ∃ nd, w' = w.drewN nd := by
  have H := Aside0.mk (fun W (h : C8 W A l) => get_calls A c l p q W h hc hB hE)
  have HR := Aside0.mk h
  clear h hB hE hc
  go_enter Try.func31, Try.ntmps31
  go_wp2_with (go_at_call 40; refine (H.out _ HR.out).mono ?_; rintro e' w' ⟨u, v, rfl, hT, hD⟩; have T1 := Aside0.mk hT; have D1 := Aside0.mk hD; clear hT hD)
  go_ret2
  exact ⟨_, _, rfl, T1.out, D1.out⟩

set_option maxHeartbeats 800000 in
set_option maxRecDepth 100000 in
theorem impl_calls (A : Option Addr) (c : Nat) (l : List Int) (p q : Nat) (w : World) (h : C8 w A l) (hc : l.length ≤ c) (hl : l.length ≤ 4096) (hB : Bytes l) (hE : Ends l p q) :
    Calls Try.prog 17 #[.slice A l.length c] w fun e w' => ∃ u v, e = .returned (.tuple #[u, v]) ∧ Two w' l p q u v ∧ Below w.heap.size w w' := by
  have H := Aside0.mk (fun W (h : C8 W A l) => zz_calls A c l p q W h hc hB hE)
  have HR := Aside0.mk h
  have HL : Aside0 ((l.take p).length ≤ 140737488355328 ∧ (l.drop q).length ≤ 140737488355328) := ⟨⟨by rw [List.length_take]; omega, by rw [List.length_drop]; omega⟩⟩
  clear h hB hE hc hl
  go_enter Try.func17, Try.ntmps17
  go_wp2_with (first | (go_at_call 31; refine (H.out _ HR.out).mono ?_; rintro e' w' ⟨u, v, rfl, ⟨A1, c1, A2, c2, rfl, rfl, hr1, hr2⟩, ⟨nd, rfl⟩⟩; have R1 := Aside0.mk hr1; have R2 := Aside0.mk hr2; have B0 := Aside0.mk (pw_below_drewN (Below.refl w.heap.size w) nd); clear hr1 hr2) | (go_at_call 27; with_reducible refine (own_calls R1.out ?hn HL.out.1).mono ?_; (case hn => simp); rintro e' w1 ⟨v1, rfl, hR, hB⟩; obtain ⟨A3, c3, e3, hc3, hr3⟩ := r8_reads hR; subst e3; have S1 := Aside0.mk hr3; have n1 := Aside0.mk (Kd.C_below R2.out hB); have n2 := Aside0.mk (below_step B0.out hB); clear R1 R2 B0; have R2 := n1; have B0 := n2; clear n1 n2 hR hB hc3 hr3) | (go_at_call 27; with_reducible refine (own_calls R2.out ?hn HL.out.2).mono ?_; (case hn => simp); rintro e' w2 ⟨v2, rfl, hR, hB⟩; obtain ⟨A4, c4, e4, hc4, hr4⟩ := r8_reads hR; subst e4; have S2 := Aside0.mk hr4; have n1 := Aside0.mk (Kd.C_below S1.out hB); have n2 := Aside0.mk (below_step B0.out hB); clear S1 B0; have S1 := n1; have B0 := n2; clear n1 n2 hR hB hc4 hr4))
  go_ret2
  exact ⟨_, _, rfl, ⟨A3, c3, A4, c4, by simp, by simp, S1.out, S2.out⟩, B0.out⟩

set_option maxHeartbeats 800000 in
set_option maxRecDepth 100000 in
theorem spec_none (A : Option Addr) (c : Nat) (l : List Int) (w : World) (h : C8 w A l) (hc : l.length ≤ c) (hB : Bytes l) (hn : Non l) :
    Calls Try.prog 18 #[.slice A l.length c] w fun e w' => ∃ u v, e = .returned (.tuple #[u, v]) ∧ Two w' l l.length l.length u v ∧ ∃ nd, w' = w.drewN nd := by
  have H := Aside0.mk h
  have HN := Aside0.mk hn
  have hmx : l.length ≤ 9223372036854775807 := Kd.C_max h
  clear h hB hn
  go_enter Try.func18, Try.ntmps18
  go_wp2
  go_loop [9] (fun i => ∃ k : Nat, k ≤ l.length ∧ i = .int .i64 (k : Int)) (fun i => l.length - (intOf i).toNat)
  case atStart => exact ⟨0, Nat.zero_le _, rfl⟩
  case round =>
    obtain ⟨k, hk, rfl⟩ := hrel
    by_cases hlt : k < l.length
    · obtain ⟨ad, rfl, hx⟩ := Kd.at_int H.out (k : Int) (by omega) (by omega)
      rw [Int.toNat_natCast] at hx
      have hne := HN.out k hlt
      have he : rd l (k : Int) = l.getD k 0 := by unfold rd; rw [Int.toNat_natCast]
      have d1 : (rd l (k : Int) == 10) = false := by rw [he]; simpa using hne
      have d2 : ¬ rd l (k : Int) = 10 := by rw [he]; exact hne
      clear hne he
      go_wp2
      go_round
      case rel => exact ⟨k + 1, hlt, by go_num⟩
      case measure => simp [intOf]; omega
    · go_wp2
      go_ret2
      refine ⟨_, _, rfl, ⟨A, c, none, 0, by simp, by simp, by simpa using H.out, ?_⟩, ⟨0, rfl⟩⟩
      rw [List.drop_length]
      exact ⟨rfl, by simp, fun hn => by simp at hn⟩

set_option maxHeartbeats 1600000 in
set_option maxRecDepth 100000 in
theorem spec_lf (A : Option Addr) (c : Nat) (l : List Int) (i : Nat) (w : World) (h : C8 w A l) (hc : l.length ≤ c) (hn : At l i) (h13 : 0 < i → l.getD (i - 1) 0 ≠ 13) :
    Calls Try.prog 18 #[.slice A l.length c] w fun e w' => ∃ u v, e = .returned (.tuple #[u, v]) ∧ Two w' l i (i + 1) u v ∧ ∃ nd, w' = w.drewN nd := by
  have H := Aside0.mk h
  have HN := Aside0.mk hn
  have H13 := Aside0.mk h13
  have hil := hn.lt
  have hmx : l.length ≤ 9223372036854775807 := Kd.C_max h
  obtain ⟨k1, r1⟩ := cut_max A c l i (by omega) hc
  obtain ⟨A2, c2, k2, r2⟩ := cut_hi A c l (i + 1) (by omega) hc
  rw [Int.natCast_add, Int.natCast_one] at k2
  have R1 := Aside0.mk r1
  have R2 := Aside0.mk r2
  clear h hn h13 r1 r2
  go_enter Try.func18, Try.ntmps18
  go_wp2
  go_loop [9] (fun v => ∃ k : Nat, k ≤ i ∧ v = .int .i64 (k : Int)) (fun v => l.length - (intOf v).toNat)
  case atStart => exact ⟨0, Nat.zero_le _, rfl⟩
  case round =>
    obtain ⟨k, hk, rfl⟩ := hrel
    obtain ⟨ad, rfl, hx⟩ := Kd.at_int H.out (k : Int) (by omega) (by omega)
    rw [Int.toNat_natCast] at hx
    have he : rd l (k : Int) = l.getD k 0 := by unfold rd; rw [Int.toNat_natCast]
    have hklt : k < l.length := by omega
    by_cases hki : k = i
    · subst hki
      rw [he, HN.out.is] at hx
      clear he
      rcases Nat.eq_zero_or_pos k with h0 | hp
      · subst h0
        simp only [Int.natCast_zero, Int.zero_add] at k1 k2
        rw [show ad.add 0 = ad by simp [Addr.add]] at hx
        go_wp2
        go_quiet (fail)
        go_wp2
        go_ret2
        exact ⟨_, _, rfl, ⟨some ad, 0, A2, c2, by simp [List.length_take] <;> omega, by simp [List.length_drop] <;> omega, Kd.C_drewN (R1.out _ H.out) _, Kd.C_drewN (R2.out _ H.out) _⟩, ⟨_, rfl⟩⟩
      · obtain ⟨p, rfl⟩ : ∃ p, k = p + 1 := ⟨k - 1, by omega⟩
        have hne := H13.out hp
        rw [Nat.add_sub_cancel] at hne
        simp only [Int.natCast_add, Int.natCast_one] at k1 k2
        obtain ⟨ad', e', hy⟩ := Kd.at_int H.out (p : Int) (by omega) (by omega)
        obtain rfl := Option.some.inj e'
        clear e'
        rw [Int.toNat_natCast] at hy
        have he : rd l (p : Int) = l.getD p 0 := by unfold rd; rw [Int.toNat_natCast]
        have d1 : (rd l (p : Int) == 13) = false := by rw [he]; simpa using hne
        have d2 : decide (rd l (p : Int) = 13) = false := by rw [he]; simpa using hne
        clear hne he
        rw [show ad.add (p + 1) = ⟨ad.block, ad.off + (p + 1), none⟩ by simp [Addr.add]] at hx
        go_wp2
        go_quiet (fail)
        go_wp2
        go_ret2
        exact ⟨_, _, rfl, ⟨some ad, p + 1, A2, c2, by simp [List.length_take] <;> omega, by simp [List.length_drop] <;> omega, Kd.C_drewN (R1.out _ H.out) _, Kd.C_drewN (R2.out _ H.out) _⟩, ⟨_, rfl⟩⟩
    · have hne := HN.out.no k (by omega)
      have d1 : (rd l (k : Int) == 10) = false := by rw [he]; simpa using hne
      have d2 : ¬ rd l (k : Int) = 10 := by rw [he]; exact hne
      have hk1 : k + 1 ≤ i := by omega
      clear hne he
      go_wp2
      go_round
      case rel => exact ⟨k + 1, hk1, by go_num⟩
      case measure => simp [intOf]; omega

set_option maxHeartbeats 1600000 in
set_option maxRecDepth 100000 in
theorem spec_cr (A : Option Addr) (c : Nat) (l : List Int) (p : Nat) (w : World) (h : C8 w A l) (hc : l.length ≤ c) (hn : At l (p + 1)) (h13 : l.getD p 0 = 13) :
    Calls Try.prog 18 #[.slice A l.length c] w fun e w' => ∃ u v, e = .returned (.tuple #[u, v]) ∧ Two w' l p (p + 2) u v ∧ ∃ nd, w' = w.drewN nd := by
  have H := Aside0.mk h
  have HN := Aside0.mk hn
  have hil := hn.lt
  have hmx : l.length ≤ 9223372036854775807 := Kd.C_max h
  obtain ⟨k1, r1⟩ := cut_max A c l p (by omega) hc
  obtain ⟨A2, c2, k2, r2⟩ := cut_hi A c l (p + 1 + 1) (by omega) hc
  rw [Int.natCast_add, Int.natCast_add, Int.natCast_one] at k2
  have R1 := Aside0.mk r1
  have R2 := Aside0.mk r2
  clear hn r1 r2
  obtain ⟨ad0, rfl, hy⟩ := Kd.at_int h (p : Int) (by omega) (by omega)
  rw [Int.toNat_natCast] at hy
  have he0 : rd l (p : Int) = 13 := by unfold rd; rw [Int.toNat_natCast]; exact h13
  rw [he0] at hy
  clear h he0 h13
  go_enter Try.func18, Try.ntmps18
  go_wp2
  go_loop [9] (fun v => ∃ k : Nat, k ≤ p + 1 ∧ v = .int .i64 (k : Int)) (fun v => l.length - (intOf v).toNat)
  case atStart => exact ⟨0, Nat.zero_le _, rfl⟩
  case round =>
    obtain ⟨k, hk, rfl⟩ := hrel
    obtain ⟨ad, e', hx⟩ := Kd.at_int H.out (k : Int) (by omega) (by omega)
    obtain rfl := Option.some.inj e'
    clear e'
    rw [Int.toNat_natCast] at hx
    have he : rd l (k : Int) = l.getD k 0 := by unfold rd; rw [Int.toNat_natCast]
    have hklt : k < l.length := by omega
    by_cases hki : k = p + 1
    · subst hki
      rw [he, HN.out.is] at hx
      rw [show ad0.add (p + 1) = ⟨ad0.block, ad0.off + (p + 1), none⟩ by simp [Addr.add]] at hx
      clear he
      go_wp2
      go_quiet (fail)
      go_wp2
      go_ret2
      exact ⟨_, _, rfl, ⟨some ad0, p, A2, c2, by simp [List.length_take] <;> omega, by simp [List.length_drop] <;> omega, Kd.C_drewN (R1.out _ H.out) _, Kd.C_drewN (R2.out _ H.out) _⟩, ⟨_, rfl⟩⟩
    · have hne := HN.out.no k (by omega)
      have d1 : (rd l (k : Int) == 10) = false := by rw [he]; simpa using hne
      have d2 : ¬ rd l (k : Int) = 10 := by rw [he]; exact hne
      have hk1 : k + 1 ≤ p + 1 := by omega
      clear hne he
      go_wp2
      go_round
      case rel => exact ⟨k + 1, hk1, by go_num⟩
      case measure => simp [intOf]; omega

theorem spec_calls (A : Option Addr) (c : Nat) (l : List Int) (p q : Nat) (w : World) (h : C8 w A l) (hc : l.length ≤ c) (hB : Bytes l) (hE : Ends l p q) :
    Calls Try.prog 18 #[.slice A l.length c] w fun e w' => ∃ u v, e = .returned (.tuple #[u, v]) ∧ Two w' l p q u v ∧ ∃ nd, w' = w.drewN nd := by
  cases hE with
  | none h0 => exact spec_none A c l w h hc hB h0
  | lf i h0 h1 => exact spec_lf A c l _ w h hc h0 h1
  | cr p h0 h1 => exact spec_cr A c l _ w h hc h0 h1

set_option maxHeartbeats 800000 in
set_option maxRecDepth 100000 in
theorem law_main (A : Option Addr) (c : Nat) (l : List Int) (w : World) (h : C8 w A l) (hc : l.length ≤ c) (hl : l.length ≤ 4096) (hB : Bytes l) :
    Calls Try.prog 5 #[.slice A l.length c] w fun e w' => e = .returned (.bool true) ∧ Below w.heap.size w w' := by
  obtain ⟨p, q, hE⟩ := ends_ex l
  have HI := Aside0.mk (impl_calls A c l p q w h hc hl hB hE)
  have HS := Aside0.mk (fun W (h : C8 W A l) => spec_calls A c l p q W h hc hB hE)
  have HR := Aside0.mk h
  have d1 : decide (2147483647 < (l.length : Int)) = false := decide_eq_false (by omega)
  have d2 : decide (4096 < (l.length : Int)) = false := decide_eq_false (by omega)
  have d1' : decide (2147483647 < l.length) = false := decide_eq_false (by omega)
  have d2' : decide (4096 < l.length) = false := decide_eq_false (by omega)
  clear h hc hB hE hl
  go_enter Try.func5, Try.ntmps5
  go_wp2_with (first | (go_at_call 17; refine HI.out.mono ?_; rintro e' w1 ⟨u, v, rfl, ⟨A1, c1, A2, c2, rfl, rfl, hr1, hr2⟩, hB⟩; have R1 := Aside0.mk hr1; have R2 := Aside0.mk hr2; have R3 := Aside0.mk (Kd.C_below HR.out hB); have B0 := Aside0.mk hB; clear hr1 hr2 hB) | (go_at_call 18; refine (HS.out _ R3.out).mono ?_; rintro e' w2 ⟨u, v, rfl, ⟨A3, c3, A4, c4, rfl, rfl, hr1, hr2⟩, ⟨nd, rfl⟩⟩; have S1 := Aside0.mk hr1; have S2 := Aside0.mk hr2; have n1 := Aside0.mk (Kd.C_drewN R1.out nd); have n2 := Aside0.mk (Kd.C_drewN R2.out nd); have n3 := Aside0.mk (pw_below_drewN B0.out nd); clear R1 R2 B0 hr1 hr2; have R1 := n1; have R2 := n2; have B0 := n3; clear n1 n2 n3) | (go_at_call 14; with_reducible refine (same_calls R1.out S1.out rfl ?hn ?hm).mono ?_; (case hn => simp); (case hm => simp); rintro e' w3 ⟨rfl, hB⟩; have n1 := Aside0.mk (Kd.C_below R2.out hB); have n2 := Aside0.mk (Kd.C_below S2.out hB); have n3 := Aside0.mk (below_step B0.out hB); clear R1 S1 R2 S2 B0; have R2 := n1; have S2 := n2; have B0 := n3; clear n1 n2 n3 hB) | (go_at_call 14; with_reducible refine (same_calls R2.out S2.out rfl ?hn ?hm).mono ?_; (case hn => simp); (case hm => simp); rintro e' w4 ⟨rfl, hB⟩; have n3 := Aside0.mk (below_step B0.out hB); clear B0; have B0 := n3; clear n3 hB))
  go_ret
  exact ⟨rfl, B0.out⟩

set_option maxHeartbeats 800000 in
set_option maxRecDepth 100000 in
theorem law_long (A : Option Addr) (c : Nat) (l : List Int) (w : World) (h : 4096 < l.length) :
    Calls Try.prog 5 #[.slice A l.length c] w fun e w' => e = .returned (.bool true) ∧ Below w.heap.size w w' := by
  have d2 : decide (4096 < (l.length : Int)) = true := decide_eq_true (by omega)
  have d2' : decide (4096 < l.length) = true := decide_eq_true h
  by_cases h1 : 2147483647 < l.length
  · have d1 : decide (2147483647 < (l.length : Int)) = true := decide_eq_true (by omega)
    have d1' : decide (2147483647 < l.length) = true := decide_eq_true h1
    clear h h1
    go_enter Try.func5, Try.ntmps5
    go_wp2
    go_ret
    exact ⟨rfl, Below.refl _ _⟩
  · have d1 : decide (2147483647 < (l.length : Int)) = false := decide_eq_false (by omega)
    have d1' : decide (2147483647 < l.length) = false := decide_eq_false h1
    clear h h1
    go_enter Try.func5, Try.ntmps5
    go_wp2
    go_ret
    exact ⟨rfl, Below.refl _ _⟩

theorem law (A : Option Addr) (c : Nat) (l : List Int) (w : World) (hr : C8 w A l) (hc : l.length ≤ c) (_hm : l.length ≤ maxLen) (hw : ∀ x ∈ l, (Lit.int .u8 x).wf = true) :
    Calls Try.prog 5 #[.slice A l.length c] w fun e w' => e = .returned (.bool true) ∧ Below w.heap.size w w' := by
  by_cases h : 4096 < l.length
  · exact law_long A c l w h
  · exact law_main A c l w hr hc (by omega) (bytes_of hw)
end Go.Proofs.Ytnjbgmobobffmab.Line
