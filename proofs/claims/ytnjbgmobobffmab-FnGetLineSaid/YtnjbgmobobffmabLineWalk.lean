/- The law FnGetLine, walked. -/
import Derived.Test.YtnjbgmobobffmabLine
set_option linter.unusedVariables false
set_option linter.unusedSimpArgs false
namespace Go.Proofs.Ytnjbgmobobffmab.Line
open Go.RowKit Go.Proofs.YtnjbgmobobffmabW.PrintWords Go.Proofs.YtnjbgmobobffmabW.PrintMore Go.Proofs.Ytnjbgmobobffmab.Kit

/-- Two slices: the first p bytes, and the bytes from q on. -/
def Two (w : World) (l : List Int) (p q : Nat) (u v : Value) : Prop :=
  ∃ A1 c1 A2 c2, u = .slice A1 (l.take p).length c1 ∧ v = .slice A2 (l.drop q).length c2 ∧ C8 w A1 (l.take p) ∧ C8 w A2 (l.drop q)

theorem cut_lo (A : Option Addr) (c : Nat) (l : List Int) (p : Nat) (hp : p ≤ l.length) (hc : l.length ≤ c) :
    ∃ A1 c1, (∀ W : World, (Instr.slice 25 (.slice A l.length c) (some (.int .i64 0)) (some (.int .i64 (p : Int))) none).run Try.prog W = .ok (.slice A1 (l.take p).length c1) W) ∧ ∀ w, C8 w A l → C8 w A1 (l.take p) := by
  obtain ⟨i0, hi0, _, hsz, _⟩ := info_parts infoB
  obtain ⟨A', h1, h2, h3⟩ := print_mid_of (P := Try.prog) (Value.int .u8) (0 : Int) 25 5 .i64 .i64 Try.underlying25 hi0 hsz A c l 0 (p : Int) (by omega) (by omega) (by omega) hc
  simp only [Int.toNat_natCast, Int.toNat_zero, List.drop_zero, Nat.sub_zero] at h1 h2 h3
  exact ⟨A', c, h1, fun w h => Kd.C_of_reads (h1 := fun _ => rfl) (h2 w (Kd.reads_of_C h))⟩
theorem cut_hi (A : Option Addr) (c : Nat) (l : List Int) (q : Nat) (hq : q ≤ l.length) (hc : l.length ≤ c) :
    ∃ A2 c2, (∀ W : World, (Instr.slice 25 (.slice A l.length c) (some (.int .i64 (q : Int))) none none).run Try.prog W = .ok (.slice A2 (l.drop q).length c2) W) ∧ ∀ w, C8 w A l → C8 w A2 (l.drop q) := by
  obtain ⟨i0, hi0, _, hsz, _⟩ := info_parts infoB
  obtain ⟨A', h1, h2, h3⟩ := print_drop_of (P := Try.prog) (Value.int .u8) (0 : Int) 25 5 .i64 Try.underlying25 hi0 hsz A c l (q : Int) (by omega) (by omega) hc
  simp only [Int.toNat_natCast] at h1 h2 h3
  exact ⟨A', _, h1, fun w h => Kd.C_of_reads (h1 := fun _ => rfl) (h2 w (Kd.reads_of_C h))⟩
theorem cut_max (A : Option Addr) (c : Nat) (l : List Int) (p : Nat) (hp : p ≤ l.length) (hc : l.length ≤ c) :
    (∀ W : World, (Instr.slice 25 (.slice A l.length c) none (some (.int .i64 (p : Int))) (some (.int .i64 (p : Int)))).run Try.prog W = .ok (.slice A (l.take p).length p) W) ∧ ∀ w, C8 w A l → C8 w A (l.take p) := by
  obtain ⟨i0, hi0, _, hsz, _⟩ := info_parts infoB
  obtain ⟨_, h2, h3⟩ := print_take_of (P := Try.prog) (Value.int .u8) (0 : Int) 25 5 .i64 Try.underlying25 hi0 hsz A c l (p : Int) (by omega) (by omega) hc
  simp only [Int.toNat_natCast] at h2 h3
  refine ⟨fun W => ?_, fun w h => Kd.C_of_reads (h1 := fun _ => rfl) (h2 w (Kd.reads_of_C h))⟩
  have hel : Try.prog.elem 25 = 5 := by simp [Program.elem, Try.underlying25]
  have hu : Try.prog.underlying 25 = some (.slice (Try.prog.elem 25)) := by rw [hel]; exact Try.underlying25
  have ha : (A.map fun x => x.add 0) = A := by cases A <;> simp [Addr.add]
  have hl : (l.take p).length = p := by rw [List.length_take]; omega
  rw [run_slice_hm W 25 A l.length c hu .i64 .i64 (p : Int) (p : Int) (by omega) (by omega) (by omega), hel, hl]
  simp [sizeOf, typeInfo, hi0, hsz, sliced, Result.andThen, ha]

set_option maxHeartbeats 800000 in
set_option maxRecDepth 100000 in
theorem get_none (A : Option Addr) (c : Nat) (l : List Int) (w : World) (h : C8 w A l) (hc : l.length ≤ c) (hB : Bytes l) (hn : Non l) :
    Calls Try.prog 40 #[.slice A l.length c] w fun e w' => ∃ u v, e = .returned (.tuple #[u, v]) ∧ Two w' l l.length l.length u v ∧ ∃ nd, w' = w.drewN nd := by
  have H := Aside0.mk h
  have HI := Aside0.mk (ix_none l hB hn)
  obtain ⟨A1, c1, k1, r1⟩ := cut_lo A c l l.length (Nat.le_refl _) hc
  obtain ⟨A2, c2, k2, r2⟩ := cut_hi A c l l.length (Nat.le_refl _) hc
  have R1 := Aside0.mk r1
  have R2 := Aside0.mk r2
  clear h hB hn r1 r2
  go_enter Try.func40, Try.ntmps40
  go_wp2_with (go_at_call 45; refine (idx_calls A c l _ H.out).mono ?_; rintro e' w' ⟨rfl, rfl⟩; rw [HI.out])
  go_quiet (fail)
  go_wp2
  go_ret2
  exact ⟨_, _, rfl, ⟨A1, c1, A2, c2, by simp [List.length_take] <;> omega, by simp [List.length_drop] <;> omega, Kd.C_drewN (R1.out _ H.out) _, Kd.C_drewN (R2.out _ H.out) _⟩, ⟨_, rfl⟩⟩

set_option maxHeartbeats 800000 in
set_option maxRecDepth 100000 in
theorem get_lf (A : Option Addr) (c : Nat) (l : List Int) (i : Nat) (w : World) (h : C8 w A l) (hc : l.length ≤ c) (hB : Bytes l) (hn : At l i) (h13 : 0 < i → l.getD (i - 1) 0 ≠ 13) :
    Calls Try.prog 40 #[.slice A l.length c] w fun e w' => ∃ u v, e = .returned (.tuple #[u, v]) ∧ Two w' l i (i + 1) u v ∧ ∃ nd, w' = w.drewN nd := by
  have hil := hn.lt
  have hmx : l.length ≤ 9223372036854775807 := Kd.C_max h
  have H := Aside0.mk h
  have HI := Aside0.mk (ix_some l hB i hn)
  obtain ⟨A1, c1, k1, r1⟩ := cut_lo A c l i (by omega) hc
  obtain ⟨A2, c2, k2, r2⟩ := cut_hi A c l (i + 1) (by omega) hc
  rw [Int.natCast_add, Int.natCast_one] at k2
  have R1 := Aside0.mk r1
  have R2 := Aside0.mk r2
  clear hB hn r1 r2
  rcases Nat.eq_zero_or_pos i with h0 | hp
  · subst h0
    simp only [Int.natCast_zero, Int.zero_add] at k1 k2
    clear h h13
    go_enter Try.func40, Try.ntmps40
    go_wp2_with (go_at_call 45; refine (idx_calls A c l _ H.out).mono ?_; rintro e' w' ⟨rfl, rfl⟩; rw [HI.out])
    go_quiet (fail)
    go_wp2
    go_ret2
    exact ⟨_, _, rfl, ⟨A1, c1, A2, c2, by simp [List.length_take] <;> omega, by simp [List.length_drop] <;> omega, Kd.C_drewN (R1.out _ H.out) _, Kd.C_drewN (R2.out _ H.out) _⟩, ⟨_, rfl⟩⟩
  · obtain ⟨p, rfl⟩ : ∃ p, i = p + 1 := ⟨i - 1, by omega⟩
    rw [Nat.add_sub_cancel] at h13
    simp only [Int.natCast_add, Int.natCast_one] at k1 k2
    obtain ⟨ad, rfl, hx⟩ := Kd.at_int h (p : Int) (by omega) (by omega)
    rw [Int.toNat_natCast] at hx
    have hne := h13 hp
    have he : rd l (p : Int) = l.getD p 0 := by unfold rd; rw [Int.toNat_natCast]
    have d1 : (rd l (p : Int) == 13) = false := by rw [he]; simpa using hne
    have d2 : decide (rd l (p : Int) = 13) = false := by rw [he]; simpa using hne
    clear h h13 hne he
    go_enter Try.func40, Try.ntmps40
    go_wp2_with (go_at_call 45; refine (idx_calls (some ad) c l _ H.out).mono ?_; rintro e' w' ⟨rfl, rfl⟩; rw [HI.out])
    go_quiet (fail)
    go_wp2
    go_ret2
    exact ⟨_, _, rfl, ⟨A1, c1, A2, c2, by simp [List.length_take] <;> omega, by simp [List.length_drop] <;> omega, Kd.C_drewN (R1.out _ H.out) _, Kd.C_drewN (R2.out _ H.out) _⟩, ⟨_, rfl⟩⟩

set_option maxHeartbeats 800000 in
set_option maxRecDepth 100000 in
theorem get_cr (A : Option Addr) (c : Nat) (l : List Int) (p : Nat) (w : World) (h : C8 w A l) (hc : l.length ≤ c) (hB : Bytes l) (hn : At l (p + 1)) (h13 : l.getD p 0 = 13) :
    Calls Try.prog 40 #[.slice A l.length c] w fun e w' => ∃ u v, e = .returned (.tuple #[u, v]) ∧ Two w' l p (p + 2) u v ∧ ∃ nd, w' = w.drewN nd := by
  have hil := hn.lt
  have hmx : l.length ≤ 9223372036854775807 := Kd.C_max h
  have H := Aside0.mk h
  have HI := Aside0.mk (ix_some l hB (p + 1) hn)
  obtain ⟨A1, c1, k1, r1⟩ := cut_lo A c l p (by omega) hc
  obtain ⟨A2, c2, k2, r2⟩ := cut_hi A c l (p + 1 + 1) (by omega) hc
  rw [Int.natCast_add, Int.natCast_add, Int.natCast_one] at k2
  have R1 := Aside0.mk r1
  have R2 := Aside0.mk r2
  clear hB hn r1 r2
  obtain ⟨ad, rfl, hx⟩ := Kd.at_int h (p : Int) (by omega) (by omega)
  rw [Int.toNat_natCast] at hx
  have he : rd l (p : Int) = 13 := by unfold rd; rw [Int.toNat_natCast]; exact h13
  rw [he] at hx
  clear h h13 he
  go_enter Try.func40, Try.ntmps40
  go_wp2_with (go_at_call 45; refine (idx_calls (some ad) c l _ H.out).mono ?_; rintro e' w' ⟨rfl, rfl⟩; rw [HI.out])
  go_quiet (fail)
  go_wp2
  go_ret2
  exact ⟨_, _, rfl, ⟨A1, c1, A2, c2, by simp [List.length_take] <;> omega, by simp [List.length_drop] <;> omega, Kd.C_drewN (R1.out _ H.out) _, Kd.C_drewN (R2.out _ H.out) _⟩, ⟨_, rfl⟩⟩
end Go.Proofs.Ytnjbgmobobffmab.Line
