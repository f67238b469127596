/- The numbers of hashes: the tables and the searches in them, walked. -/
import Derived.Test.YtchihobchpipfaaProg
import Derived.Test.YtchihobchpipfaaKit
import Derived.Test.YtchihobchpipfaaOct0
set_option linter.unusedVariables false
set_option linter.unusedSimpArgs false
namespace Go.Proofs.Ytchihobchpipfaa.Hash
open Go.RowKit Go.Proofs.YtchihobchpipfaaW.PrintWords Go.Proofs.YtchihobchpipfaaW.PrintLast Go.Proofs.YtchihobchpipfaaW.PrintMore Go.Proofs.Ytchihobchpipfaa.Kit

/-- The statement's table. -/
def T : List (Int × Int) := [(2, 3), (8, 5), (9, 6), (10, 7), (11, 4), (12, 11), (14, 13)]

set_option maxHeartbeats 800000 in
set_option maxRecDepth 100000 in
theorem hashes_calls (w : World) :
    Calls Try.prog 31 #[] w fun e w' => e = .returned (.slice (some ⟨w.heap.size, 0, none⟩) 7 7) ∧ Below w.heap.size w w' ∧ ∀ k, k < 7 → w'.cell? ⟨w.heap.size, k * 2, none⟩ = some (.int .i64 (T.getD k (0, 0)).1) ∧ w'.cell? ⟨w.heap.size, k * 2 + 1, none⟩ = some (.int .i64 (T.getD k (0, 0)).2) := by
  go_enter Try.func31, Try.ntmps31
  go_wp2
  go_ret
  refine ⟨rfl, (Below.refl _ w).alloc (Nat.le_refl _) _, fun k hk => ?_⟩
  have hh : k = 0 ∨ k = 1 ∨ k = 2 ∨ k = 3 ∨ k = 4 ∨ k = 5 ∨ k = 6 := by omega
  rcases hh with rfl | rfl | rfl | rfl | rfl | rfl | rfl <;> simp [go_sem, T]

/-- The program's table. -/
def U : List (Int × Int) := [(8, 5), (9, 6), (10, 7), (11, 4), (12, 11), (14, 13)]

set_option maxHeartbeats 1600000 in
set_option maxRecDepth 100000 in
theorem byid_calls (w : World) :
    Calls Try.prog 46 #[] w fun e w' => e = .returned (.slice (some ⟨w.heap.size, 0, none⟩) 6 6) ∧ Below w.heap.size w w' ∧ ∀ k, k < 6 → w'.cell? ⟨w.heap.size, k * 2, none⟩ = some (.int .u8 (U.getD k (0, 0)).1) ∧ w'.cell? ⟨w.heap.size, k * 2 + 1, none⟩ = some (.int .u64 (U.getD k (0, 0)).2) := by
  go_enter Try.func46, Try.ntmps46
  go_wp2
  go_ret
  refine ⟨rfl, (Below.refl _ w).alloc (Nat.le_refl _) _, fun k hk => ?_⟩
  have hh : k = 0 ∨ k = 1 ∨ k = 2 ∨ k = 3 ∨ k = 4 ∨ k = 5 := by omega
  rcases hh with rfl | rfl | rfl | rfl | rfl | rfl <;> simp [go_sem, U]

set_option maxHeartbeats 1600000 in
set_option maxRecDepth 100000 in
theorem sof_at (id : Int) (s : Bool) (m : Nat) (r : Int) (w : World) (hr : (T.getD m (0, 0)).2 = r) (hm : m < 7) (h1 : (T.getD m (0, 0)).1 = id) (h2 : ¬ (T.getD m (0, 0)).1 = 2 ∨ s = true) (h3 : ∀ j, j < m → ¬ (T.getD j (0, 0)).1 = id) :
    Calls Try.prog 16 #[.int .i64 id, .bool s] w fun e w' => e = .returned (.tuple #[.int .i64 r, .bool true]) ∧ Below w.heap.size w w' := by
  have H1 := Aside0.mk h1
  have HR := Aside0.mk hr
  have H3 := Aside0.mk h3
  have H2 : Aside0 (((T.getD m (0, 0)).1 == 2) = false ∨ s = true) := ⟨h2.elim (fun h => .inl (by simpa using h)) .inr⟩
  clear h1 h2 h3 hr
  go_enter Try.func16, Try.ntmps16
  go_wp2_with (go_at_call 31; refine (hashes_calls _).mono ?_; rintro e w1 ⟨rfl, hB, hC⟩; have B1 := Aside0.mk hB; have C1 := Aside0.mk hC; clear hB hC)
  have G1 : Aside0 (w.heap.size < w1.heap.size) := ⟨World.block_lt_of_cell? w1 _ (C1.out 0 (by decide)).1⟩
  go_loopw [10] (fun i wr => ∃ k : Nat, k ≤ m ∧ i = .int .i64 (k : Int) ∧ Aside0 (Below w1.heap.size w1 wr)) (fun i _ => 7 - (intOf i).toNat)
  case atStart => exact ⟨0, Nat.zero_le _, rfl, ⟨Below.refl _ _⟩⟩
  case round =>
    obtain ⟨k, hk, rfl, HB⟩ := hrel
    have hk7 : k < 7 := by omega
    have hx := (HB.out.cell (p := ⟨w.heap.size, k * 2, none⟩) G1.out).trans (C1.out k hk7).1
    have hy := (HB.out.cell (p := ⟨w.heap.size, k * 2 + 1, none⟩) G1.out).trans (C1.out k hk7).2
    obtain ⟨x, hxx⟩ : ∃ x, (T.getD k (0, 0)).1 = x := ⟨_, rfl⟩
    obtain ⟨y, hyy⟩ : ∃ y, (T.getD k (0, 0)).2 = y := ⟨_, rfl⟩
    rw [hxx] at hx
    rw [hyy] at hy
    have HXX := Aside0.mk hxx
    have HYY := Aside0.mk hyy
    by_cases hkm : k = m
    · subst hkm
      have e1 := H1.out
      have e2 := H2.out
      rw [hxx] at e2
      rw [hxx] at e1
      subst e1
      clear hxx hyy
      obtain rfl : y = r := HYY.out.symm.trans HR.out
      rcases e2 with e2 | e2
      · have e3 : ¬ x = 2 := by simpa using e2
        go_wp2
        go_ret2
        exact ⟨rfl, (B1.out.trans (Below.mono HB.out (Nat.le_of_lt G1.out))).alloc (by have := G1.out; have := HB.out.size; omega) _⟩
      · subst e2
        go_wp2
        all_goals go_ret2
        all_goals exact ⟨rfl, (B1.out.trans (Below.mono HB.out (Nat.le_of_lt G1.out))).alloc (by have := G1.out; have := HB.out.size; omega) _⟩
    · have hne := H3.out k (by omega)
      rw [hxx] at hne
      have d1 : (x == id) = false := by simpa using hne
      clear hxx hyy
      go_wp2
      go_roundw
      case rel => exact ⟨k + 1, by omega, by go_num, ⟨HB.out.alloc HB.out.size _⟩⟩
      case measure => simp [intOf]; omega

set_option maxHeartbeats 1600000 in
set_option maxRecDepth 100000 in
theorem sid_at (id : Int) (s : Bool) (m : Nat) (r : Int) (w : World) (hr : (T.getD m (0, 0)).1 = r) (hm : m < 7) (h1 : (T.getD m (0, 0)).2 = id) (h2 : ¬ (T.getD m (0, 0)).1 = 2 ∨ s = true) (h3 : ∀ j, j < m → ¬ (T.getD j (0, 0)).2 = id) :
    Calls Try.prog 18 #[.int .i64 id, .bool s] w fun e w' => e = .returned (.tuple #[.int .i64 r, .bool true]) ∧ Below w.heap.size w w' := by
  have H1 := Aside0.mk h1
  have HR := Aside0.mk hr
  have H3 := Aside0.mk h3
  have H2 : Aside0 (((T.getD m (0, 0)).1 == 2) = false ∨ s = true) := ⟨h2.elim (fun h => .inl (by simpa using h)) .inr⟩
  clear h1 h2 h3 hr
  go_enter Try.func18, Try.ntmps18
  go_wp2_with (go_at_call 31; refine (hashes_calls _).mono ?_; rintro e w1 ⟨rfl, hB, hC⟩; have B1 := Aside0.mk hB; have C1 := Aside0.mk hC; clear hB hC)
  have G1 : Aside0 (w.heap.size < w1.heap.size) := ⟨World.block_lt_of_cell? w1 _ (C1.out 0 (by decide)).1⟩
  go_loopw [10] (fun i wr => ∃ k : Nat, k ≤ m ∧ i = .int .i64 (k : Int) ∧ Aside0 (Below w1.heap.size w1 wr)) (fun i _ => 7 - (intOf i).toNat)
  case atStart => exact ⟨0, Nat.zero_le _, rfl, ⟨Below.refl _ _⟩⟩
  case round =>
    obtain ⟨k, hk, rfl, HB⟩ := hrel
    have hk7 : k < 7 := by omega
    have hx := (HB.out.cell (p := ⟨w.heap.size, k * 2, none⟩) G1.out).trans (C1.out k hk7).1
    have hy := (HB.out.cell (p := ⟨w.heap.size, k * 2 + 1, none⟩) G1.out).trans (C1.out k hk7).2
    obtain ⟨x, hxx⟩ : ∃ x, (T.getD k (0, 0)).1 = x := ⟨_, rfl⟩
    obtain ⟨y, hyy⟩ : ∃ y, (T.getD k (0, 0)).2 = y := ⟨_, rfl⟩
    rw [hxx] at hx
    rw [hyy] at hy
    have HXX := Aside0.mk hxx
    have HYY := Aside0.mk hyy
    by_cases hkm : k = m
    · subst hkm
      have e1 := H1.out
      have e2 := H2.out
      rw [hxx] at e2
      rw [hyy] at e1
      subst e1
      clear hxx hyy
      obtain rfl : x = r := HXX.out.symm.trans HR.out
      rcases e2 with e2 | e2
      · have e3 : ¬ x = 2 := by simpa using e2
        go_wp2
        go_ret2
        exact ⟨rfl, (B1.out.trans (Below.mono HB.out (Nat.le_of_lt G1.out))).alloc (by have := G1.out; have := HB.out.size; omega) _⟩
      · subst e2
        go_wp2
        all_goals go_ret2
        all_goals exact ⟨rfl, (B1.out.trans (Below.mono HB.out (Nat.le_of_lt G1.out))).alloc (by have := G1.out; have := HB.out.size; omega) _⟩
    · have hne := H3.out k (by omega)
      rw [hyy] at hne
      have d1 : (y == id) = false := by simpa using hne
      clear hxx hyy
      go_wp2
      go_roundw
      case rel => exact ⟨k + 1, by omega, by go_num, ⟨HB.out.alloc HB.out.size _⟩⟩
      case measure => simp [intOf]; omega

end Go.Proofs.Ytchihobchpipfaa.Hash
