/- The numbers of hashes: searches that find nothing, and the program's own searches, walked. -/
import Derived.Test.YtchihobchpipfaaHash
set_option linter.unusedVariables false
set_option linter.unusedSimpArgs false
namespace Go.Proofs.Ytchihobchpipfaa.Hash
open Go.RowKit Go.Proofs.YtchihobchpipfaaW.PrintWords Go.Proofs.YtchihobchpipfaaW.PrintLast Go.Proofs.YtchihobchpipfaaW.PrintMore Go.Proofs.Ytchihobchpipfaa.Kit

set_option maxHeartbeats 1600000 in
set_option maxRecDepth 100000 in
theorem sof_none (id : Int) (s : Bool) (w : World) (h : ∀ j, j < 7 → ¬ (T.getD j (0, 0)).1 = id ∨ ((T.getD j (0, 0)).1 = 2 ∧ s = false)) :
    Calls Try.prog 16 #[.int .i64 id, .bool s] w fun e w' => e = .returned (.tuple #[.int .i64 0, .bool false]) ∧ Below w.heap.size w w' := by
  have H := Aside0.mk h
  clear h
  go_enter Try.func16, Try.ntmps16
  go_wp2_with (go_at_call 31; refine (hashes_calls _).mono ?_; rintro e w1 ⟨rfl, hB, hC⟩; have B1 := Aside0.mk hB; have C1 := Aside0.mk hC; clear hB hC)
  have G1 : Aside0 (w.heap.size < w1.heap.size) := ⟨World.block_lt_of_cell? w1 _ (C1.out 0 (by decide)).1⟩
  go_loopw [10] (fun i wr => ∃ k : Nat, k ≤ 7 ∧ i = .int .i64 (k : Int) ∧ Aside0 (Below w1.heap.size w1 wr)) (fun i _ => 7 - (intOf i).toNat)
  case atStart => exact ⟨0, Nat.zero_le _, rfl, ⟨Below.refl _ _⟩⟩
  case round =>
    obtain ⟨k, hk, rfl, HB⟩ := hrel
    by_cases hk7 : k < 7
    · have hx := (HB.out.cell (p := ⟨w.heap.size, k * 2, none⟩) G1.out).trans (C1.out k hk7).1
      have hy := (HB.out.cell (p := ⟨w.heap.size, k * 2 + 1, none⟩) G1.out).trans (C1.out k hk7).2
      have hh := H.out k hk7
      generalize (T.getD k (0, 0)).1 = x at hx hh
      generalize (T.getD k (0, 0)).2 = y at hy hh
      rcases hh with hh | ⟨rfl, rfl⟩
      · have d1 : (x == id) = false := by simpa using hh
        clear H
        go_wp2
        go_roundw
        case rel => exact ⟨k + 1, by omega, by go_num, ⟨HB.out.alloc HB.out.size _⟩⟩
        case measure => simp [intOf]; omega
      · clear H
        rcases Classical.em (2 = id) with e | e
        · subst e
          go_wp2
          go_roundw
          case rel => exact ⟨k + 1, by omega, by go_num, ⟨HB.out.alloc HB.out.size _⟩⟩
          case measure => simp [intOf]; omega
        · have d1 : ((2 : Int) == id) = false := by simpa using e
          go_wp2
          go_roundw
          case rel => exact ⟨k + 1, by omega, by go_num, ⟨HB.out.alloc HB.out.size _⟩⟩
          case measure => simp [intOf]; omega
    · go_wp2
      go_ret2
      exact ⟨rfl, B1.out.trans (Below.mono HB.out (Nat.le_of_lt G1.out))⟩

set_option maxHeartbeats 1600000 in
set_option maxRecDepth 100000 in
theorem sid_none (id : Int) (s : Bool) (w : World) (h : ∀ j, j < 7 → ¬ (T.getD j (0, 0)).2 = id ∨ ((T.getD j (0, 0)).1 = 2 ∧ s = false)) :
    Calls Try.prog 18 #[.int .i64 id, .bool s] w fun e w' => e = .returned (.tuple #[.int .i64 0, .bool false]) ∧ Below w.heap.size w w' := by
  have H := Aside0.mk h
  clear h
  go_enter Try.func18, Try.ntmps18
  go_wp2_with (go_at_call 31; refine (hashes_calls _).mono ?_; rintro e w1 ⟨rfl, hB, hC⟩; have B1 := Aside0.mk hB; have C1 := Aside0.mk hC; clear hB hC)
  have G1 : Aside0 (w.heap.size < w1.heap.size) := ⟨World.block_lt_of_cell? w1 _ (C1.out 0 (by decide)).1⟩
  go_loopw [10] (fun i wr => ∃ k : Nat, k ≤ 7 ∧ i = .int .i64 (k : Int) ∧ Aside0 (Below w1.heap.size w1 wr)) (fun i _ => 7 - (intOf i).toNat)
  case atStart => exact ⟨0, Nat.zero_le _, rfl, ⟨Below.refl _ _⟩⟩
  case round =>
    obtain ⟨k, hk, rfl, HB⟩ := hrel
    by_cases hk7 : k < 7
    · have hx := (HB.out.cell (p := ⟨w.heap.size, k * 2, none⟩) G1.out).trans (C1.out k hk7).1
      have hy := (HB.out.cell (p := ⟨w.heap.size, k * 2 + 1, none⟩) G1.out).trans (C1.out k hk7).2
      have hh := H.out k hk7
      generalize (T.getD k (0, 0)).1 = x at hx hh
      generalize (T.getD k (0, 0)).2 = y at hy hh
      rcases hh with hh | ⟨rfl, rfl⟩
      · have d1 : (y == id) = false := by simpa using hh
        clear H
        go_wp2
        go_roundw
        case rel => exact ⟨k + 1, by omega, by go_num, ⟨HB.out.alloc HB.out.size _⟩⟩
        case measure => simp [intOf]; omega
      · clear H
        rcases Classical.em (y = id) with e | e
        · subst e
          go_wp2
          go_roundw
          case rel => exact ⟨k + 1, by omega, by go_num, ⟨HB.out.alloc HB.out.size _⟩⟩
          case measure => simp [intOf]; omega
        · have d1 : (y == id) = false := by simpa using e
          go_wp2
          go_roundw
          case rel => exact ⟨k + 1, by omega, by go_num, ⟨HB.out.alloc HB.out.size _⟩⟩
          case measure => simp [intOf]; omega
    · go_wp2
      go_ret2
      exact ⟨rfl, B1.out.trans (Below.mono HB.out (Nat.le_of_lt G1.out))⟩

set_option maxHeartbeats 1600000 in
set_option maxRecDepth 100000 in
theorem io_at (id : Int) (m : Nat) (r : Int) (w : World) (hr : (U.getD m (0, 0)).2 = r) (hm : m < 6) (h1 : (U.getD m (0, 0)).1 = id) (h3 : ∀ j, j < m → ¬ (U.getD j (0, 0)).1 = id) :
    Calls Try.prog 30 #[.int .u8 id] w fun e w' => e = .returned (.tuple #[.int .u64 r, .bool true]) ∧ Below w.heap.size w w' := by
  have H1 := Aside0.mk h1
  have HR := Aside0.mk hr
  have H3 := Aside0.mk h3
  clear h1 h3 hr
  go_enter Try.func30, Try.ntmps30
  go_wp2_with (go_at_call 46; refine (byid_calls _).mono ?_; rintro e w1 ⟨rfl, hB, hC⟩; have B1 := Aside0.mk hB; have C1 := Aside0.mk hC; clear hB hC)
  have G1 : Aside0 (w.heap.size < w1.heap.size) := ⟨World.block_lt_of_cell? w1 _ (C1.out 0 (by decide)).1⟩
  go_loopw [8] (fun i wr => ∃ k : Nat, k ≤ m ∧ i = .int .i64 (k : Int) ∧ Aside0 (Below w1.heap.size w1 wr)) (fun i _ => 7 - (intOf i).toNat)
  case atStart => exact ⟨0, Nat.zero_le _, rfl, ⟨Below.refl _ _⟩⟩
  case round =>
    obtain ⟨k, hk, rfl, HB⟩ := hrel
    have hk7 : k < 6 := by omega
    have hx := (HB.out.cell (p := ⟨w.heap.size, k * 2, none⟩) G1.out).trans (C1.out k hk7).1
    have hy := (HB.out.cell (p := ⟨w.heap.size, k * 2 + 1, none⟩) G1.out).trans (C1.out k hk7).2
    obtain ⟨x, hxx⟩ : ∃ x, (U.getD k (0, 0)).1 = x := ⟨_, rfl⟩
    obtain ⟨y, hyy⟩ : ∃ y, (U.getD k (0, 0)).2 = y := ⟨_, rfl⟩
    rw [hxx] at hx
    rw [hyy] at hy
    have HXX := Aside0.mk hxx
    have HYY := Aside0.mk hyy
    by_cases hkm : k = m
    · subst hkm
      have e1 := H1.out
      rw [hxx] at e1
      subst e1
      clear hxx hyy
      obtain rfl : y = r := HYY.out.symm.trans HR.out
      go_wp2
      go_ret2
      exact ⟨rfl, by
        have b0 := B1.out.trans (Below.mono HB.out (Nat.le_of_lt G1.out))
        have g0 := HB.out.size
        have g1 := G1.out
        repeat (first | exact b0 | refine Below.alloc ?_ (by first | omega | (simp [go_sem]; omega) | (simp [go_sem]; done)) _)⟩
    · have hne := H3.out k (by omega)
      rw [hxx] at hne
      have d1 : (x == id) = false := by simpa using hne
      clear hxx hyy
      go_wp2
      go_roundw
      case rel => exact ⟨k + 1, by omega, by go_num, ⟨by
        have g0 := HB.out.size
        repeat (first | exact HB.out | refine Below.alloc ?_ (by first | omega | (simp [go_sem]; omega) | (simp [go_sem]; done)) _)⟩⟩
      case measure => simp [intOf]; omega

set_option maxHeartbeats 1600000 in
set_option maxRecDepth 100000 in
theorem io_none (id : Int) (w : World) (h : ∀ j, j < 6 → ¬ (U.getD j (0, 0)).1 = id)  :
    Calls Try.prog 30 #[.int .u8 id] w fun e w' => e = .returned (.tuple #[.int .u64 0, .bool false]) ∧ Below w.heap.size w w' := by
  have H := Aside0.mk h
  clear h
  go_enter Try.func30, Try.ntmps30
  go_wp2_with (go_at_call 46; refine (byid_calls _).mono ?_; rintro e w1 ⟨rfl, hB, hC⟩; have B1 := Aside0.mk hB; have C1 := Aside0.mk hC; clear hB hC)
  have G1 : Aside0 (w.heap.size < w1.heap.size) := ⟨World.block_lt_of_cell? w1 _ (C1.out 0 (by decide)).1⟩
  go_loopw [8] (fun i wr => ∃ k : Nat, k ≤ 6 ∧ i = .int .i64 (k : Int) ∧ Aside0 (Below w1.heap.size w1 wr)) (fun i _ => 7 - (intOf i).toNat)
  case atStart => exact ⟨0, Nat.zero_le _, rfl, ⟨Below.refl _ _⟩⟩
  case round =>
    obtain ⟨k, hk, rfl, HB⟩ := hrel
    by_cases hk7 : k < 6
    · have hx := (HB.out.cell (p := ⟨w.heap.size, k * 2, none⟩) G1.out).trans (C1.out k hk7).1
      have hy := (HB.out.cell (p := ⟨w.heap.size, k * 2 + 1, none⟩) G1.out).trans (C1.out k hk7).2
      have hh := H.out k hk7
      generalize (U.getD k (0, 0)).1 = x at hx hh
      generalize (U.getD k (0, 0)).2 = y at hy hh
      have d1 : (x == id) = false := by simpa using hh
      go_wp2
      go_roundw
      case rel => exact ⟨k + 1, by omega, by go_num, ⟨by
        have g0 := HB.out.size
        repeat (first | exact HB.out | refine Below.alloc ?_ (by first | omega | (simp [go_sem]; omega) | (simp [go_sem]; done)) _)⟩⟩
      case measure => simp [intOf]; omega
    · go_wp2
      go_ret2
      exact ⟨rfl, B1.out.trans (Below.mono HB.out (Nat.le_of_lt G1.out))⟩

set_option maxHeartbeats 1600000 in
set_option maxRecDepth 100000 in
theorem ios_at (id : Int) (m : Nat) (r : Int) (w : World) (hr : (U.getD m (0, 0)).2 = r) (hm : m < 6) (h1 : (U.getD m (0, 0)).1 = id) (h3 : ∀ j, j < m → ¬ (U.getD j (0, 0)).1 = id) :
    Calls Try.prog 29 #[.int .u8 id] w fun e w' => e = .returned (.tuple #[.int .u64 r, .bool true]) ∧ Below w.heap.size w w' := by
  have H1 := Aside0.mk h1
  have HR := Aside0.mk hr
  have H3 := Aside0.mk h3
  clear h1 h3 hr
  go_enter Try.func29, Try.ntmps29
  go_wp2_with (go_at_call 46; refine (byid_calls _).mono ?_; rintro e w1 ⟨rfl, hB, hC⟩; have B1 := Aside0.mk hB; have C1 := Aside0.mk hC; clear hB hC)
  have G1 : Aside0 (w.heap.size < w1.heap.size) := ⟨World.block_lt_of_cell? w1 _ (C1.out 0 (by decide)).1⟩
  go_loopw [8] (fun i wr => ∃ k : Nat, k ≤ m ∧ i = .int .i64 (k : Int) ∧ Aside0 (Below w1.heap.size w1 wr)) (fun i _ => 7 - (intOf i).toNat)
  case atStart => exact ⟨0, Nat.zero_le _, rfl, ⟨Below.refl _ _⟩⟩
  case round =>
    obtain ⟨k, hk, rfl, HB⟩ := hrel
    have hk7 : k < 6 := by omega
    have hx := (HB.out.cell (p := ⟨w.heap.size, k * 2, none⟩) G1.out).trans (C1.out k hk7).1
    have hy := (HB.out.cell (p := ⟨w.heap.size, k * 2 + 1, none⟩) G1.out).trans (C1.out k hk7).2
    obtain ⟨x, hxx⟩ : ∃ x, (U.getD k (0, 0)).1 = x := ⟨_, rfl⟩
    obtain ⟨y, hyy⟩ : ∃ y, (U.getD k (0, 0)).2 = y := ⟨_, rfl⟩
    rw [hxx] at hx
    rw [hyy] at hy
    have HXX := Aside0.mk hxx
    have HYY := Aside0.mk hyy
    by_cases hkm : k = m
    · subst hkm
      have e1 := H1.out
      rw [hxx] at e1
      subst e1
      clear hxx hyy
      obtain rfl : y = r := HYY.out.symm.trans HR.out
      go_wp2
      go_ret2
      exact ⟨rfl, by
        have b0 := B1.out.trans (Below.mono HB.out (Nat.le_of_lt G1.out))
        have g0 := HB.out.size
        have g1 := G1.out
        repeat (first | exact b0 | refine Below.alloc ?_ (by first | omega | (simp [go_sem]; omega) | (simp [go_sem]; done)) _)⟩
    · have hne := H3.out k (by omega)
      rw [hxx] at hne
      have d1 : (x == id) = false := by simpa using hne
      clear hxx hyy
      go_wp2
      go_roundw
      case rel => exact ⟨k + 1, by omega, by go_num, ⟨by
        have g0 := HB.out.size
        repeat (first | exact HB.out | refine Below.alloc ?_ (by first | omega | (simp [go_sem]; omega) | (simp [go_sem]; done)) _)⟩⟩
      case measure => simp [intOf]; omega

set_option maxHeartbeats 1600000 in
set_option maxRecDepth 100000 in
theorem ios_sha (id : Int) (w : World) (h : ∀ j, j < 6 → ¬ (U.getD j (0, 0)).1 = id) (he : id = 2) :
    Calls Try.prog 29 #[.int .u8 id] w fun e w' => e = .returned (.tuple #[.int .u64 3, .bool true]) ∧ Below w.heap.size w w' := by
  have H := Aside0.mk h
  clear h
  subst he
  go_enter Try.func29, Try.ntmps29
  go_wp2_with (go_at_call 46; refine (byid_calls _).mono ?_; rintro e w1 ⟨rfl, hB, hC⟩; have B1 := Aside0.mk hB; have C1 := Aside0.mk hC; clear hB hC)
  have G1 : Aside0 (w.heap.size < w1.heap.size) := ⟨World.block_lt_of_cell? w1 _ (C1.out 0 (by decide)).1⟩
  go_loopw [8] (fun i wr => ∃ k : Nat, k ≤ 6 ∧ i = .int .i64 (k : Int) ∧ Aside0 (Below w1.heap.size w1 wr)) (fun i _ => 7 - (intOf i).toNat)
  case atStart => exact ⟨0, Nat.zero_le _, rfl, ⟨Below.refl _ _⟩⟩
  case round =>
    obtain ⟨k, hk, rfl, HB⟩ := hrel
    by_cases hk7 : k < 6
    · have hx := (HB.out.cell (p := ⟨w.heap.size, k * 2, none⟩) G1.out).trans (C1.out k hk7).1
      have hy := (HB.out.cell (p := ⟨w.heap.size, k * 2 + 1, none⟩) G1.out).trans (C1.out k hk7).2
      have hh := H.out k hk7
      generalize (U.getD k (0, 0)).1 = x at hx hh
      generalize (U.getD k (0, 0)).2 = y at hy hh
      have d1 : (x == (2 : Int)) = false := by simpa using hh
      go_wp2
      go_roundw
      case rel => exact ⟨k + 1, by omega, by go_num, ⟨by
        have g0 := HB.out.size
        repeat (first | exact HB.out | refine Below.alloc ?_ (by first | omega | (simp [go_sem]; omega) | (simp [go_sem]; done)) _)⟩⟩
      case measure => simp [intOf]; omega
    · go_wp2
      go_ret2
      exact ⟨rfl, B1.out.trans (Below.mono HB.out (Nat.le_of_lt G1.out))⟩

set_option maxHeartbeats 1600000 in
set_option maxRecDepth 100000 in
theorem ios_none (id : Int) (w : World) (h : ∀ j, j < 6 → ¬ (U.getD j (0, 0)).1 = id) (he : ¬ id = 2) :
    Calls Try.prog 29 #[.int .u8 id] w fun e w' => e = .returned (.tuple #[.int .u64 0, .bool false]) ∧ Below w.heap.size w w' := by
  have H := Aside0.mk h
  clear h
  have d0 : (id == 2) = false := by simpa using he
  go_enter Try.func29, Try.ntmps29
  go_wp2_with (go_at_call 46; refine (byid_calls _).mono ?_; rintro e w1 ⟨rfl, hB, hC⟩; have B1 := Aside0.mk hB; have C1 := Aside0.mk hC; clear hB hC)
  have G1 : Aside0 (w.heap.size < w1.heap.size) := ⟨World.block_lt_of_cell? w1 _ (C1.out 0 (by decide)).1⟩
  go_loopw [8] (fun i wr => ∃ k : Nat, k ≤ 6 ∧ i = .int .i64 (k : Int) ∧ Aside0 (Below w1.heap.size w1 wr)) (fun i _ => 7 - (intOf i).toNat)
  case atStart => exact ⟨0, Nat.zero_le _, rfl, ⟨Below.refl _ _⟩⟩
  case round =>
    obtain ⟨k, hk, rfl, HB⟩ := hrel
    by_cases hk7 : k < 6
    · have hx := (HB.out.cell (p := ⟨w.heap.size, k * 2, none⟩) G1.out).trans (C1.out k hk7).1
      have hy := (HB.out.cell (p := ⟨w.heap.size, k * 2 + 1, none⟩) G1.out).trans (C1.out k hk7).2
      have hh := H.out k hk7
      generalize (U.getD k (0, 0)).1 = x at hx hh
      generalize (U.getD k (0, 0)).2 = y at hy hh
      have d1 : (x == id) = false := by simpa using hh
      go_wp2
      go_roundw
      case rel => exact ⟨k + 1, by omega, by go_num, ⟨by
        have g0 := HB.out.size
        repeat (first | exact HB.out | refine Below.alloc ?_ (by first | omega | (simp [go_sem]; omega) | (simp [go_sem]; done)) _)⟩⟩
      case measure => simp [intOf]; omega
    · go_wp2
      go_ret2
      exact ⟨rfl, B1.out.trans (Below.mono HB.out (Nat.le_of_lt G1.out))⟩

set_option maxHeartbeats 1600000 in
set_option maxRecDepth 100000 in
theorem oi_at (id : Int) (m : Nat) (r : Int) (w : World) (hr : (U.getD m (0, 0)).1 = r) (hm : m < 6) (h1 : (U.getD m (0, 0)).2 = id) (h3 : ∀ j, j < m → ¬ (U.getD j (0, 0)).2 = id) :
    Calls Try.prog 33 #[.int .u64 id] w fun e w' => e = .returned (.tuple #[.int .u8 r, .bool true]) ∧ Below w.heap.size w w' := by
  have H1 := Aside0.mk h1
  have HR := Aside0.mk hr
  have H3 := Aside0.mk h3
  clear h1 h3 hr
  go_enter Try.func33, Try.ntmps33
  go_wp2_with (go_at_call 46; refine (byid_calls _).mono ?_; rintro e w1 ⟨rfl, hB, hC⟩; have B1 := Aside0.mk hB; have C1 := Aside0.mk hC; clear hB hC)
  have G1 : Aside0 (w.heap.size < w1.heap.size) := ⟨World.block_lt_of_cell? w1 _ (C1.out 0 (by decide)).1⟩
  go_loopw [8] (fun i wr => ∃ k : Nat, k ≤ m ∧ i = .int .i64 (k : Int) ∧ Aside0 (Below w1.heap.size w1 wr)) (fun i _ => 7 - (intOf i).toNat)
  case atStart => exact ⟨0, Nat.zero_le _, rfl, ⟨Below.refl _ _⟩⟩
  case round =>
    obtain ⟨k, hk, rfl, HB⟩ := hrel
    have hk7 : k < 6 := by omega
    have hx := (HB.out.cell (p := ⟨w.heap.size, k * 2, none⟩) G1.out).trans (C1.out k hk7).1
    have hy := (HB.out.cell (p := ⟨w.heap.size, k * 2 + 1, none⟩) G1.out).trans (C1.out k hk7).2
    obtain ⟨x, hxx⟩ : ∃ x, (U.getD k (0, 0)).1 = x := ⟨_, rfl⟩
    obtain ⟨y, hyy⟩ : ∃ y, (U.getD k (0, 0)).2 = y := ⟨_, rfl⟩
    rw [hxx] at hx
    rw [hyy] at hy
    have HXX := Aside0.mk hxx
    have HYY := Aside0.mk hyy
    by_cases hkm : k = m
    · subst hkm
      have e1 := H1.out
      rw [hyy] at e1
      subst e1
      clear hxx hyy
      obtain rfl : x = r := HXX.out.symm.trans HR.out
      go_wp2
      go_ret2
      exact ⟨rfl, by
        have b0 := B1.out.trans (Below.mono HB.out (Nat.le_of_lt G1.out))
        have g0 := HB.out.size
        have g1 := G1.out
        repeat (first | exact b0 | refine Below.alloc ?_ (by first | omega | (simp [go_sem]; omega) | (simp [go_sem]; done)) _)⟩
    · have hne := H3.out k (by omega)
      rw [hyy] at hne
      have d1 : (y == id) = false := by simpa using hne
      clear hxx hyy
      go_wp2
      go_roundw
      case rel => exact ⟨k + 1, by omega, by go_num, ⟨by
        have g0 := HB.out.size
        repeat (first | exact HB.out | refine Below.alloc ?_ (by first | omega | (simp [go_sem]; omega) | (simp [go_sem]; done)) _)⟩⟩
      case measure => simp [intOf]; omega

set_option maxHeartbeats 1600000 in
set_option maxRecDepth 100000 in
theorem oi_none (id : Int) (w : World) (h : ∀ j, j < 6 → ¬ (U.getD j (0, 0)).2 = id)  :
    Calls Try.prog 33 #[.int .u64 id] w fun e w' => e = .returned (.tuple #[.int .u8 0, .bool false]) ∧ Below w.heap.size w w' := by
  have H := Aside0.mk h
  clear h
  go_enter Try.func33, Try.ntmps33
  go_wp2_with (go_at_call 46; refine (byid_calls _).mono ?_; rintro e w1 ⟨rfl, hB, hC⟩; have B1 := Aside0.mk hB; have C1 := Aside0.mk hC; clear hB hC)
  have G1 : Aside0 (w.heap.size < w1.heap.size) := ⟨World.block_lt_of_cell? w1 _ (C1.out 0 (by decide)).1⟩
  go_loopw [8] (fun i wr => ∃ k : Nat, k ≤ 6 ∧ i = .int .i64 (k : Int) ∧ Aside0 (Below w1.heap.size w1 wr)) (fun i _ => 7 - (intOf i).toNat)
  case atStart => exact ⟨0, Nat.zero_le _, rfl, ⟨Below.refl _ _⟩⟩
  case round =>
    obtain ⟨k, hk, rfl, HB⟩ := hrel
    by_cases hk7 : k < 6
    · have hx := (HB.out.cell (p := ⟨w.heap.size, k * 2, none⟩) G1.out).trans (C1.out k hk7).1
      have hy := (HB.out.cell (p := ⟨w.heap.size, k * 2 + 1, none⟩) G1.out).trans (C1.out k hk7).2
      have hh := H.out k hk7
      generalize (U.getD k (0, 0)).1 = x at hx hh
      generalize (U.getD k (0, 0)).2 = y at hy hh
      have d1 : (y == id) = false := by simpa using hh
      go_wp2
      go_roundw
      case rel => exact ⟨k + 1, by omega, by go_num, ⟨by
        have g0 := HB.out.size
        repeat (first | exact HB.out | refine Below.alloc ?_ (by first | omega | (simp [go_sem]; omega) | (simp [go_sem]; done)) _)⟩⟩
      case measure => simp [intOf]; omega
    · go_wp2
      go_ret2
      exact ⟨rfl, B1.out.trans (Below.mono HB.out (Nat.le_of_lt G1.out))⟩

set_option maxHeartbeats 1600000 in
set_option maxRecDepth 100000 in
theorem ois_at (id : Int) (m : Nat) (r : Int) (w : World) (hr : (U.getD m (0, 0)).1 = r) (hm : m < 6) (h1 : (U.getD m (0, 0)).2 = id) (h3 : ∀ j, j < m → ¬ (U.getD j (0, 0)).2 = id) :
    Calls Try.prog 32 #[.int .u64 id] w fun e w' => e = .returned (.tuple #[.int .u8 r, .bool true]) ∧ Below w.heap.size w w' := by
  have H1 := Aside0.mk h1
  have HR := Aside0.mk hr
  have H3 := Aside0.mk h3
  clear h1 h3 hr
  go_enter Try.func32, Try.ntmps32
  go_wp2_with (go_at_call 46; refine (byid_calls _).mono ?_; rintro e w1 ⟨rfl, hB, hC⟩; have B1 := Aside0.mk hB; have C1 := Aside0.mk hC; clear hB hC)
  have G1 : Aside0 (w.heap.size < w1.heap.size) := ⟨World.block_lt_of_cell? w1 _ (C1.out 0 (by decide)).1⟩
  go_loopw [8] (fun i wr => ∃ k : Nat, k ≤ m ∧ i = .int .i64 (k : Int) ∧ Aside0 (Below w1.heap.size w1 wr)) (fun i _ => 7 - (intOf i).toNat)
  case atStart => exact ⟨0, Nat.zero_le _, rfl, ⟨Below.refl _ _⟩⟩
  case round =>
    obtain ⟨k, hk, rfl, HB⟩ := hrel
    have hk7 : k < 6 := by omega
    have hx := (HB.out.cell (p := ⟨w.heap.size, k * 2, none⟩) G1.out).trans (C1.out k hk7).1
    have hy := (HB.out.cell (p := ⟨w.heap.size, k * 2 + 1, none⟩) G1.out).trans (C1.out k hk7).2
    obtain ⟨x, hxx⟩ : ∃ x, (U.getD k (0, 0)).1 = x := ⟨_, rfl⟩
    obtain ⟨y, hyy⟩ : ∃ y, (U.getD k (0, 0)).2 = y := ⟨_, rfl⟩
    rw [hxx] at hx
    rw [hyy] at hy
    have HXX := Aside0.mk hxx
    have HYY := Aside0.mk hyy
    by_cases hkm : k = m
    · subst hkm
      have e1 := H1.out
      rw [hyy] at e1
      subst e1
      clear hxx hyy
      obtain rfl : x = r := HXX.out.symm.trans HR.out
      go_wp2
      go_ret2
      exact ⟨rfl, by
        have b0 := B1.out.trans (Below.mono HB.out (Nat.le_of_lt G1.out))
        have g0 := HB.out.size
        have g1 := G1.out
        repeat (first | exact b0 | refine Below.alloc ?_ (by first | omega | (simp [go_sem]; omega) | (simp [go_sem]; done)) _)⟩
    · have hne := H3.out k (by omega)
      rw [hyy] at hne
      have d1 : (y == id) = false := by simpa using hne
      clear hxx hyy
      go_wp2
      go_roundw
      case rel => exact ⟨k + 1, by omega, by go_num, ⟨by
        have g0 := HB.out.size
        repeat (first | exact HB.out | refine Below.alloc ?_ (by first | omega | (simp [go_sem]; omega) | (simp [go_sem]; done)) _)⟩⟩
      case measure => simp [intOf]; omega

set_option maxHeartbeats 1600000 in
set_option maxRecDepth 100000 in
theorem ois_sha (id : Int) (w : World) (h : ∀ j, j < 6 → ¬ (U.getD j (0, 0)).2 = id) (he : id = 3) :
    Calls Try.prog 32 #[.int .u64 id] w fun e w' => e = .returned (.tuple #[.int .u8 2, .bool true]) ∧ Below w.heap.size w w' := by
  have H := Aside0.mk h
  clear h
  subst he
  go_enter Try.func32, Try.ntmps32
  go_wp2_with (go_at_call 46; refine (byid_calls _).mono ?_; rintro e w1 ⟨rfl, hB, hC⟩; have B1 := Aside0.mk hB; have C1 := Aside0.mk hC; clear hB hC)
  have G1 : Aside0 (w.heap.size < w1.heap.size) := ⟨World.block_lt_of_cell? w1 _ (C1.out 0 (by decide)).1⟩
  go_loopw [8] (fun i wr => ∃ k : Nat, k ≤ 6 ∧ i = .int .i64 (k : Int) ∧ Aside0 (Below w1.heap.size w1 wr)) (fun i _ => 7 - (intOf i).toNat)
  case atStart => exact ⟨0, Nat.zero_le _, rfl, ⟨Below.refl _ _⟩⟩
  case round =>
    obtain ⟨k, hk, rfl, HB⟩ := hrel
    by_cases hk7 : k < 6
    · have hx := (HB.out.cell (p := ⟨w.heap.size, k * 2, none⟩) G1.out).trans (C1.out k hk7).1
      have hy := (HB.out.cell (p := ⟨w.heap.size, k * 2 + 1, none⟩) G1.out).trans (C1.out k hk7).2
      have hh := H.out k hk7
      generalize (U.getD k (0, 0)).1 = x at hx hh
      generalize (U.getD k (0, 0)).2 = y at hy hh
      have d1 : (y == (3 : Int)) = false := by simpa using hh
      go_wp2
      go_roundw
      case rel => exact ⟨k + 1, by omega, by go_num, ⟨by
        have g0 := HB.out.size
        repeat (first | exact HB.out | refine Below.alloc ?_ (by first | omega | (simp [go_sem]; omega) | (simp [go_sem]; done)) _)⟩⟩
      case measure => simp [intOf]; omega
    · go_wp2
      go_ret2
      exact ⟨rfl, B1.out.trans (Below.mono HB.out (Nat.le_of_lt G1.out))⟩

set_option maxHeartbeats 1600000 in
set_option maxRecDepth 100000 in
theorem ois_none (id : Int) (w : World) (h : ∀ j, j < 6 → ¬ (U.getD j (0, 0)).2 = id) (he : ¬ id = 3) :
    Calls Try.prog 32 #[.int .u64 id] w fun e w' => e = .returned (.tuple #[.int .u8 0, .bool false]) ∧ Below w.heap.size w w' := by
  have H := Aside0.mk h
  clear h
  have d0 : (id == 3) = false := by simpa using he
  go_enter Try.func32, Try.ntmps32
  go_wp2_with (go_at_call 46; refine (byid_calls _).mono ?_; rintro e w1 ⟨rfl, hB, hC⟩; have B1 := Aside0.mk hB; have C1 := Aside0.mk hC; clear hB hC)
  have G1 : Aside0 (w.heap.size < w1.heap.size) := ⟨World.block_lt_of_cell? w1 _ (C1.out 0 (by decide)).1⟩
  go_loopw [8] (fun i wr => ∃ k : Nat, k ≤ 6 ∧ i = .int .i64 (k : Int) ∧ Aside0 (Below w1.heap.size w1 wr)) (fun i _ => 7 - (intOf i).toNat)
  case atStart => exact ⟨0, Nat.zero_le _, rfl, ⟨Below.refl _ _⟩⟩
  case round =>
    obtain ⟨k, hk, rfl, HB⟩ := hrel
    by_cases hk7 : k < 6
    · have hx := (HB.out.cell (p := ⟨w.heap.size, k * 2, none⟩) G1.out).trans (C1.out k hk7).1
      have hy := (HB.out.cell (p := ⟨w.heap.size, k * 2 + 1, none⟩) G1.out).trans (C1.out k hk7).2
      have hh := H.out k hk7
      generalize (U.getD k (0, 0)).1 = x at hx hh
      generalize (U.getD k (0, 0)).2 = y at hy hh
      have d1 : (y == id) = false := by simpa using hh
      go_wp2
      go_roundw
      case rel => exact ⟨k + 1, by omega, by go_num, ⟨by
        have g0 := HB.out.size
        repeat (first | exact HB.out | refine Below.alloc ?_ (by first | omega | (simp [go_sem]; omega) | (simp [go_sem]; done)) _)⟩⟩
      case measure => simp [intOf]; omega
    · go_wp2
      go_ret2
      exact ⟨rfl, B1.out.trans (Below.mono HB.out (Nat.le_of_lt G1.out))⟩

end Go.Proofs.Ytchihobchpipfaa.Hash
