/- Lemmas on the seat's program, in order (6 texts in one). -/
import Derived.Test.YtjdnnpfhlkgooaaDoorProg
import Derived.Test.YtjdnnpfhlkgooaaDoorKit
import Derived.Test.YtjdnnpfhlkgooaaDoorOct0
import Derived.Test.YtjdnnpfhlkgooaaDoorHdr
/- The numbers of hashes: the tables and the searches in them, walked. -/
set_option linter.unusedVariables false
set_option linter.unusedSimpArgs false
namespace Go.Proofs.YtjdnnpfhlkgooaaDoor.Hash
open Go.RowKit Go.Proofs.YtjdnnpfhlkgooaaDoorW.PrintWords Go.Proofs.YtjdnnpfhlkgooaaDoorW.PrintLast Go.Proofs.YtjdnnpfhlkgooaaDoorW.PrintMore Go.Proofs.YtjdnnpfhlkgooaaDoor.Kit

/-- The statement's table. -/
def T : List (Int × Int) := [(2, 3), (8, 5), (9, 6), (10, 7), (11, 4), (12, 11), (14, 13)]

set_option maxHeartbeats 800000 in
set_option maxRecDepth 100000 in
theorem hashes_calls (w : World) :
    Calls Tryd.prog 39 #[] w fun e w' => e = .returned (.slice (some ⟨w.heap.size, 0, none⟩) 7 7) ∧ Below w.heap.size w w' ∧ ∀ k, k < 7 → w'.cell? ⟨w.heap.size, k * 2, none⟩ = some (.int .i64 (T.getD k (0, 0)).1) ∧ w'.cell? ⟨w.heap.size, k * 2 + 1, none⟩ = some (.int .i64 (T.getD k (0, 0)).2) := by
  go_enter Tryd.func39, Tryd.ntmps39
  go_wp2
  go_ret
  refine ⟨rfl, (Below.refl _ w).alloc (Nat.le_refl _) _, fun k hk => ?_⟩
  have hh : k = 0 ∨ k = 1 ∨ k = 2 ∨ k = 3 ∨ k = 4 ∨ k = 5 ∨ k = 6 := by omega
  rcases hh with rfl | rfl | rfl | rfl | rfl | rfl | rfl <;> simp [go_sem, T]

/-- The program's table. -/
def U : List (Int × Int) := [(8, 5), (9, 6), (10, 7), (11, 4), (12, 11), (14, 13)]

set_option maxHeartbeats 1600000 in
set_option maxRecDepth 100000 in
theorem byid_calls (w : World) :
    Calls Tryd.prog 71 #[] w fun e w' => e = .returned (.slice (some ⟨w.heap.size, 0, none⟩) 6 6) ∧ Below w.heap.size w w' ∧ ∀ k, k < 6 → w'.cell? ⟨w.heap.size, k * 2, none⟩ = some (.int .u8 (U.getD k (0, 0)).1) ∧ w'.cell? ⟨w.heap.size, k * 2 + 1, none⟩ = some (.int .u64 (U.getD k (0, 0)).2) := by
  go_enter Tryd.func71, Tryd.ntmps71
  go_wp2
  go_ret
  refine ⟨rfl, (Below.refl _ w).alloc (Nat.le_refl _) _, fun k hk => ?_⟩
  have hh : k = 0 ∨ k = 1 ∨ k = 2 ∨ k = 3 ∨ k = 4 ∨ k = 5 := by omega
  rcases hh with rfl | rfl | rfl | rfl | rfl | rfl <;> simp [go_sem, U]

set_option maxHeartbeats 1600000 in
set_option maxRecDepth 100000 in
theorem sof_at (id : Int) (s : Bool) (m : Nat) (r : Int) (w : World) (hr : (T.getD m (0, 0)).2 = r) (hm : m < 7) (h1 : (T.getD m (0, 0)).1 = id) (h2 : ¬ (T.getD m (0, 0)).1 = 2 ∨ s = true) (h3 : ∀ j, j < m → ¬ (T.getD j (0, 0)).1 = id) :
    Calls Tryd.prog 59 #[.int .i64 id, .bool s] w fun e w' => e = .returned (.tuple #[.int .i64 r, .bool true]) ∧ Below w.heap.size w w' := by
  have H1 := Aside0.mk h1
  have HR := Aside0.mk hr
  have H3 := Aside0.mk h3
  have H2 : Aside0 (((T.getD m (0, 0)).1 == 2) = false ∨ s = true) := ⟨h2.elim (fun h => .inl (by simpa using h)) .inr⟩
  clear h1 h2 h3 hr
  go_enter Tryd.func59, Tryd.ntmps59
  go_wp2_with (go_at_call 39; refine (hashes_calls _).mono ?_; rintro e w1 ⟨rfl, hB, hC⟩; have B1 := Aside0.mk hB; have C1 := Aside0.mk hC; clear hB hC)
  have G1 : Aside0 (w.heap.size < w1.heap.size) := ⟨World.block_lt_of_cell? w1 _ (C1.out 0 (by decide)).1⟩
  go_loopw [10] (fun i wr => ∃ k : Nat, k ≤ m ∧ i = .int .i64 (k : Int) ∧ Aside0 (Below w1.heap.size w1 wr)) (fun i _ => 7 - (intOf i).toNat)
  case atStart => exact ⟨0, Nat.zero_le _, rfl, ⟨Below.refl _ _⟩⟩
  case round =>
    obtain ⟨k, hk, rfl, HB⟩ := hrel
    have hk7 : k < 7 := by omega
    have hx := (HB.out.cell (p := ⟨w.heap.size, k * 2, none⟩) G1.out).trans (C1.out k hk7).1
    have hy := (HB.out.cell (p := ⟨w.heap.size, k * 2 + 1, none⟩) G1.out).trans (C1.out k hk7).2
    obtain ⟨x, hxx⟩ : ∃ x, (T.getD k (0, 0)).1 = x := ⟨_, rfl⟩
    obtain ⟨y, hyy⟩ : ∃ y, (T.getD k (0, 0)).2 = y := ⟨_, rfl⟩
    rw [hxx] at hx
    rw [hyy] at hy
    have HXX := Aside0.mk hxx
    have HYY := Aside0.mk hyy
    by_cases hkm : k = m
    · subst hkm
      have e1 := H1.out
      have e2 := H2.out
      rw [hxx] at e2
      rw [hxx] at e1
      subst e1
      clear hxx hyy
      obtain rfl : y = r := HYY.out.symm.trans HR.out
      rcases e2 with e2 | e2
      · have e3 : ¬ x = 2 := by simpa using e2
        go_wp2
        go_ret2
        exact ⟨rfl, (B1.out.trans (Below.mono HB.out (Nat.le_of_lt G1.out))).alloc (by have := G1.out; have := HB.out.size; omega) _⟩
      · subst e2
        go_wp2
        all_goals go_ret2
        all_goals exact ⟨rfl, (B1.out.trans (Below.mono HB.out (Nat.le_of_lt G1.out))).alloc (by have := G1.out; have := HB.out.size; omega) _⟩
    · have hne := H3.out k (by omega)
      rw [hxx] at hne
      have d1 : (x == id) = false := by simpa using hne
      clear hxx hyy
      go_wp2
      go_roundw
      case rel => exact ⟨k + 1, by omega, by go_num, ⟨HB.out.alloc HB.out.size _⟩⟩
      case measure => simp [intOf]; omega

set_option maxHeartbeats 1600000 in
set_option maxRecDepth 100000 in
theorem sid_at (id : Int) (s : Bool) (m : Nat) (r : Int) (w : World) (hr : (T.getD m (0, 0)).1 = r) (hm : m < 7) (h1 : (T.getD m (0, 0)).2 = id) (h2 : ¬ (T.getD m (0, 0)).1 = 2 ∨ s = true) (h3 : ∀ j, j < m → ¬ (T.getD j (0, 0)).2 = id) :
    Calls Tryd.prog 13 #[.int .i64 id, .bool s] w fun e w' => e = .returned (.tuple #[.int .i64 r, .bool true]) ∧ Below w.heap.size w w' := by
  have H1 := Aside0.mk h1
  have HR := Aside0.mk hr
  have H3 := Aside0.mk h3
  have H2 : Aside0 (((T.getD m (0, 0)).1 == 2) = false ∨ s = true) := ⟨h2.elim (fun h => .inl (by simpa using h)) .inr⟩
  clear h1 h2 h3 hr
  go_enter Tryd.func13, Tryd.ntmps13
  go_wp2_with (go_at_call 39; refine (hashes_calls _).mono ?_; rintro e w1 ⟨rfl, hB, hC⟩; have B1 := Aside0.mk hB; have C1 := Aside0.mk hC; clear hB hC)
  have G1 : Aside0 (w.heap.size < w1.heap.size) := ⟨World.block_lt_of_cell? w1 _ (C1.out 0 (by decide)).1⟩
  go_loopw [10] (fun i wr => ∃ k : Nat, k ≤ m ∧ i = .int .i64 (k : Int) ∧ Aside0 (Below w1.heap.size w1 wr)) (fun i _ => 7 - (intOf i).toNat)
  case atStart => exact ⟨0, Nat.zero_le _, rfl, ⟨Below.refl _ _⟩⟩
  case round =>
    obtain ⟨k, hk, rfl, HB⟩ := hrel
    have hk7 : k < 7 := by omega
    have hx := (HB.out.cell (p := ⟨w.heap.size, k * 2, none⟩) G1.out).trans (C1.out k hk7).1
    have hy := (HB.out.cell (p := ⟨w.heap.size, k * 2 + 1, none⟩) G1.out).trans (C1.out k hk7).2
    obtain ⟨x, hxx⟩ : ∃ x, (T.getD k (0, 0)).1 = x := ⟨_, rfl⟩
    obtain ⟨y, hyy⟩ : ∃ y, (T.getD k (0, 0)).2 = y := ⟨_, rfl⟩
    rw [hxx] at hx
    rw [hyy] at hy
    have HXX := Aside0.mk hxx
    have HYY := Aside0.mk hyy
    by_cases hkm : k = m
    · subst hkm
      have e1 := H1.out
      have e2 := H2.out
      rw [hxx] at e2
      rw [hyy] at e1
      subst e1
      clear hxx hyy
      obtain rfl : x = r := HXX.out.symm.trans HR.out
      rcases e2 with e2 | e2
      · have e3 : ¬ x = 2 := by simpa using e2
        go_wp2
        go_ret2
        exact ⟨rfl, (B1.out.trans (Below.mono HB.out (Nat.le_of_lt G1.out))).alloc (by have := G1.out; have := HB.out.size; omega) _⟩
      · subst e2
        go_wp2
        all_goals go_ret2
        all_goals exact ⟨rfl, (B1.out.trans (Below.mono HB.out (Nat.le_of_lt G1.out))).alloc (by have := G1.out; have := HB.out.size; omega) _⟩
    · have hne := H3.out k (by omega)
      rw [hyy] at hne
      have d1 : (y == id) = false := by simpa using hne
      clear hxx hyy
      go_wp2
      go_roundw
      case rel => exact ⟨k + 1, by omega, by go_num, ⟨HB.out.alloc HB.out.size _⟩⟩
      case measure => simp [intOf]; omega

end Go.Proofs.YtjdnnpfhlkgooaaDoor.Hash

/- The numbers of hashes: searches that find nothing, and the program's own searches, walked. -/
set_option linter.unusedVariables false
set_option linter.unusedSimpArgs false
namespace Go.Proofs.YtjdnnpfhlkgooaaDoor.Hash
open Go.RowKit Go.Proofs.YtjdnnpfhlkgooaaDoorW.PrintWords Go.Proofs.YtjdnnpfhlkgooaaDoorW.PrintLast Go.Proofs.YtjdnnpfhlkgooaaDoorW.PrintMore Go.Proofs.YtjdnnpfhlkgooaaDoor.Kit

set_option maxHeartbeats 1600000 in
set_option maxRecDepth 100000 in
theorem sof_none (id : Int) (s : Bool) (w : World) (h : ∀ j, j < 7 → ¬ (T.getD j (0, 0)).1 = id ∨ ((T.getD j (0, 0)).1 = 2 ∧ s = false)) :
    Calls Tryd.prog 59 #[.int .i64 id, .bool s] w fun e w' => e = .returned (.tuple #[.int .i64 0, .bool false]) ∧ Below w.heap.size w w' := by
  have H := Aside0.mk h
  clear h
  go_enter Tryd.func59, Tryd.ntmps59
  go_wp2_with (go_at_call 39; refine (hashes_calls _).mono ?_; rintro e w1 ⟨rfl, hB, hC⟩; have B1 := Aside0.mk hB; have C1 := Aside0.mk hC; clear hB hC)
  have G1 : Aside0 (w.heap.size < w1.heap.size) := ⟨World.block_lt_of_cell? w1 _ (C1.out 0 (by decide)).1⟩
  go_loopw [10] (fun i wr => ∃ k : Nat, k ≤ 7 ∧ i = .int .i64 (k : Int) ∧ Aside0 (Below w1.heap.size w1 wr)) (fun i _ => 7 - (intOf i).toNat)
  case atStart => exact ⟨0, Nat.zero_le _, rfl, ⟨Below.refl _ _⟩⟩
  case round =>
    obtain ⟨k, hk, rfl, HB⟩ := hrel
    by_cases hk7 : k < 7
    · have hx := (HB.out.cell (p := ⟨w.heap.size, k * 2, none⟩) G1.out).trans (C1.out k hk7).1
      have hy := (HB.out.cell (p := ⟨w.heap.size, k * 2 + 1, none⟩) G1.out).trans (C1.out k hk7).2
      have hh := H.out k hk7
      generalize (T.getD k (0, 0)).1 = x at hx hh
      generalize (T.getD k (0, 0)).2 = y at hy hh
      rcases hh with hh | ⟨rfl, rfl⟩
      · have d1 : (x == id) = false := by simpa using hh
        clear H
        go_wp2
        go_roundw
        case rel => exact ⟨k + 1, by omega, by go_num, ⟨HB.out.alloc HB.out.size _⟩⟩
        case measure => simp [intOf]; omega
      · clear H
        rcases Classical.em (2 = id) with e | e
        · subst e
          go_wp2
          go_roundw
          case rel => exact ⟨k + 1, by omega, by go_num, ⟨HB.out.alloc HB.out.size _⟩⟩
          case measure => simp [intOf]; omega
        · have d1 : ((2 : Int) == id) = false := by simpa using e
          go_wp2
          go_roundw
          case rel => exact ⟨k + 1, by omega, by go_num, ⟨HB.out.alloc HB.out.size _⟩⟩
          case measure => simp [intOf]; omega
    · go_wp2
      go_ret2
      exact ⟨rfl, B1.out.trans (Below.mono HB.out (Nat.le_of_lt G1.out))⟩

set_option maxHeartbeats 1600000 in
set_option maxRecDepth 100000 in
theorem sid_none (id : Int) (s : Bool) (w : World) (h : ∀ j, j < 7 → ¬ (T.getD j (0, 0)).2 = id ∨ ((T.getD j (0, 0)).1 = 2 ∧ s = false)) :
    Calls Tryd.prog 13 #[.int .i64 id, .bool s] w fun e w' => e = .returned (.tuple #[.int .i64 0, .bool false]) ∧ Below w.heap.size w w' := by
  have H := Aside0.mk h
  clear h
  go_enter Tryd.func13, Tryd.ntmps13
  go_wp2_with (go_at_call 39; refine (hashes_calls _).mono ?_; rintro e w1 ⟨rfl, hB, hC⟩; have B1 := Aside0.mk hB; have C1 := Aside0.mk hC; clear hB hC)
  have G1 : Aside0 (w.heap.size < w1.heap.size) := ⟨World.block_lt_of_cell? w1 _ (C1.out 0 (by decide)).1⟩
  go_loopw [10] (fun i wr => ∃ k : Nat, k ≤ 7 ∧ i = .int .i64 (k : Int) ∧ Aside0 (Below w1.heap.size w1 wr)) (fun i _ => 7 - (intOf i).toNat)
  case atStart => exact ⟨0, Nat.zero_le _, rfl, ⟨Below.refl _ _⟩⟩
  case round =>
    obtain ⟨k, hk, rfl, HB⟩ := hrel
    by_cases hk7 : k < 7
    · have hx := (HB.out.cell (p := ⟨w.heap.size, k * 2, none⟩) G1.out).trans (C1.out k hk7).1
      have hy := (HB.out.cell (p := ⟨w.heap.size, k * 2 + 1, none⟩) G1.out).trans (C1.out k hk7).2
      have hh := H.out k hk7
      generalize (T.getD k (0, 0)).1 = x at hx hh
      generalize (T.getD k (0, 0)).2 = y at hy hh
      rcases hh with hh | ⟨rfl, rfl⟩
      · have d1 : (y == id) = false := by simpa using hh
        clear H
        go_wp2
        go_roundw
        case rel => exact ⟨k + 1, by omega, by go_num, ⟨HB.out.alloc HB.out.size _⟩⟩
        case measure => simp [intOf]; omega
      · clear H
        rcases Classical.em (y = id) with e | e
        · subst e
          go_wp2
          go_roundw
          case rel => exact ⟨k + 1, by omega, by go_num, ⟨HB.out.alloc HB.out.size _⟩⟩
          case measure => simp [intOf]; omega
        · have d1 : (y == id) = false := by simpa using e
          go_wp2
          go_roundw
          case rel => exact ⟨k + 1, by omega, by go_num, ⟨HB.out.alloc HB.out.size _⟩⟩
          case measure => simp [intOf]; omega
    · go_wp2
      go_ret2
      exact ⟨rfl, B1.out.trans (Below.mono HB.out (Nat.le_of_lt G1.out))⟩

set_option maxHeartbeats 1600000 in
set_option maxRecDepth 100000 in
theorem ios_at (id : Int) (m : Nat) (r : Int) (w : World) (hr : (U.getD m (0, 0)).2 = r) (hm : m < 6) (h1 : (U.getD m (0, 0)).1 = id) (h3 : ∀ j, j < m → ¬ (U.getD j (0, 0)).1 = id) :
    Calls Tryd.prog 117 #[.int .u8 id] w fun e w' => e = .returned (.tuple #[.int .u64 r, .bool true]) ∧ Below w.heap.size w w' := by
  have H1 := Aside0.mk h1
  have HR := Aside0.mk hr
  have H3 := Aside0.mk h3
  clear h1 h3 hr
  go_enter Tryd.func117, Tryd.ntmps117
  go_wp2_with (go_at_call 71; refine (byid_calls _).mono ?_; rintro e w1 ⟨rfl, hB, hC⟩; have B1 := Aside0.mk hB; have C1 := Aside0.mk hC; clear hB hC)
  have G1 : Aside0 (w.heap.size < w1.heap.size) := ⟨World.block_lt_of_cell? w1 _ (C1.out 0 (by decide)).1⟩
  go_loopw [8] (fun i wr => ∃ k : Nat, k ≤ m ∧ i = .int .i64 (k : Int) ∧ Aside0 (Below w1.heap.size w1 wr)) (fun i _ => 7 - (intOf i).toNat)
  case atStart => exact ⟨0, Nat.zero_le _, rfl, ⟨Below.refl _ _⟩⟩
  case round =>
    obtain ⟨k, hk, rfl, HB⟩ := hrel
    have hk7 : k < 6 := by omega
    have hx := (HB.out.cell (p := ⟨w.heap.size, k * 2, none⟩) G1.out).trans (C1.out k hk7).1
    have hy := (HB.out.cell (p := ⟨w.heap.size, k * 2 + 1, none⟩) G1.out).trans (C1.out k hk7).2
    obtain ⟨x, hxx⟩ : ∃ x, (U.getD k (0, 0)).1 = x := ⟨_, rfl⟩
    obtain ⟨y, hyy⟩ : ∃ y, (U.getD k (0, 0)).2 = y := ⟨_, rfl⟩
    rw [hxx] at hx
    rw [hyy] at hy
    have HXX := Aside0.mk hxx
    have HYY := Aside0.mk hyy
    by_cases hkm : k = m
    · subst hkm
      have e1 := H1.out
      rw [hxx] at e1
      subst e1
      clear hxx hyy
      obtain rfl : y = r := HYY.out.symm.trans HR.out
      go_wp2
      go_ret2
      exact ⟨rfl, by
        have b0 := B1.out.trans (Below.mono HB.out (Nat.le_of_lt G1.out))
        have g0 := HB.out.size
        have g1 := G1.out
        repeat (first | exact b0 | refine Below.alloc ?_ (by first | omega | (simp [go_sem]; omega) | (simp [go_sem]; done)) _)⟩
    · have hne := H3.out k (by omega)
      rw [hxx] at hne
      have d1 : (x == id) = false := by simpa using hne
      clear hxx hyy
      go_wp2
      go_roundw
      case rel => exact ⟨k + 1, by omega, by go_num, ⟨by
        have g0 := HB.out.size
        repeat (first | exact HB.out | refine Below.alloc ?_ (by first | omega | (simp [go_sem]; omega) | (simp [go_sem]; done)) _)⟩⟩
      case measure => simp [intOf]; omega

set_option maxHeartbeats 1600000 in
set_option maxRecDepth 100000 in
theorem ios_sha (id : Int) (w : World) (h : ∀ j, j < 6 → ¬ (U.getD j (0, 0)).1 = id) (he : id = 2) :
    Calls Tryd.prog 117 #[.int .u8 id] w fun e w' => e = .returned (.tuple #[.int .u64 3, .bool true]) ∧ Below w.heap.size w w' := by
  have H := Aside0.mk h
  clear h
  subst he
  go_enter Tryd.func117, Tryd.ntmps117
  go_wp2_with (go_at_call 71; refine (byid_calls _).mono ?_; rintro e w1 ⟨rfl, hB, hC⟩; have B1 := Aside0.mk hB; have C1 := Aside0.mk hC; clear hB hC)
  have G1 : Aside0 (w.heap.size < w1.heap.size) := ⟨World.block_lt_of_cell? w1 _ (C1.out 0 (by decide)).1⟩
  go_loopw [8] (fun i wr => ∃ k : Nat, k ≤ 6 ∧ i = .int .i64 (k : Int) ∧ Aside0 (Below w1.heap.size w1 wr)) (fun i _ => 7 - (intOf i).toNat)
  case atStart => exact ⟨0, Nat.zero_le _, rfl, ⟨Below.refl _ _⟩⟩
  case round =>
    obtain ⟨k, hk, rfl, HB⟩ := hrel
    by_cases hk7 : k < 6
    · have hx := (HB.out.cell (p := ⟨w.heap.size, k * 2, none⟩) G1.out).trans (C1.out k hk7).1
      have hy := (HB.out.cell (p := ⟨w.heap.size, k * 2 + 1, none⟩) G1.out).trans (C1.out k hk7).2
      have hh := H.out k hk7
      generalize (U.getD k (0, 0)).1 = x at hx hh
      generalize (U.getD k (0, 0)).2 = y at hy hh
      have d1 : (x == (2 : Int)) = false := by simpa using hh
      go_wp2
      go_roundw
      case rel => exact ⟨k + 1, by omega, by go_num, ⟨by
        have g0 := HB.out.size
        repeat (first | exact HB.out | refine Below.alloc ?_ (by first | omega | (simp [go_sem]; omega) | (simp [go_sem]; done)) _)⟩⟩
      case measure => simp [intOf]; omega
    · go_wp2
      go_ret2
      exact ⟨rfl, B1.out.trans (Below.mono HB.out (Nat.le_of_lt G1.out))⟩

set_option maxHeartbeats 1600000 in
set_option maxRecDepth 100000 in
theorem ios_none (id : Int) (w : World) (h : ∀ j, j < 6 → ¬ (U.getD j (0, 0)).1 = id) (he : ¬ id = 2) :
    Calls Tryd.prog 117 #[.int .u8 id] w fun e w' => e = .returned (.tuple #[.int .u64 0, .bool false]) ∧ Below w.heap.size w w' := by
  have H := Aside0.mk h
  clear h
  have d0 : (id == 2) = false := by simpa using he
  go_enter Tryd.func117, Tryd.ntmps117
  go_wp2_with (go_at_call 71; refine (byid_calls _).mono ?_; rintro e w1 ⟨rfl, hB, hC⟩; have B1 := Aside0.mk hB; have C1 := Aside0.mk hC; clear hB hC)
  have G1 : Aside0 (w.heap.size < w1.heap.size) := ⟨World.block_lt_of_cell? w1 _ (C1.out 0 (by decide)).1⟩
  go_loopw [8] (fun i wr => ∃ k : Nat, k ≤ 6 ∧ i = .int .i64 (k : Int) ∧ Aside0 (Below w1.heap.size w1 wr)) (fun i _ => 7 - (intOf i).toNat)
  case atStart => exact ⟨0, Nat.zero_le _, rfl, ⟨Below.refl _ _⟩⟩
  case round =>
    obtain ⟨k, hk, rfl, HB⟩ := hrel
    by_cases hk7 : k < 6
    · have hx := (HB.out.cell (p := ⟨w.heap.size, k * 2, none⟩) G1.out).trans (C1.out k hk7).1
      have hy := (HB.out.cell (p := ⟨w.heap.size, k * 2 + 1, none⟩) G1.out).trans (C1.out k hk7).2
      have hh := H.out k hk7
      generalize (U.getD k (0, 0)).1 = x at hx hh
      generalize (U.getD k (0, 0)).2 = y at hy hh
      have d1 : (x == id) = false := by simpa using hh
      go_wp2
      go_roundw
      case rel => exact ⟨k + 1, by omega, by go_num, ⟨by
        have g0 := HB.out.size
        repeat (first | exact HB.out | refine Below.alloc ?_ (by first | omega | (simp [go_sem]; omega) | (simp [go_sem]; done)) _)⟩⟩
      case measure => simp [intOf]; omega
    · go_wp2
      go_ret2
      exact ⟨rfl, B1.out.trans (Below.mono HB.out (Nat.le_of_lt G1.out))⟩

set_option maxHeartbeats 1600000 in
set_option maxRecDepth 100000 in
theorem ois_at (id : Int) (m : Nat) (r : Int) (w : World) (hr : (U.getD m (0, 0)).1 = r) (hm : m < 6) (h1 : (U.getD m (0, 0)).2 = id) (h3 : ∀ j, j < m → ¬ (U.getD j (0, 0)).2 = id) :
    Calls Tryd.prog 56 #[.int .u64 id] w fun e w' => e = .returned (.tuple #[.int .u8 r, .bool true]) ∧ Below w.heap.size w w' := by
  have H1 := Aside0.mk h1
  have HR := Aside0.mk hr
  have H3 := Aside0.mk h3
  clear h1 h3 hr
  go_enter Tryd.func56, Tryd.ntmps56
  go_wp2_with (go_at_call 71; refine (byid_calls _).mono ?_; rintro e w1 ⟨rfl, hB, hC⟩; have B1 := Aside0.mk hB; have C1 := Aside0.mk hC; clear hB hC)
  have G1 : Aside0 (w.heap.size < w1.heap.size) := ⟨World.block_lt_of_cell? w1 _ (C1.out 0 (by decide)).1⟩
  go_loopw [8] (fun i wr => ∃ k : Nat, k ≤ m ∧ i = .int .i64 (k : Int) ∧ Aside0 (Below w1.heap.size w1 wr)) (fun i _ => 7 - (intOf i).toNat)
  case atStart => exact ⟨0, Nat.zero_le _, rfl, ⟨Below.refl _ _⟩⟩
  case round =>
    obtain ⟨k, hk, rfl, HB⟩ := hrel
    have hk7 : k < 6 := by omega
    have hx := (HB.out.cell (p := ⟨w.heap.size, k * 2, none⟩) G1.out).trans (C1.out k hk7).1
    have hy := (HB.out.cell (p := ⟨w.heap.size, k * 2 + 1, none⟩) G1.out).trans (C1.out k hk7).2
    obtain ⟨x, hxx⟩ : ∃ x, (U.getD k (0, 0)).1 = x := ⟨_, rfl⟩
    obtain ⟨y, hyy⟩ : ∃ y, (U.getD k (0, 0)).2 = y := ⟨_, rfl⟩
    rw [hxx] at hx
    rw [hyy] at hy
    have HXX := Aside0.mk hxx
    have HYY := Aside0.mk hyy
    by_cases hkm : k = m
    · subst hkm
      have e1 := H1.out
      rw [hyy] at e1
      subst e1
      clear hxx hyy
      obtain rfl : x = r := HXX.out.symm.trans HR.out
      go_wp2
      go_ret2
      exact ⟨rfl, by
        have b0 := B1.out.trans (Below.mono HB.out (Nat.le_of_lt G1.out))
        have g0 := HB.out.size
        have g1 := G1.out
        repeat (first | exact b0 | refine Below.alloc ?_ (by first | omega | (simp [go_sem]; omega) | (simp [go_sem]; done)) _)⟩
    · have hne := H3.out k (by omega)
      rw [hyy] at hne
      have d1 : (y == id) = false := by simpa using hne
      clear hxx hyy
      go_wp2
      go_roundw
      case rel => exact ⟨k + 1, by omega, by go_num, ⟨by
        have g0 := HB.out.size
        repeat (first | exact HB.out | refine Below.alloc ?_ (by first | omega | (simp [go_sem]; omega) | (simp [go_sem]; done)) _)⟩⟩
      case measure => simp [intOf]; omega

set_option maxHeartbeats 1600000 in
set_option maxRecDepth 100000 in
theorem ois_sha (id : Int) (w : World) (h : ∀ j, j < 6 → ¬ (U.getD j (0, 0)).2 = id) (he : id = 3) :
    Calls Tryd.prog 56 #[.int .u64 id] w fun e w' => e = .returned (.tuple #[.int .u8 2, .bool true]) ∧ Below w.heap.size w w' := by
  have H := Aside0.mk h
  clear h
  subst he
  go_enter Tryd.func56, Tryd.ntmps56
  go_wp2_with (go_at_call 71; refine (byid_calls _).mono ?_; rintro e w1 ⟨rfl, hB, hC⟩; have B1 := Aside0.mk hB; have C1 := Aside0.mk hC; clear hB hC)
  have G1 : Aside0 (w.heap.size < w1.heap.size) := ⟨World.block_lt_of_cell? w1 _ (C1.out 0 (by decide)).1⟩
  go_loopw [8] (fun i wr => ∃ k : Nat, k ≤ 6 ∧ i = .int .i64 (k : Int) ∧ Aside0 (Below w1.heap.size w1 wr)) (fun i _ => 7 - (intOf i).toNat)
  case atStart => exact ⟨0, Nat.zero_le _, rfl, ⟨Below.refl _ _⟩⟩
  case round =>
    obtain ⟨k, hk, rfl, HB⟩ := hrel
    by_cases hk7 : k < 6
    · have hx := (HB.out.cell (p := ⟨w.heap.size, k * 2, none⟩) G1.out).trans (C1.out k hk7).1
      have hy := (HB.out.cell (p := ⟨w.heap.size, k * 2 + 1, none⟩) G1.out).trans (C1.out k hk7).2
      have hh := H.out k hk7
      generalize (U.getD k (0, 0)).1 = x at hx hh
      generalize (U.getD k (0, 0)).2 = y at hy hh
      have d1 : (y == (3 : Int)) = false := by simpa using hh
      go_wp2
      go_roundw
      case rel => exact ⟨k + 1, by omega, by go_num, ⟨by
        have g0 := HB.out.size
        repeat (first | exact HB.out | refine Below.alloc ?_ (by first | omega | (simp [go_sem]; omega) | (simp [go_sem]; done)) _)⟩⟩
      case measure => simp [intOf]; omega
    · go_wp2
      go_ret2
      exact ⟨rfl, B1.out.trans (Below.mono HB.out (Nat.le_of_lt G1.out))⟩

set_option maxHeartbeats 1600000 in
set_option maxRecDepth 100000 in
theorem ois_none (id : Int) (w : World) (h : ∀ j, j < 6 → ¬ (U.getD j (0, 0)).2 = id) (he : ¬ id = 3) :
    Calls Tryd.prog 56 #[.int .u64 id] w fun e w' => e = .returned (.tuple #[.int .u8 0, .bool false]) ∧ Below w.heap.size w w' := by
  have H := Aside0.mk h
  clear h
  have d0 : (id == 3) = false := by simpa using he
  go_enter Tryd.func56, Tryd.ntmps56
  go_wp2_with (go_at_call 71; refine (byid_calls _).mono ?_; rintro e w1 ⟨rfl, hB, hC⟩; have B1 := Aside0.mk hB; have C1 := Aside0.mk hC; clear hB hC)
  have G1 : Aside0 (w.heap.size < w1.heap.size) := ⟨World.block_lt_of_cell? w1 _ (C1.out 0 (by decide)).1⟩
  go_loopw [8] (fun i wr => ∃ k : Nat, k ≤ 6 ∧ i = .int .i64 (k : Int) ∧ Aside0 (Below w1.heap.size w1 wr)) (fun i _ => 7 - (intOf i).toNat)
  case atStart => exact ⟨0, Nat.zero_le _, rfl, ⟨Below.refl _ _⟩⟩
  case round =>
    obtain ⟨k, hk, rfl, HB⟩ := hrel
    by_cases hk7 : k < 6
    · have hx := (HB.out.cell (p := ⟨w.heap.size, k * 2, none⟩) G1.out).trans (C1.out k hk7).1
      have hy := (HB.out.cell (p := ⟨w.heap.size, k * 2 + 1, none⟩) G1.out).trans (C1.out k hk7).2
      have hh := H.out k hk7
      generalize (U.getD k (0, 0)).1 = x at hx hh
      generalize (U.getD k (0, 0)).2 = y at hy hh
      have d1 : (y == id) = false := by simpa using hh
      go_wp2
      go_roundw
      case rel => exact ⟨k + 1, by omega, by go_num, ⟨by
        have g0 := HB.out.size
        repeat (first | exact HB.out | refine Below.alloc ?_ (by first | omega | (simp [go_sem]; omega) | (simp [go_sem]; done)) _)⟩⟩
      case measure => simp [intOf]; omega
    · go_wp2
      go_ret2
      exact ⟨rfl, B1.out.trans (Below.mono HB.out (Nat.le_of_lt G1.out))⟩

end Go.Proofs.YtjdnnpfhlkgooaaDoor.Hash

/- The law FnHashes: both tables say the same. -/
set_option linter.unusedVariables false
set_option linter.unusedSimpArgs false
namespace Go.Proofs.YtjdnnpfhlkgooaaDoor.Hash
open Go.RowKit Go.Proofs.YtjdnnpfhlkgooaaDoorW.PrintWords Go.Proofs.YtjdnnpfhlkgooaaDoorW.PrintLast Go.Proofs.YtjdnnpfhlkgooaaDoorW.PrintMore Go.Proofs.YtjdnnpfhlkgooaaDoor.Kit

/-- Go's number of a hash. -/
def hOf (id : Int) (s : Bool) : Int × Bool :=
  if id = 2 then (if s = true then (3, true) else (0, false)) else if id = 8 then (5, true) else if id = 9 then (6, true) else if id = 10 then (7, true) else if id = 11 then (4, true) else if id = 12 then (11, true) else if id = 14 then (13, true) else (0, false)
/-- The number of Go's hash. -/
def iOf (h : Int) (s : Bool) : Int × Bool :=
  if h = 3 then (if s = true then (2, true) else (0, false)) else if h = 5 then (8, true) else if h = 6 then (9, true) else if h = 7 then (10, true) else if h = 4 then (11, true) else if h = 11 then (12, true) else if h = 13 then (14, true) else (0, false)
theorem hOf_range (id : Int) (s : Bool) : 0 ≤ (hOf id s).1 ∧ (hOf id s).1 ≤ 13 := by
  unfold hOf
  repeat' split
  all_goals decide
theorem iOf_range (h : Int) (s : Bool) : 0 ≤ (iOf h s).1 ∧ (iOf h s).1 ≤ 14 := by
  unfold iOf
  repeat' split
  all_goals decide
theorem back (id : Int) (s : Bool) (a : Int) (h : hOf id s = (a, true)) : iOf a s = (id, true) := by
  unfold hOf at h
  repeat' split at h
  all_goals simp only [Prod.mk.injEq, Bool.false_eq_true, and_false, and_true, reduceCtorEq] at h
  all_goals subst h
  all_goals simp_all [iOf]
theorem iOf_wrap (h : Int) (s : Bool) (h0 : -9223372036854775808 ≤ h) (h1 : h ≤ 9223372036854775807) : iOf (h % 18446744073709551616) s = iOf h s := by
  have e : ∀ c : Int, 0 ≤ c → c ≤ 100 → (h % 18446744073709551616 = c) = (h = c) := fun c _ _ => propext (by omega)
  unfold iOf
  simp only [e 3 (by decide) (by decide), e 5 (by decide) (by decide), e 6 (by decide) (by decide), e 7 (by decide) (by decide), e 4 (by decide) (by decide), e 11 (by decide) (by decide), e 13 (by decide) (by decide)]

theorem shof (id : Int) (s : Bool) (w : World) :
    Calls Tryd.prog 59 #[.int .i64 id, .bool s] w fun e w' => e = .returned (.tuple #[.int .i64 (hOf id s).1, .bool (hOf id s).2]) ∧ Below w.heap.size w w' := by
  by_cases c2 : id = 2
  · subst c2
    cases s
    · exact sof_none 2 false w (by decide)
    · exact sof_at 2 true 0 3 w (by decide) (by decide) (by decide) (.inr rfl) (by decide)
  by_cases c8 : id = 8
  · subst c8; exact sof_at 8 s 1 5 w (by decide) (by decide) (by decide) (.inl (by decide)) (by decide)
  by_cases c9 : id = 9
  · subst c9; exact sof_at 9 s 2 6 w (by decide) (by decide) (by decide) (.inl (by decide)) (by decide)
  by_cases c10 : id = 10
  · subst c10; exact sof_at 10 s 3 7 w (by decide) (by decide) (by decide) (.inl (by decide)) (by decide)
  by_cases c11 : id = 11
  · subst c11; exact sof_at 11 s 4 4 w (by decide) (by decide) (by decide) (.inl (by decide)) (by decide)
  by_cases c12 : id = 12
  · subst c12; exact sof_at 12 s 5 11 w (by decide) (by decide) (by decide) (.inl (by decide)) (by decide)
  by_cases c14 : id = 14
  · subst c14; exact sof_at 14 s 6 13 w (by decide) (by decide) (by decide) (.inl (by decide)) (by decide)
  have e : hOf id s = (0, false) := by simp [hOf, c2, c8, c9, c10, c11, c12, c14]
  rw [e]
  refine sof_none id s w fun j hj => .inl fun h => ?_
  have hh : j = 0 ∨ j = 1 ∨ j = 2 ∨ j = 3 ∨ j = 4 ∨ j = 5 ∨ j = 6 := by omega
  rcases hh with rfl | rfl | rfl | rfl | rfl | rfl | rfl <;> simp [T] at h <;> omega

theorem siof (h : Int) (s : Bool) (w : World) :
    Calls Tryd.prog 13 #[.int .i64 h, .bool s] w fun e w' => e = .returned (.tuple #[.int .i64 (iOf h s).1, .bool (iOf h s).2]) ∧ Below w.heap.size w w' := by
  by_cases c3 : h = 3
  · subst c3
    cases s
    · exact sid_none 3 false w (by decide)
    · exact sid_at 3 true 0 2 w (by decide) (by decide) (by decide) (.inr rfl) (by decide)
  by_cases c5 : h = 5
  · subst c5; exact sid_at 5 s 1 8 w (by decide) (by decide) (by decide) (.inl (by decide)) (by decide)
  by_cases c6 : h = 6
  · subst c6; exact sid_at 6 s 2 9 w (by decide) (by decide) (by decide) (.inl (by decide)) (by decide)
  by_cases c7 : h = 7
  · subst c7; exact sid_at 7 s 3 10 w (by decide) (by decide) (by decide) (.inl (by decide)) (by decide)
  by_cases c4 : h = 4
  · subst c4; exact sid_at 4 s 4 11 w (by decide) (by decide) (by decide) (.inl (by decide)) (by decide)
  by_cases c11 : h = 11
  · subst c11; exact sid_at 11 s 5 12 w (by decide) (by decide) (by decide) (.inl (by decide)) (by decide)
  by_cases c13 : h = 13
  · subst c13; exact sid_at 13 s 6 14 w (by decide) (by decide) (by decide) (.inl (by decide)) (by decide)
  have e : iOf h s = (0, false) := by simp [iOf, c3, c5, c6, c7, c4, c11, c13]
  rw [e]
  refine sid_none h s w fun j hj => .inl fun g => ?_
  have hh : j = 0 ∨ j = 1 ∨ j = 2 ∨ j = 3 ∨ j = 4 ∨ j = 5 ∨ j = 6 := by omega
  rcases hh with rfl | rfl | rfl | rfl | rfl | rfl | rfl <;> simp [T] at g <;> omega

theorem ihofs (id : Int) (w : World) :
    Calls Tryd.prog 117 #[.int .u8 id] w fun e w' => e = .returned (.tuple #[.int .u64 (hOf id true).1, .bool (hOf id true).2]) ∧ Below w.heap.size w w' := by
  by_cases c2 : id = 2
  · subst c2; exact ios_sha 2 w (by decide) rfl
  by_cases c8 : id = 8
  · subst c8; exact ios_at 8 0 5 w (by decide) (by decide) (by decide) (by decide)
  by_cases c9 : id = 9
  · subst c9; exact ios_at 9 1 6 w (by decide) (by decide) (by decide) (by decide)
  by_cases c10 : id = 10
  · subst c10; exact ios_at 10 2 7 w (by decide) (by decide) (by decide) (by decide)
  by_cases c11 : id = 11
  · subst c11; exact ios_at 11 3 4 w (by decide) (by decide) (by decide) (by decide)
  by_cases c12 : id = 12
  · subst c12; exact ios_at 12 4 11 w (by decide) (by decide) (by decide) (by decide)
  by_cases c14 : id = 14
  · subst c14; exact ios_at 14 5 13 w (by decide) (by decide) (by decide) (by decide)
  have e : hOf id true = (0, false) := by simp [hOf, c2, c8, c9, c10, c11, c12, c14]
  rw [e]
  refine ios_none id w (fun j hj h => ?_) c2
  have hh : j = 0 ∨ j = 1 ∨ j = 2 ∨ j = 3 ∨ j = 4 ∨ j = 5 := by omega
  rcases hh with rfl | rfl | rfl | rfl | rfl | rfl <;> simp [U] at h <;> omega

theorem iiofs (h : Int) (w : World) :
    Calls Tryd.prog 56 #[.int .u64 h] w fun e w' => e = .returned (.tuple #[.int .u8 (iOf h true).1, .bool (iOf h true).2]) ∧ Below w.heap.size w w' := by
  by_cases c3 : h = 3
  · subst c3; exact ois_sha 3 w (by decide) rfl
  by_cases c5 : h = 5
  · subst c5; exact ois_at 5 0 8 w (by decide) (by decide) (by decide) (by decide)
  by_cases c6 : h = 6
  · subst c6; exact ois_at 6 1 9 w (by decide) (by decide) (by decide) (by decide)
  by_cases c7 : h = 7
  · subst c7; exact ois_at 7 2 10 w (by decide) (by decide) (by decide) (by decide)
  by_cases c4 : h = 4
  · subst c4; exact ois_at 4 3 11 w (by decide) (by decide) (by decide) (by decide)
  by_cases c11 : h = 11
  · subst c11; exact ois_at 11 4 12 w (by decide) (by decide) (by decide) (by decide)
  by_cases c13 : h = 13
  · subst c13; exact ois_at 13 5 14 w (by decide) (by decide) (by decide) (by decide)
  have e : iOf h true = (0, false) := by simp [iOf, c3, c5, c6, c7, c4, c11, c13]
  rw [e]
  refine ois_none h w (fun j hj g => ?_) c3
  have hh : j = 0 ∨ j = 1 ∨ j = 2 ∨ j = 3 ∨ j = 4 ∨ j = 5 := by omega
  rcases hh with rfl | rfl | rfl | rfl | rfl | rfl <;> simp [U] at g <;> omega
end Go.Proofs.YtjdnnpfhlkgooaaDoor.Hash

/- bigEndian.PutUint64 into an array of eight bytes; Uint64 of it. -/
set_option linter.unusedVariables false
set_option linter.unusedSimpArgs false
namespace Go.Proofs.YtjdnnpfhlkgooaaDoor.Rd
open Go.RowKit Go.Proofs.YtjdnnpfhlkgooaaDoorW.PrintWords Go.Proofs.YtjdnnpfhlkgooaaDoorW.PrintMore Go.Proofs.YtjdnnpfhlkgooaaDoor.Kit

theorem r8_at {w : World} {e base g n c : Nat} {l : List Int} {i : Nat} (h : R8 e w base (.slice (some ⟨g, 0, none⟩) n c) l) (hi : i < l.length) : w.cell? ⟨g, i, none⟩ = some (.int .u8 (l.getD i 0)) := by
  obtain ⟨_, _, hC⟩ := Kd.R_reads' h
  obtain ⟨ad, cs, e, _, hK, hcc⟩ := Kd.C_get hC (0 : Int) (i : Int) (by omega) (by omega)
  injection e with e
  subst e
  rw [Int.toNat_natCast] at hK hcc
  have e1 : cs = [.int .u8 (l.getD i 0)] := hK
  subst e1
  have q := hcc 0 _ rfl
  rw [show i * (Kd.int .u8).sz + 0 = i by show i * 1 + 0 = i; omega] at q
  have e2 : (⟨g, 0, none⟩ : Addr).add i = ⟨g, i, none⟩ := by simp [Addr.add]; omega
  rw [e2] at q
  exact q
/-- Eight bytes, the highest first. -/
def be8 (k : Int) : List Int := [k / 72057594037927936 % 256, k / 281474976710656 % 256, k / 1099511627776 % 256, k / 4294967296 % 256, k / 16777216 % 256, k / 65536 % 256, k / 256 % 256, k % 256]
set_option maxHeartbeats 1600000 in
set_option maxRecDepth 100000 in
theorem put_calls {w : World} {g : Nat} {k : Int} {x0 x1 x2 x3 x4 x5 x6 x7 : Int} (h : R8 135 w g (.slice (some ⟨g, 0, none⟩) 8 8) [x0, x1, x2, x3, x4, x5, x6, x7]) (hg : g < w.heap.size) :
    Calls Tryd.prog 58 #[.agg #[], .slice (some ⟨g, 0, none⟩) 8 8, .int .u64 k] w fun en w' => en = .returned (.tuple #[]) ∧ R8 135 w' g (.slice (some ⟨g, 0, none⟩) 8 8) (be8 k) ∧ Below g w w' ∧ Tch (fun j => j = g) w w' := by
  obtain ⟨W0, eW, hB⟩ : ∃ W0, w.alloc (.cells #[] 140) = W0 ∧ Below w.heap.size w W0 := ⟨_, rfl, below_alloc (Below.refl _ _) _⟩
  have R0 := Aside0.mk (Kd.R_below h hB)
  have B0 := Aside0.mk (hB.mono (Nat.le_of_lt hg))
  have T0 := Aside0.mk (Tch.of_below (S := fun j => some g = some j) hB)
  have c7 := r8_at (i := 7) (Kd.R_below h hB) (by simp)
  clear h hB
  go_enter Tryd.func58, Tryd.ntmps58
  go_wp2_with (first | ((with_reducible refine gate_store (t := 5) (p := 13) rfl ?_); refine store8 g (w0 := w) rfl rfl 5 (.tmp 13) (.tmp 12) rfl 135 g 8 8 0 _ _ rfl rfl infoB1 R0.out (by omega) B0.out ?_; intro W1 hR hB hG; have R1 := Aside0.mk hR; have B1 := Aside0.mk hB; have T1 := Aside0.mk (T0.out.trans (Tch.of_grown hG)); clear hR hB hG) | ((with_reducible refine gate_store (t := 5) (p := 18) rfl ?_); refine store8 g (w0 := w) rfl rfl 5 (.tmp 18) (.tmp 17) rfl 135 g 8 8 1 _ _ rfl rfl infoB1 R1.out (by omega) B1.out ?_; intro W2 hR hB hG; have R2 := Aside0.mk hR; have B2 := Aside0.mk hB; have T2 := Aside0.mk (T1.out.trans (Tch.of_grown hG)); clear hR hB hG) | ((with_reducible refine gate_store (t := 5) (p := 23) rfl ?_); refine store8 g (w0 := w) rfl rfl 5 (.tmp 23) (.tmp 22) rfl 135 g 8 8 2 _ _ rfl rfl infoB1 R2.out (by omega) B2.out ?_; intro W3 hR hB hG; have R3 := Aside0.mk hR; have B3 := Aside0.mk hB; have T3 := Aside0.mk (T2.out.trans (Tch.of_grown hG)); clear hR hB hG) | ((with_reducible refine gate_store (t := 5) (p := 28) rfl ?_); refine store8 g (w0 := w) rfl rfl 5 (.tmp 28) (.tmp 27) rfl 135 g 8 8 3 _ _ rfl rfl infoB1 R3.out (by omega) B3.out ?_; intro W4 hR hB hG; have R4 := Aside0.mk hR; have B4 := Aside0.mk hB; have T4 := Aside0.mk (T3.out.trans (Tch.of_grown hG)); clear hR hB hG) | ((with_reducible refine gate_store (t := 5) (p := 33) rfl ?_); refine store8 g (w0 := w) rfl rfl 5 (.tmp 33) (.tmp 32) rfl 135 g 8 8 4 _ _ rfl rfl infoB1 R4.out (by omega) B4.out ?_; intro W5 hR hB hG; have R5 := Aside0.mk hR; have B5 := Aside0.mk hB; have T5 := Aside0.mk (T4.out.trans (Tch.of_grown hG)); clear hR hB hG) | ((with_reducible refine gate_store (t := 5) (p := 38) rfl ?_); refine store8 g (w0 := w) rfl rfl 5 (.tmp 38) (.tmp 37) rfl 135 g 8 8 5 _ _ rfl rfl infoB1 R5.out (by omega) B5.out ?_; intro W6 hR hB hG; have R6 := Aside0.mk hR; have B6 := Aside0.mk hB; have T6 := Aside0.mk (T5.out.trans (Tch.of_grown hG)); clear hR hB hG) | ((with_reducible refine gate_store (t := 5) (p := 43) rfl ?_); refine store8 g (w0 := w) rfl rfl 5 (.tmp 43) (.tmp 42) rfl 135 g 8 8 6 _ _ rfl rfl infoB1 R6.out (by omega) B6.out ?_; intro W7 hR hB hG; have R7 := Aside0.mk hR; have B7 := Aside0.mk hB; have T7 := Aside0.mk (T6.out.trans (Tch.of_grown hG)); clear hR hB hG) | ((with_reducible refine gate_store (t := 5) (p := 47) rfl ?_); refine store8 g (w0 := w) rfl rfl 5 (.tmp 47) (.tmp 46) rfl 135 g 8 8 7 _ _ rfl rfl infoB1 R7.out (by omega) B7.out ?_; intro W8 hR hB hG; have R8 := Aside0.mk hR; have B8 := Aside0.mk hB; have T8 := Aside0.mk (T7.out.trans (Tch.of_grown hG)); clear hR hB hG))
  go_returns
  exact ⟨rfl, R8.out, B8.out, T8.out.mono (fun j e => (Option.some.inj e).symm)⟩
end Go.Proofs.YtjdnnpfhlkgooaaDoor.Rd

/- What the sink's writes leave: the rows of other types. serializeHeader with that. -/
set_option linter.unusedVariables false
set_option linter.unusedSimpArgs false
namespace Go.Proofs.YtjdnnpfhlkgooaaDoor.Rd
open Go.RowKit Go.Proofs.YtjdnnpfhlkgooaaDoorW.PrintWords Go.Proofs.YtjdnnpfhlkgooaaDoorW.PrintMore Go.Proofs.YtjdnnpfhlkgooaaDoor.Kit

/-- Blocks of another type than bytes, but the sink's own, are as they were. -/
def Keep (s : Nat) (w w' : World) : Prop := ∀ (j : Nat) (cs : Array Value) (t : TypeId), w.heap[j]? = some (.cells cs t (0, 0)) → t ≠ 5 → j ≠ s → w'.heap[j]? = some (.cells cs t (0, 0))
theorem Keep.refl (s : Nat) (w : World) : Keep s w w := fun _ _ _ h _ _ => h
theorem Keep.trans {s : Nat} {w w1 w2 : World} (h : Keep s w w1) (k : Keep s w1 w2) : Keep s w w2 := fun j cs t a b c => k j cs t (h j cs t a b c) b c
theorem Keep.below {s : Nat} {w w1 : World} (h : Below w.heap.size w w1) : Keep s w w1 := fun j cs t a _ _ => (h.block j (blk_lt a)).trans a
theorem keep_of {base : Nat} {w w1 : World} {s : Nat} {v : Value} {l : List Int} (h : Snk base w s v l) (hT : Tch (fun j => j = s ∨ v.ownBlock = some j) w w1) : Keep s w w1 := fun j cs t a b c =>
  (hT.block j (blk_lt a) (fun q => q.elim c (fun q => Kd.R_ne h.rd a (fun e => b e.symm) q.symm))).trans a
/-- A sink, whatever its data's row. -/
def SnkL (base : Nat) (w : World) (s : Nat) (l : List Int) : Prop := ∃ v, Snk base w s v l
theorem SnkL.below {base : Nat} {w w1 : World} {s : Nat} {l : List Int} (h : SnkL base w s l) (hB : Below w.heap.size w w1) : SnkL base w1 s l := by
  obtain ⟨v, h⟩ := h
  exact ⟨v, h.below hB⟩
theorem SnkL.off {base : Nat} {w w1 : World} {s : Nat} {l : List Int} {g : Nat} {cs : Array Value} {t : TypeId} (h : SnkL base w s l) (hg : w.heap[g]? = some (.cells cs t (0, 0))) (ht : t ≠ 5) (hs : g ≠ s) (hT : Tch (fun j => j = g) w w1) : SnkL base w1 s l := by
  obtain ⟨v, h⟩ := h
  exact ⟨v, h.kept hT (fun e => hs e.symm) (fun k e q => Kd.R_ne h.rd hg (fun e => ht e.symm) (by rw [← q]; exact e.symm))⟩
theorem w_calls {base : Nat} {w : World} {s : Nat} {l : List Int} (h : SnkL base w s l) {A : Option Addr} {m c : Nat} {ys : List Int} (hy : C8 w A ys) (hm : m = ys.length) (hl : l.length + ys.length ≤ 140737488355328) :
    Calls Tryd.prog 115 #[.pointer (some ⟨s, 0, none⟩), .slice A m c] w fun en w' => en = .returned (.tuple #[.int .i64 (m : Int), .nilIface]) ∧ SnkL base w' s (l ++ ys) ∧ Keep s w w' ∧ Tch (fun j => base ≤ j) w w' := by
  obtain ⟨v, h⟩ := h
  refine (snk_write h hy hm hl).mono ?_
  rintro en w1 ⟨rfl, hS, hT⟩
  exact ⟨rfl, hS, keep_of h hT, h.tch hT⟩
set_option maxHeartbeats 1600000 in
set_option maxRecDepth 100000 in
theorem shk_calls {base : Nat} {w : World} {s : Nat} {l : List Int} (h : SnkL base w s l) (hl : l.length ≤ 140737488354000) (p : Int) (n : Int) (h0 : 0 ≤ n) (h1 : n ≤ 4294967295) :
    Calls Tryd.prog 55 #[(.iface 98 (.pointer (some ⟨s, 0, none⟩))), .int .u8 p, .int .i64 n] w fun en w' => en = .returned .nilIface ∧ SnkL base w' s (l ++ (tagB p :: lenB n)) ∧ Keep s w w' ∧ Tch (fun j => base ≤ j) w w' := by
  obtain ⟨v, h⟩ := h
  have H := Aside0.mk h
  have LL := Aside0.mk hl
  clear h hl
  go_enter Tryd.func55, Tryd.ntmps55
  go_wp2_with (first | (go_at_call 69; (with_reducible refine (sty_calls H.out (by have := LL.out; omega) p).mono ?_); rintro en w1 ⟨rfl, hS, hT⟩; obtain ⟨v1, hs⟩ := hS; have S1 := Aside0.mk hs; have T1 := Aside0.mk (And.intro (H.out.tch hT) (keep_of H.out hT)); clear hs hT) | (go_at_call 70; (with_reducible refine (sl_calls S1.out (by have := LL.out; simp; omega) n h0 h1).mono ?_); rintro en w2 ⟨rfl, hS, hT⟩; obtain ⟨v2, hs⟩ := hS; have S2 := Aside0.mk hs; have T2 := Aside0.mk (And.intro (S1.out.tch hT) (keep_of S1.out hT)); clear hs hT))
  go_ret
  exact ⟨rfl, ⟨v2, by have q := S2.out; rw [List.append_assoc] at q; exact q⟩, T1.out.2.trans T2.out.2, T1.out.1.trans T2.out.1⟩
end Go.Proofs.YtjdnnpfhlkgooaaDoor.Rd

/- spec.SameBytes of two slices that read alike. -/
set_option linter.unusedVariables false
set_option linter.unusedSimpArgs false
namespace Go.Proofs.YtjdnnpfhlkgooaaDoor.Kit
open Go.RowKit Go.Proofs.YtjdnnpfhlkgooaaDoorW.PrintWords Go.Proofs.YtjdnnpfhlkgooaaDoorW.PrintMore

set_option maxHeartbeats 800000 in
set_option maxRecDepth 100000 in
theorem same_calls {A B : Option Addr} {c d n m : Nat} {l l' : List Int} {w : World} (hA : C8 w A l) (hB : C8 w B l') (e : l = l') (hn : n = l.length) (hm : m = l'.length) :
    Calls Tryd.prog 11 #[.slice A n c, .slice B m d] w fun e w' => e = .returned (.bool true) ∧ Below w.heap.size w w' := by
  subst e hn hm
  have HA := Aside0.mk hA
  have HB := Aside0.mk hB
  have hmax : l.length ≤ 9223372036854775807 := Kd.C_max hA
  clear hA hB
  go_enter Tryd.func11, Tryd.ntmps11
  go_wp2
  go_loopw [13] (fun i wr => ∃ k : Nat, k ≤ l.length ∧ i = .int .i64 (k : Int) ∧ Aside0 (∃ n, wr = w.drewN n)) (fun i _ => l.length - (intOf i).toNat)
  case atStart => exact ⟨0, Nat.zero_le _, rfl, ⟨⟨0, rfl⟩⟩⟩
  case round =>
    obtain ⟨k, hk, rfl, ⟨nd, rfl⟩⟩ := hrel
    by_cases hlt : k < l.length
    · obtain ⟨ad, rfl, hx⟩ := Kd.at_int HA.out (k : Int) (by omega) (by omega)
      obtain ⟨bd, rfl, hy⟩ := Kd.at_int HB.out (k : Int) (by omega) (by omega)
      rw [Int.toNat_natCast] at hx hy
      have hlt' : (k : Int) < (l.length : Int) := by omega
      have h0 : (0 : Int) ≤ (k : Int) := by omega
      have ht : ((k : Int)).toNat = k := by omega
      go_wp2
      go_quiet (fail)
      go_wp2
      go_roundw
      case rel => exact ⟨k + 1, hlt, by go_num, ⟨⟨_, by first | rfl | (simp only [World.drewN_drewN]; rfl)⟩⟩⟩
      case measure => simp [intOf]; omega
    · go_wp2
      go_ret
      exact ⟨rfl, pw_below_drewN (Below.refl _ _) _⟩
end Go.Proofs.YtjdnnpfhlkgooaaDoor.Kit
