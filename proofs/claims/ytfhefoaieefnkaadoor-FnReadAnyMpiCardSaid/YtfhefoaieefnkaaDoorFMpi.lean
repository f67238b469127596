/- laws.FnReadAnyMpi. -/
import Derived.Test.YtfhefoaieefnkaaDoorRmi
import Derived.Test.YtfhefoaieefnkaaDoorSame
import Derived.Test.YtfhefoaieefnkaaDoorPFnReadAnyMpix1
set_option linter.unusedVariables false
set_option linter.unusedSimpArgs false
namespace Go.Proofs.YtfhefoaieefnkaaDoor.Rd
open Go.RowKit Go.Proofs.YtfhefoaieefnkaaDoorW.PrintWords Go.Proofs.YtfhefoaieefnkaaDoorW.PrintMore Go.Proofs.YtfhefoaieefnkaaDoor.Kit Go.Proofs.YtfhefoaieefnkaaDoor.PFnReadAnyMpi

theorem i64_or8 (a b : Nat) (ha : a < 256) (hb : b < 256) : Go.bits .or .i64 (wrap64 ((a : Int) * 256)) (wrap64 (b : Int)) = (a : Int) * 256 + (b : Int) := by
  rw [wrap64_id (by omega) (by omega), wrap64_id (by omega) (by omega)]
  exact i64_join 8 ((a : Int) * 256) (b : Int) (by omega) (by omega) (by omega) (by omega) (by omega) (by omega)
theorem num2 (a b : Nat) (ha : a < 256) (hb : b < 256) : spec_Number.f 3 [(a : Int), (b : Int)] = some ((a : Int) * 256 + (b : Int)) := by
  have i1 : wrap64 (0 + 1) = 1 := wrap64_id (by omega) (by omega)
  have i2 : wrap64 (1 + 1) = 2 := wrap64_id (by omega) (by omega)
  have ln : (([(a : Int), (b : Int)] : List Int).length : Int) = 2 := rfl
  have r0 : rd [(a : Int), (b : Int)] 0 = (a : Int) := rfl
  have r1 : rd [(a : Int), (b : Int)] 1 = (b : Int) := rfl
  have z0 : Go.bits .or .i64 (wrap64 (0 * 256)) (wrap64 (a : Int)) = (a : Int) := (i64_or8 0 a (by omega) ha).trans (by omega)
  unfold spec_Number.f
  rw [ln, spec_Number.l0, if_pos (by decide), if_pos (by decide), if_pos (by rw [ln]; decide), r0, z0, i1,
    spec_Number.l0, if_pos (by decide), if_pos (by decide), if_pos (by rw [ln]; decide), r1, i64_or8 a b ha hb, i2,
    spec_Number.l0, if_neg (by decide)]
theorem sm_short {l : List Int} (h : l.length < 2) : spec_ReadMPI.f 3 l = some (0, [], 0, 1) := by
  unfold spec_ReadMPI.f
  rw [if_pos (by omega)]
theorem sm_cut {a b m : Nat} {t : List Int} (ha : a < 256) (hb : b < 256) (hm : m = (a * 256 + b + 7) / 8) (ht : t.length < m) : spec_ReadMPI.f 3 ((a : Int) :: (b : Int) :: t) = some (0, [], 0, 1) := by
  have ln : (((a : Int) :: (b : Int) :: t).length : Int) = (t.length : Int) + 2 := by simp; omega
  have tk : ((a : Int) :: (b : Int) :: t).take 2 = [(a : Int), (b : Int)] := rfl
  have w1 : wrap64 ((a : Int) * 256 + (b : Int) + 7) = ((a * 256 + b + 7 : Nat) : Int) := (wrap64_id (by omega) (by omega)).trans (by omega)
  have w2 : wrap64 (Int.tdiv ((a * 256 + b + 7 : Nat) : Int) 8) = (m : Int) := by
    rw [show Int.tdiv ((a * 256 + b + 7 : Nat) : Int) 8 = (m : Int) from by rw [Int.tdiv_eq_ediv_of_nonneg (by omega)]; omega]
    exact wrap64_id (by omega) (by omega)
  have w3 : wrap64 (2 + (m : Int)) = 2 + (m : Int) := wrap64_id (by omega) (by omega)
  unfold spec_ReadMPI.f
  rw [ln, if_neg (by omega), if_pos (by omega), tk, num2 a b ha hb, Option.bind_some, w1, w2, w3, if_pos (by omega)]
theorem sm_fine {a b m : Nat} {t : List Int} (ha : a < 256) (hb : b < 256) (hm : m = (a * 256 + b + 7) / 8) (ht : m ≤ t.length) : spec_ReadMPI.f 3 ((a : Int) :: (b : Int) :: t) = some ((a : Int) * 256 + (b : Int), t.take m, 2 + (m : Int), 0) := by
  have ln : (((a : Int) :: (b : Int) :: t).length : Int) = (t.length : Int) + 2 := by simp; omega
  have tk : ((a : Int) :: (b : Int) :: t).take 2 = [(a : Int), (b : Int)] := rfl
  have w1 : wrap64 ((a : Int) * 256 + (b : Int) + 7) = ((a * 256 + b + 7 : Nat) : Int) := (wrap64_id (by omega) (by omega)).trans (by omega)
  have w2 : wrap64 (Int.tdiv ((a * 256 + b + 7 : Nat) : Int) 8) = (m : Int) := by
    rw [show Int.tdiv ((a * 256 + b + 7 : Nat) : Int) 8 = (m : Int) from by rw [Int.tdiv_eq_ediv_of_nonneg (by omega)]; omega]
    exact wrap64_id (by omega) (by omega)
  have w3 : wrap64 (2 + (m : Int)) = 2 + (m : Int) := wrap64_id (by omega) (by omega)
  have tk2 : (((a : Int) :: (b : Int) :: t).take (2 + (m : Int)).toNat).drop 2 = t.take m := by
    rw [show (2 + (m : Int)).toNat = m + 2 by omega]; rfl
  unfold spec_ReadMPI.f
  rw [ln, if_neg (by omega), if_pos (by omega), tk, num2 a b ha hb, Option.bind_some, w1, w2, w3, if_neg (by omega), Option.bind_some, if_pos (by omega), if_pos (by omega), tk2, if_pos (by rw [List.length_take, List.length_nil]; omega), List.nil_append]
set_option maxRecDepth 100000 in
theorem mpi_big {w : World} {A : Option Addr} {c n : Nat} {split : Int} (hz : 2147483647 < n) : Calls Tryd.prog 5 #[.slice A n c, .int .i64 split] w fun e w' => e = .returned (.bool true) ∧ Below w.heap.size w w' := by
  go_enter Tryd.func5, Tryd.ntmps5
  go_wp2_with fail
  go_ret
  exact ⟨rfl, Below.refl _ _⟩
set_option maxRecDepth 100000 in
theorem mpi_mid {w : World} {A : Option Addr} {c n : Nat} {split : Int} (hz : ¬ 2147483647 < n) (hy : 1048576 < n) : Calls Tryd.prog 5 #[.slice A n c, .int .i64 split] w fun e w' => e = .returned (.bool true) ∧ Below w.heap.size w w' := by
  go_enter Tryd.func5, Tryd.ntmps5
  go_wp2_with fail
  go_ret
  exact ⟨rfl, Below.refl _ _⟩
set_option maxRecDepth 100000 in
theorem mpi_no {w : World} {A : Option Addr} {c n : Nat} {l : List Int} {split : Int} (hr : C8 w A l) (hc : l.length ≤ c) (hn : n = l.length) (hz : ¬ 2147483647 < n) (hy : ¬ 1048576 < n) (hsp : spec_ReadMPI.f 3 l = some (0, [], 0, 1)) : Calls Tryd.prog 5 #[.slice A n c, .int .i64 split] w fun e w' => e = .returned (.bool true) ∧ Below w.heap.size w w' := by
  have HR := Aside0.mk hr
  have HC := Aside0.mk hc
  have HN := Aside0.mk hn
  have HS := Aside0.mk hsp
  clear hr hc hn hsp
  go_enter Tryd.func5, Tryd.ntmps5
  go_wp2_with fail
  rw [HN.out]
  refine (spec_ReadMPI.calls 3 A c l _ _ _ _ w HR.out HC.out HS.out).mono ?_
  rintro en w2 ⟨v, rfl, hR, hB⟩
  have B := Aside0.mk hB
  clear hR hB
  go_wp2_with fail
  go_ret
  exact ⟨rfl, B.out⟩
set_option maxHeartbeats 3200000 in
set_option maxRecDepth 100000 in
theorem mpi_fine {w : World} {A : Option Addr} {c n a b bn m : Nat} {t : List Int} {split : Int} {aE aU : Addr} (hr : C8 w A ((a : Int) :: (b : Int) :: t)) (hc : ((a : Int) :: (b : Int) :: t).length ≤ c) (hn : n = ((a : Int) :: (b : Int) :: t).length) (hby : Bytes ((a : Int) :: (b : Int) :: t)) (hz : ¬ 2147483647 < n) (hy : ¬ 1048576 < n) (ha : a < 256) (hb : b < 256) (hbn : bn = a * 256 + b) (hm : m = (bn + 7) / 8) (ht : m ≤ t.length) (hE : Env w w.heap.size aE aU) : Calls Tryd.prog 5 #[.slice A n c, .int .i64 split] w fun e w' => e = .returned (.bool true) ∧ Below w.heap.size w w' := by
  have HS := Aside0.mk (sm_fine (t := t) ha hb (hbn ▸ hm) ht)
  have EB := Aside0.mk (show (a : Int) * 256 + (b : Int) = (bn : Int) by omega)
  have HR := Aside0.mk hr
  have HC := Aside0.mk hc
  have HN := Aside0.mk hn
  have HE := Aside0.mk hE
  have HBY := Aside0.mk hby
  have HBN := Aside0.mk hbn
  have HM := Aside0.mk hm
  have LT := Aside0.mk (show (t.take m).length = m by rw [List.length_take]; omega)
  have LT2 := Aside0.mk (show ((a : Int) :: (b : Int) :: t.take m).length = m + 2 by simp; omega)
  have nm : 2 + m ≤ n := by rw [hn]; simp; omega
  have nc : 2 + m ≤ c := by rw [← hn] at hc; omega
  have nmi : 2 + (m : Int) ≤ (n : Int) := by omega
  have nci : 2 + (m : Int) ≤ (c : Int) := by omega
  have n0i : (0 : Int) ≤ 2 + (m : Int) := by omega
  have hsl : ∀ W : World, (Instr.slice 22 (.slice A n c) none (some (.int .i64 (2 + (m : Int)))) none).run Tryd.prog W = .ok (.slice A (m + 2) c) W := by
    intro W
    have q := (take8 (P := Tryd.prog) (t := 22) (e := 5) Tryd.underlying22 infoB A c ((a : Int) :: (b : Int) :: t) (m + 2) (by rw [← hn]; omega) hc hn).1 W
    rw [show ((m + 2 : Nat) : Int) = 2 + (m : Int) by omega] at q
    exact q
  have HX := Aside0.mk (show C8 w A ((a : Int) :: (b : Int) :: t.take m) from Kd.C_take (m := m + 2) hr (by simp; omega))
  clear hr hc hn hby hbn hm hE
  go_enter Tryd.func5, Tryd.ntmps5
  go_wp2_with fail
  rw [HN.out]
  refine (spec_ReadMPI.calls 3 A c _ _ _ _ _ w HR.out HC.out HS.out).mono ?_
  rw [← HN.out, EB.out]
  rintro en w1 ⟨v, rfl, hR, hB⟩
  obtain ⟨A3, c3, e3, hc3, hC3⟩ := r8_reads hR
  rw [LT.out] at e3 hc3
  subst e3
  have C3 := Aside0.mk hC3
  have B1 := Aside0.mk hB
  clear hR hB hC3 hc3
  go_wp2_with fail
  refine (rmi_ok (Kd.C_below HR.out B1.out) HC.out HN.out HBY.out ((HE.out.below B1.out).up B1.out.size) ha hb HBN.out HM.out ht).mono ?_
  rintro en w2 ⟨A1, c1, A2, c2, rfl, hX, hY, hB⟩
  obtain ⟨A4, c4, e4, _, hC4⟩ := r8_reads hX
  injection e4 with e41 e42 e43
  subst e41
  obtain ⟨A5, c5, e5, _, hC5⟩ := r8_reads hY
  injection e5 with e51 e52 e53
  subst e51
  have hq : (((bn : Int) / 256) :: ((bn : Int) % 256) :: t.take m) = ((a : Int) :: (b : Int) :: t.take m) := by
    have := EB.out
    rw [show (bn : Int) / 256 = (a : Int) by omega, show (bn : Int) % 256 = (b : Int) by omega]
  rw [hq] at hC5
  have C4 := Aside0.mk hC4
  have C5 := Aside0.mk hC5
  have B2 := Aside0.mk (below_then B1.out B1.out.size hB)
  have C6 := Aside0.mk (Kd.C_below C3.out hB)
  clear hX hY hB hC4 hC5 e42 e43 e52 e53 hq
  go_wp2_with fail
  have BX := Aside0.mk (below_alloc (Below.refl w2.heap.size w2) (.cells #[.slice A1 m c1, .int .i64 (bn : Int), .slice A2 (m + 2) c2, .int .i64 (2 + (m : Int))] 29))
  have q0 : (w2.alloc (.cells #[.slice A1 m c1, .int .i64 (bn : Int), .slice A2 (m + 2) c2, .int .i64 (2 + (m : Int))] 29)).cell? ⟨w2.heap.size, 0, none⟩ = some (.slice A1 m c1) ∧ (w2.alloc (.cells #[.slice A1 m c1, .int .i64 (bn : Int), .slice A2 (m + 2) c2, .int .i64 (2 + (m : Int))] 29)).cell? ⟨w2.heap.size, 1, none⟩ = some (.int .i64 (bn : Int)) ∧ (w2.alloc (.cells #[.slice A1 m c1, .int .i64 (bn : Int), .slice A2 (m + 2) c2, .int .i64 (2 + (m : Int))] 29)).cell? ⟨w2.heap.size, 2, none⟩ = some (.slice A2 (m + 2) c2) ∧ (w2.alloc (.cells #[.slice A1 m c1, .int .i64 (bn : Int), .slice A2 (m + 2) c2, .int .i64 (2 + (m : Int))] 29)).cell? ⟨w2.heap.size, 3, none⟩ = some (.int .i64 (2 + (m : Int))) := ⟨by simp [go_sem], by simp [go_sem], by simp [go_sem], by simp [go_sem]⟩
  have lt2 : w2.heap.size < (w2.alloc (.cells #[.slice A1 m c1, .int .i64 (bn : Int), .slice A2 (m + 2) c2, .int .i64 (2 + (m : Int))] 29)).heap.size := by simp
  go_region_held3 (fun w' => w'.cell? ⟨w2.heap.size, 0, none⟩ = some (.slice A1 m c1) ∧ w'.cell? ⟨w2.heap.size, 1, none⟩ = some (.int .i64 (bn : Int)) ∧ w'.cell? ⟨w2.heap.size, 2, none⟩ = some (.slice A2 (m + 2) c2) ∧ w'.cell? ⟨w2.heap.size, 3, none⟩ = some (.int .i64 (2 + (m : Int)))) (first | (exact q0) | (exact hS0) | go_keep) (first | (go_at_call 22; (with_reducible refine (same_calls (w := (w2.alloc (.cells #[.slice A1 m c1, .int .i64 (bn : Int), .slice A2 (m + 2) c2, .int .i64 (2 + (m : Int))] 29)).drew) (Kd.C_below C4.out (below_drew BX.out)) (Kd.C_below C6.out (below_drew BX.out)) rfl LT.out.symm LT.out.symm).mono ?_); rintro en w3 ⟨rfl, hB⟩; have hS0 : w3.cell? ⟨w2.heap.size, 0, none⟩ = some (.slice A1 m c1) ∧ w3.cell? ⟨w2.heap.size, 1, none⟩ = some (.int .i64 (bn : Int)) ∧ w3.cell? ⟨w2.heap.size, 2, none⟩ = some (.slice A2 (m + 2) c2) ∧ w3.cell? ⟨w2.heap.size, 3, none⟩ = some (.int .i64 (2 + (m : Int))) := ⟨(hB.cell (p := ⟨w2.heap.size, 0, none⟩) lt2).trans q0.1, (hB.cell (p := ⟨w2.heap.size, 1, none⟩) lt2).trans q0.2.1, (hB.cell (p := ⟨w2.heap.size, 2, none⟩) lt2).trans q0.2.2.1, (hB.cell (p := ⟨w2.heap.size, 3, none⟩) lt2).trans q0.2.2.2⟩; have BY := Aside0.mk (below_then (below_drew BX.out) (below_drew BX.out).size hB); clear hB) | (go_at_call 22; (with_reducible refine (same_calls (w := w3) (Kd.C_below C5.out BY.out) (Kd.C_below HX.out (below_then B2.out B2.out.size BY.out)) rfl LT2.out.symm LT2.out.symm).mono ?_); rintro en w4 ⟨rfl, hB⟩; have q1 := hS0; have lt3 := World.block_lt_of_cell? w3 _ q1.1; have hS0 : w4.cell? ⟨w2.heap.size, 0, none⟩ = some (.slice A1 m c1) ∧ w4.cell? ⟨w2.heap.size, 1, none⟩ = some (.int .i64 (bn : Int)) ∧ w4.cell? ⟨w2.heap.size, 2, none⟩ = some (.slice A2 (m + 2) c2) ∧ w4.cell? ⟨w2.heap.size, 3, none⟩ = some (.int .i64 (2 + (m : Int))) := ⟨(hB.cell (p := ⟨w2.heap.size, 0, none⟩) lt3).trans q1.1, (hB.cell (p := ⟨w2.heap.size, 1, none⟩) lt3).trans q1.2.1, (hB.cell (p := ⟨w2.heap.size, 2, none⟩) lt3).trans q1.2.2.1, (hB.cell (p := ⟨w2.heap.size, 3, none⟩) lt3).trans q1.2.2.2⟩; have BZ := Aside0.mk (below_then BY.out BY.out.size hB); clear hB))
  go_wp2_with fail
  go_ret
  exact ⟨rfl, below_then B2.out B2.out.size BZ.out⟩
theorem law_mpi (A : Option Addr) (c : Nat) (l : List Int) (split : Int) (w : World) (hr : C8 w A l) (hc : l.length ≤ c) (hm : l.length ≤ maxLen) (hw : ∀ x ∈ l, (Lit.int .u8 x).wf = true) (hs : (Lit.int .i64 split).wf = true) {aE aU : Addr} (hE : Env w w.heap.size aE aU) :
    Calls Tryd.prog 5 #[.slice A l.length c, .int .i64 split] w fun e w' => e = .returned (.bool true) ∧ Below w.heap.size w w' := by
  by_cases hz : 2147483647 < l.length
  · exact mpi_big hz
  by_cases hy : 1048576 < l.length
  · exact mpi_mid hz hy
  have hb : Bytes l := bytes_of hw
  clear hw hm
  match l, hr, hc, hb, hz, hy with
  | [], hr, hc, hb, hz, hy => exact mpi_no hr hc rfl hz hy (sm_short (by simp))
  | [_], hr, hc, hb, hz, hy => exact mpi_no hr hc rfl hz hy (sm_short (by simp))
  | a :: b :: t, hr, hc, hb, hz, hy =>
    have h0 := hb 0
    have h1 := hb 1
    simp only [List.getD_cons_zero, List.getD_cons_succ] at h0 h1
    obtain ⟨a, rfl⟩ := Int.eq_ofNat_of_zero_le h0.1
    obtain ⟨b, rfl⟩ := Int.eq_ofNat_of_zero_le h1.1
    by_cases ht : (a * 256 + b + 7) / 8 ≤ t.length
    · exact mpi_fine hr hc rfl hb hz hy (by omega) (by omega) rfl rfl ht hE
    · exact mpi_no hr hc rfl hz hy (sm_cut (by omega) (by omega) rfl (by omega))
end Go.Proofs.YtfhefoaieefnkaaDoor.Rd
