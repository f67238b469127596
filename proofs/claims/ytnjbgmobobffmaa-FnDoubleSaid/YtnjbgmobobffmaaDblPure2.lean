/- Twice an element of the field of 2^128: what the program and the standard make of 16 bytes is one list. -/
import Derived.Test.YtnjbgmobobffmaaDblPure
namespace Go.Proofs.Ytnjbgmobobffmaa.Dbl
open Go.RowKit Go.Proofs.Ytnjbgmobobffmaa.PFnDouble Go.Proofs.YtnjbgmobobffmaaW.PrintWords Go.Proofs.YtnjbgmobobffmaaW.PrintLast Go.Proofs.YtnjbgmobobffmaaW.PrintMore

/-- Twice an element of the field. -/
def dbl (l : List Int) : List Int := (sh l).set 15 (Go.bits .xor .u8 (rd (sh l) 15) ((rd l 0 / 128 * 135) % 256))

theorem set_same (l : List Int) (i : Nat) (hi : i < l.length) (x : Int) (h : x = l.getD i 0) : l.set i x = l :=
  ext_getD (by simp) (fun j hj => by
    rw [List.length_set] at hj
    rw [getD_set _ _ _ _ hi]
    by_cases hji : j = i
    · rw [if_pos hji, h, hji]
    · rw [if_neg hji])

theorem bit0_some (l : List Int) (hb : Bytes l) (h : l.length = 16) : spec_bitAt.f l 0 = some (l.getD 0 0 / 128) := by
  have a := hb 0
  unfold spec_bitAt.f
  have e1 : wrap64 (8 * (l.length : Int)) = 128 := by rw [h, wrap64_id (by decide) (by decide)]; rfl
  have e2 : wrap64 (Int.tdiv 0 8) = ((0 : Nat) : Int) := by rw [wrap64_id (by decide) (by decide)]; rfl
  have e3 : wrap64 (7 - Int.tmod 0 8) = ((7 : Nat) : Int) := by rw [wrap64_id (by decide) (by decide)]; rfl
  have c1 : ((0 : Nat) : Int) < (l.length : Int) := by omega
  have c2 : 0 ≤ l.getD 0 0 / 2 ^ 7 := by simp only [Int.reducePow]; omega
  have c3 : l.getD 0 0 / 2 ^ 7 < 256 := by simp only [Int.reducePow]; omega
  rw [e1, if_neg (by decide), e2, e3, if_pos (by decide), if_pos c1, if_pos (by decide), rd_nat, shr_u8 _ 7 (by decide), and_one _ c2 c3]
  congr 1
  simp only [Int.reducePow]
  omega

theorem xor_zero (x : Int) (h0 : 0 ≤ x) (h1 : x < 256) : Go.bits .xor .u8 x 0 = x := by
  obtain ⟨n, rfl⟩ : ∃ n : Nat, x = (n : Int) := ⟨x.toNat, by omega⟩
  have hx := Go.u8_xor_nat n 0 (by omega) (by decide)
  rw [Nat.xor_zero] at hx
  exact hx

theorem doubled_some (l : List Int) (hb : Bytes l) (h : l.length = 16) : spec_Doubled.f (8 * l.length + 1) l = some (dbl l) := by
  have hl : (sh l).length = 16 := by rw [sh_length, h]
  have a := hb 0
  have r15 := val_range hb 15
  have v15 : (sh l).getD 15 0 = val l 15 := sh_getD l 15 (by omega)
  have e : wrap64 (((sh l).length : Int) - 1) = ((15 : Nat) : Int) := by rw [hl, wrap64_id (by decide) (by decide)]; rfl
  have c1 : ((15 : Nat) : Int) < ((sh l).length : Int) := by omega
  have c0 : (0 : Int) ≤ ((15 : Nat) : Int) := by omega
  have r0 : rd l 0 = l.getD 0 0 := rd_nat l 0
  have r1 : rd (sh l) 15 = (sh l).getD 15 0 := rd_nat (sh l) 15
  unfold spec_Doubled.f dbl
  rw [shifted_some l hb (by omega), Option.bind_some, bit0_some l hb h, Option.bind_some]
  rw [e, if_pos c0, if_pos c1, Int.toNat_natCast, rd_nat, r0, r1]
  clear e r0 r1 c0
  generalize l.getD 0 0 = q at a ⊢
  have h2 : q / 128 = 0 ∨ q / 128 = 1 := by omega
  rcases h2 with h2 | h2
  · rw [h2, if_neg (by decide), show (0 : Int) * 135 % 256 = 0 from by decide]
    congr 1
    exact (set_same _ 15 (by omega) _ (by rw [v15]; exact xor_zero _ (by omega) (by omega))).symm
  · rw [h2, if_pos (by decide), show (1 : Int) * 135 % 256 = 135 from by decide]
theorem dbl_length (l : List Int) : (dbl l).length = l.length := by unfold dbl; rw [List.length_set, sh_length]
end Go.Proofs.Ytnjbgmobobffmaa.Dbl
