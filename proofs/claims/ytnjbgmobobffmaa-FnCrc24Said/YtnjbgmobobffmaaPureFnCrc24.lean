/- The sum of any at most 4096 bytes, from any beginning of 24 bits on, is the one of the polynomial 864CFB, the highest bit first. For every beginning and all bytes. -/
import Derived.Test.YtnjbgmobobffmaaPFnCrc24x1
import Derived.Laws.BitsAllLaws
namespace Go.Proofs.Ytnjbgmobobffmaa.Pure
open Go.RowKit Go.Proofs.Ytnjbgmobobffmaa.PFnCrc24 Go.Proofs.YtnjbgmobobffmaaW.PrintWords Go.Proofs.YtnjbgmobobffmaaW.PrintLast Go.Proofs.YtnjbgmobobffmaaW.PrintMore

namespace Crc
theorem wf_u8 {a : Int} (h : (Lit.int .u8 a).wf = true) : 0 ≤ a ∧ a ≤ 255 := by
  simp [Lit.wf, IntKind.min, IntKind.max, IntKind.signed, IntKind.bits] at h
  omega
theorem wf_u32 {a : Int} (h : (Lit.int .u32 a).wf = true) : 0 ≤ a ∧ a ≤ 4294967295 := by
  simp [Lit.wf, IntKind.min, IntKind.max, IntKind.signed, IntKind.bits] at h
  omega
theorem xor_rot (r y p : Nat) : (r ^^^ p) ^^^ y = (r ^^^ y) ^^^ p := by
  rw [Nat.xor_assoc, Nat.xor_comm p y, ← Nat.xor_assoc]

/-- One step on the program's side, of numbers below 2^24. -/
def sI (x : Nat) : Nat := if (2 * x) &&& 16777216 = 0 then 2 * x else (2 * x) ^^^ 25578747
/-- One step on the standard's side. -/
def sS (r b : Nat) : Nat := if b = r / 8388608 % 2 then 2 * r % 16777216 else (2 * r % 16777216) ^^^ 8801531

theorem nat_bit (i x : Nat) : x &&& 2 ^ i = x / 2 ^ i % 2 * 2 ^ i := by
  apply Nat.eq_of_testBit_eq
  intro j
  rw [Nat.testBit_and, Nat.testBit_two_pow, Nat.testBit_mul_two_pow]
  by_cases h : i = j
  · subst h
    simp [Nat.testBit, Nat.shiftRight_eq_div_pow]
  · simp [h]
    intro hle
    have hlt : 1 ≤ j - i := by omega
    obtain ⟨d, hd⟩ : ∃ d, j - i = d + 1 := ⟨j - i - 1, by omega⟩
    rw [hd, Nat.testBit_succ]
    have : x / 2 ^ i % 2 / 2 = 0 := by omega
    rw [this]; simp

theorem sI_eq (x : Nat) (hx : x < 16777216) : sI x = if x / 8388608 % 2 = 0 then 2 * x % 16777216 else (2 * x % 16777216) ^^^ 8801531 := by
  unfold sI
  have e : (2 * x) &&& 16777216 = (2 * x) / 16777216 % 2 * 16777216 := nat_bit 24 (2 * x)
  have e2 : 2 * x / 16777216 = x / 8388608 := by omega
  rw [e, e2]
  by_cases h : x / 8388608 % 2 = 0
  · rw [if_pos (by omega), if_pos h]; omega
  · rw [if_neg (by omega), if_neg h]
    have h1 : 2 * x = 16777216 + 2 * x % 16777216 := by omega
    have hor : 16777216 + 2 * x % 16777216 = 16777216 ^^^ (2 * x % 16777216) := by
      apply Nat.eq_of_testBit_eq
      intro j
      have hlt : 2 * x % 16777216 < 2 ^ 24 := Nat.mod_lt _ (by decide)
      have := Nat.two_pow_add_eq_or_of_lt hlt 1
      rw [Nat.mul_one] at this
      rw [show (16777216 : Nat) = 2 ^ 24 from rfl] at *
      rw [this, Nat.testBit_or, Nat.testBit_xor, Nat.testBit_two_pow]
      by_cases hj : 24 = j
      · subst hj
        rw [Nat.testBit_lt_two_pow hlt]; simp
      · simp [hj]
    generalize 2 * x % 16777216 = m at *
    rw [h1, hor, show (25578747 : Nat) = 16777216 ^^^ 8801531 from rfl, Nat.xor_comm 16777216 m, Nat.xor_assoc, ← Nat.xor_assoc 16777216, Nat.xor_self, Nat.zero_xor]

theorem step_both (r y : Nat) (hr : r < 16777216) (hy : y < 16777216) :
    sI (r ^^^ y) = sS r (y / 8388608 % 2) ^^^ (2 * y % 16777216) ∧ sS r (y / 8388608 % 2) < 16777216 := by
  have hx : r ^^^ y < 16777216 := Nat.xor_lt_two_pow (n := 24) hr hy
  have hm : 2 * (r ^^^ y) % 16777216 = (2 * r % 16777216) ^^^ (2 * y % 16777216) := by
    have h := @Nat.shiftLeft_xor_distrib 1 r y
    simp only [Nat.shiftLeft_eq, Nat.pow_one] at h
    have e1 : 2 * (r ^^^ y) = (2 * r) ^^^ (2 * y) := by rw [Nat.mul_comm, h, Nat.mul_comm r, Nat.mul_comm y]
    rw [e1]
    exact @Nat.xor_mod_two_pow (2 * r) (2 * y) 24
  have hd : (r ^^^ y) / 8388608 = (r / 8388608) ^^^ (y / 8388608) := @Nat.xor_div_two_pow r y 23
  have hr1 : r / 8388608 < 2 := by omega
  have hy1 : y / 8388608 < 2 := by omega
  have hmr : 2 * r % 16777216 < 16777216 := Nat.mod_lt _ (by decide)
  constructor
  · rw [sI_eq _ hx, hm, hd]
    unfold sS
    generalize hrr : r / 8388608 = a at *
    generalize hyy : y / 8388608 = b at *
    have ha : a = 0 ∨ a = 1 := by omega
    have hb : b = 0 ∨ b = 1 := by omega
    rcases ha with rfl | rfl <;> rcases hb with rfl | rfl <;> simp
    · exact (xor_rot _ _ _).symm
    · exact (xor_rot _ _ _).symm
  · unfold sS
    split
    · exact hmr
    · exact Nat.xor_lt_two_pow (n := 24) hmr (by decide)

/-- What the byte b leaves of the number r, on both sides, with d bits to go. -/
theorem byte_both (k b : Nat) (hb : b < 256) (xs : List Int) (n j : Int) (d : Nat) : ∀ (r : Nat), d ≤ 8 → r < 16777216 →
    ∃ r' : Nat, r' < 16777216 ∧
      armor_crc24.l1 (k + d + 1) ((r ^^^ (b * 2 ^ (24 - d) % 16777216) : Nat) : Int) (8 - d : Int) xs n j = armor_crc24.l0 k (r' : Int) xs n (wrap64 (j + 1)) ∧
      spec_Crc24.l1 (k + d + 1) (r : Int) (b : Int) ((d : Int) - 1) xs n j = spec_Crc24.l0 k (r' : Int) xs n (wrap64 (j + 1)) := by
  induction d with
  | zero =>
    intro r _ hr
    refine ⟨r, hr, ?_, ?_⟩
    · simp only [armor_crc24.l1]
      rw [if_neg (by simp)]
      have : b * 2 ^ (24 - 0) % 16777216 = 0 := by simp only [Nat.sub_zero]; omega
      rw [this, Nat.xor_zero]
    · simp only [spec_Crc24.l1]
      rw [if_neg (by simp)]
  | succ d ih =>
    intro r hd hr
    have hy : b * 2 ^ (24 - (d + 1)) % 16777216 < 16777216 := Nat.mod_lt _ (by decide)
    obtain ⟨h1, h2⟩ := step_both r _ hr hy
    have hx : r ^^^ (b * 2 ^ (24 - (d + 1)) % 16777216) < 16777216 := Nat.xor_lt_two_pow (n := 24) hr hy
    have hbit : b * 2 ^ (24 - (d + 1)) % 16777216 / 8388608 % 2 = b / 2 ^ d % 2 := by
      have hd8 : d = 0 ∨ d = 1 ∨ d = 2 ∨ d = 3 ∨ d = 4 ∨ d = 5 ∨ d = 6 ∨ d = 7 := by omega
      rcases hd8 with rfl | rfl | rfl | rfl | rfl | rfl | rfl | rfl <;> simp only [Nat.reduceAdd, Nat.reduceSub, Nat.reducePow] <;> omega
    have hnext : 2 * (b * 2 ^ (24 - (d + 1)) % 16777216) % 16777216 = b * 2 ^ (24 - d) % 16777216 := by
      have hd8 : d = 0 ∨ d = 1 ∨ d = 2 ∨ d = 3 ∨ d = 4 ∨ d = 5 ∨ d = 6 ∨ d = 7 := by omega
      rcases hd8 with rfl | rfl | rfl | rfl | rfl | rfl | rfl | rfl <;> simp only [Nat.reduceAdd, Nat.reduceSub, Nat.reducePow] <;> omega
    rw [hbit, hnext] at h1
    rw [hbit] at h2
    obtain ⟨r', hr', a1, a2⟩ := ih (sS r (b / 2 ^ d % 2)) (by omega) h2
    refine ⟨r', hr', ?_, ?_⟩
    · rw [← a1, ← h1]
      generalize r ^^^ (b * 2 ^ (24 - (d + 1)) % 16777216) = x at *
      rw [show k + (d + 1) + 1 = (k + d + 1) + 1 from rfl]
      have e1 : ((x : Int) * 2) % 4294967296 = ((2 * x : Nat) : Int) := by omega
      have e2 : Go.bits .and .u32 (((x : Int) * 2) % 4294967296) 16777216 = ((2 * x &&& 16777216 : Nat) : Int) := by
        rw [e1]; exact Go.u32_and_nat _ _ (by omega) (by decide)
      have e3 : Go.bits .xor .u32 (((x : Int) * 2) % 4294967296) 25578747 = ((2 * x ^^^ 25578747 : Nat) : Int) := by
        rw [e1]; exact Go.u32_xor_nat _ _ (by omega) (by decide)
      have e4 : wrap64 (8 - ((d + 1 : Nat) : Int) + 1) = 8 - (d : Int) := by unfold wrap64; omega
      generalize k + d + 1 = F
      conv => lhs; simp only [armor_crc24.l1]
      rw [if_pos (by omega), e2, e3, e4, e1]
      unfold sI
      by_cases hz : 2 * x &&& 16777216 = 0
      · rw [if_pos hz, if_pos (by omega)]
      · rw [if_neg hz, if_neg (by omega)]
    · rw [← a2]
      rw [show k + (d + 1) + 1 = (k + d + 1) + 1 from rfl]
      have e0 : (((d + 1 : Nat) : Int) - 1) = (d : Int) := by omega
      have e1 : shr .u32 ((b : Int) % 4294967296) (d : Int) = ((b / 2 ^ d : Nat) : Int) := by
        unfold shr
        rw [show min ((d : Int)).toNat IntKind.u32.bits = d by simp [IntKind.bits]; omega, show (b : Int) % 4294967296 = (b : Int) by omega]
        push_cast; rfl
      have hbd : b / 2 ^ d < 4294967296 := Nat.lt_of_le_of_lt (Nat.div_le_self _ _) (by omega)
      have e2 : Go.bits .and .u32 (shr .u32 ((b : Int) % 4294967296) (d : Int)) 1 = ((b / 2 ^ d % 2 : Nat) : Int) := by
        rw [e1, ← Nat.and_one_is_mod]; exact Go.u32_and_nat _ 1 hbd (by decide)
      have e3 : Go.bits .and .u32 ((r : Int) / 8388608) 1 = ((r / 8388608 % 2 : Nat) : Int) := by
        rw [← Nat.and_one_is_mod, show (r : Int) / 8388608 = ((r / 8388608 : Nat) : Int) by omega]; exact Go.u32_and_nat _ 1 (by omega) (by decide)
      have e4 : Go.bits .and .u32 (((r : Int) * 2) % 4294967296) 16777215 = ((2 * r % 16777216 : Nat) : Int) := by
        rw [show ((r : Int) * 2) % 4294967296 = ((2 * r : Nat) : Int) by omega]
        have h := Go.u32_and_nat (2 * r) 16777215 (by omega) (by decide)
        rw [show ((16777215 : Nat) : Int) = 16777215 from rfl] at h
        rw [h, Nat.and_two_pow_sub_one_eq_mod (2 * r) 24]
      have hm : 2 * r % 16777216 < 16777216 := Nat.mod_lt _ (by decide)
      have e5 : Go.bits .xor .u32 (((2 * r % 16777216 : Nat) : Int)) 8801531 = ((2 * r % 16777216 ^^^ 8801531 : Nat) : Int) :=
        Go.u32_xor_nat _ 8801531 (by omega) (by decide)
      have e6 : wrap64 ((d : Int) - 1) = (d : Int) - 1 := by unfold wrap64; omega
      rw [e0]
      generalize k + d + 1 = F
      conv => lhs; simp only [spec_Crc24.l1]
      rw [if_pos (by omega), if_pos (by omega), e2, e3, e4, e5, e6]
      unfold sS
      by_cases hz : b / 2 ^ d % 2 = r / 8388608 % 2
      · rw [if_pos hz, if_pos (by omega)]
      · rw [if_neg hz, if_neg (by omega)]

theorem all_both (xs : List Int) (hw : ∀ x ∈ xs, (Lit.int .u8 x).wf = true) (hl : xs.length ≤ 4096) (m : Nat) : ∀ (r j : Nat), r < 16777216 → j + m = xs.length →
    ∃ t : Int, armor_crc24.l0 (10 * m + 1) (r : Int) xs (xs.length : Int) (j : Int) = some t ∧ spec_Crc24.l0 (10 * m + 1) (r : Int) xs (xs.length : Int) (j : Int) = some t := by
  induction m with
  | zero =>
    intro r j hr hj
    exact ⟨r, by simp only [armor_crc24.l0]; rw [if_neg (by omega)], by simp only [spec_Crc24.l0]; rw [if_neg (by omega)]⟩
  | succ m ih =>
    intro r j hr hj
    have hlt : j < xs.length := by omega
    obtain ⟨b, hb, hb1⟩ : ∃ b : Nat, rd xs (j : Int) = (b : Int) ∧ b < 256 := by
      have hmem : xs[j] ∈ xs := List.getElem_mem hlt
      obtain ⟨p, q⟩ := wf_u8 (hw _ hmem)
      refine ⟨(xs[j]).toNat, ?_, by omega⟩
      unfold rd
      rw [show ((j : Int)).toNat = j by omega, List.getD_eq_getElem?_getD, List.getElem?_eq_getElem hlt, Option.getD_some]
      omega
    have hy : b * 2 ^ (24 - 8) % 16777216 = b * 65536 := by simp only [Nat.reduceSub, Nat.reducePow]; omega
    obtain ⟨r', hr', a1, a2⟩ := byte_both (10 * m + 1) b hb1 xs (xs.length : Int) (j : Int) 8 r (by omega) hr
    rw [hy] at a1
    have ew : wrap64 ((j : Int) + 1) = ((j + 1 : Nat) : Int) := by unfold wrap64; omega
    obtain ⟨t, t1, t2⟩ := ih r' (j + 1) hr' (by omega)
    refine ⟨t, ?_, ?_⟩
    · rw [show 10 * (m + 1) + 1 = (10 * m + 1 + 8 + 1) + 1 by omega]
      generalize 10 * m + 1 + 8 + 1 = F at a1
      conv => lhs; simp only [armor_crc24.l0]
      have ex : Go.bits .xor .u32 (r : Int) ((((b : Int) % 4294967296) * 65536) % 4294967296) = ((r ^^^ (b * 65536) : Nat) : Int) := by
        rw [show (((b : Int) % 4294967296) * 65536) % 4294967296 = ((b * 65536 : Nat) : Int) by omega]
        exact Go.u32_xor_nat _ _ (by omega) (by omega)
      rw [if_pos (by omega), if_pos (by omega), if_pos (by omega), hb, ex]
      have a1' := a1
      rw [show ((8 : Int) - ((8 : Nat) : Int)) = 0 from rfl] at a1'
      rw [a1', ew]; exact t1
    · rw [show 10 * (m + 1) + 1 = (10 * m + 1 + 8 + 1) + 1 by omega]
      generalize 10 * m + 1 + 8 + 1 = F at a2
      conv => lhs; simp only [spec_Crc24.l0]
      rw [if_pos (by omega), if_pos (by omega), if_pos (by omega), hb]
      have a2' := a2
      rw [show (((8 : Nat) : Int) - 1) = 7 from rfl] at a2'
      rw [a2', ew]; exact t2
end Crc
open Crc

theorem FnCrc24 : laws_FnCrc24.Pure := by
  intro a l ha _ _ hw
  obtain ⟨h0, h1⟩ := wf_u32 ha
  unfold laws_FnCrc24.f
  by_cases hbig : (l.length : Int) > 4096
  · refine ⟨0, ?_⟩
    rw [if_pos hbig]; split <;> rfl
  · obtain ⟨n, rfl⟩ : ∃ n : Nat, a = (n : Int) := ⟨a.toNat, by omega⟩
    have hn : Go.bits .and .u32 (n : Int) 16777215 = ((n % 16777216 : Nat) : Int) := by
      have h := Go.u32_and_nat n 16777215 (by omega) (by decide)
      rw [show ((16777215 : Nat) : Int) = 16777215 from rfl] at h
      rw [h, Nat.and_two_pow_sub_one_eq_mod n 24]
    obtain ⟨t, t1, t2⟩ := all_both l hw (by omega) l.length (n % 16777216) 0 (Nat.mod_lt _ (by decide)) (by omega)
    refine ⟨10 * l.length + 1, ?_⟩
    rw [if_neg (by omega), if_neg hbig, hn]
    unfold impl_Crc24.f armor_ZzCrc24.f armor_crc24.f spec_Crc24.f
    rw [show (((0 : Nat) : Int)) = 0 from rfl] at t1 t2
    rw [t1, t2]
    simp

end Go.Proofs.Ytnjbgmobobffmaa.Pure
