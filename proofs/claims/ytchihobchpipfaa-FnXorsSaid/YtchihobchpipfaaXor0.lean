/- Texts that are exclusive-ored: what the functions compute, in plain lists. -/
import Derived.Test.YtchihobchpipfaaPFnXorsx1
import Derived.Test.YtchihobchpipfaaXored
import Derived.Test.YtchihobchpipfaaOwn
import Derived.Test.YtchihobchpipfaaSame
set_option linter.unusedVariables false
set_option linter.unusedSimpArgs false
namespace Go.Proofs.Ytchihobchpipfaa.Xor
open Go.RowKit Go.Proofs.YtchihobchpipfaaW.PrintWords Go.Proofs.YtchihobchpipfaaW.PrintMore Go.Proofs.Ytchihobchpipfaa.Kit Go.Proofs.Ytchihobchpipfaa.PFnXors

/-- l, with the first k bytes of m exclusive-ored into it, from the place o on. -/
def mix (o : Nat) (l m : List Int) : Nat → List Int
  | 0 => l
  | k + 1 => (mix o l m k).set (o + k) (Go.bits .xor .u8 (l.getD (o + k) 0) (m.getD k 0))
/-- Zeros, and the first k bytes of l and m, exclusive-ored. -/
def zmix (l m : List Int) : Nat → List Int
  | 0 => List.replicate l.length 0
  | k + 1 => (zmix l m k).set k (Go.bits .xor .u8 (l.getD k 0) (m.getD k 0))
theorem mix_length (o : Nat) (l m : List Int) : ∀ k, (mix o l m k).length = l.length
  | 0 => rfl
  | k + 1 => by rw [mix, List.length_set, mix_length o l m k]
theorem zmix_length (l m : List Int) : ∀ k, (zmix l m k).length = l.length
  | 0 => List.length_replicate
  | k + 1 => by rw [zmix, List.length_set, zmix_length l m k]
theorem mix_getD (o : Nat) (l m : List Int) (j : Nat) : ∀ k, o + k ≤ j → (mix o l m k).getD j 0 = l.getD j 0
  | 0, _ => rfl
  | k + 1, h => by
    rw [mix, List.getD_eq_getElem?_getD, List.getElem?_set_ne (by omega), ← List.getD_eq_getElem?_getD]
    exact mix_getD o l m j k (by omega)
theorem rd_nat (l : List Int) (k : Nat) : rd l (k : Int) = l.getD k 0 := by unfold rd; rw [Int.toNat_natCast]
theorem mix_shift (o : Nat) (l m : List Int) : ∀ k, o + k ≤ l.length → mix o l m k = l.take o ++ mix 0 (l.drop o) m k
  | 0, _ => by rw [mix, mix, List.take_append_drop]
  | k + 1, h => by
    rw [mix, mix, mix_shift o l m k (by omega), List.set_append_right _ _ (by rw [List.length_take]; omega)]
    congr 2
    · rw [List.length_take]; omega
    · congr 1
      rw [List.getD_eq_getElem?_getD, List.getD_eq_getElem?_getD, List.getElem?_drop, Nat.zero_add]
theorem take_set {l : List Int} {k : Nat} {x : Int} (h : k < l.length) : (l.set k x).take (k + 1) = l.take k ++ [x] := by
  rw [List.take_add_one, List.getElem?_set_self h, List.take_set_of_le (Nat.le_refl k)]
  rfl
theorem zmix_take (l m : List Int) : ∀ k, k ≤ l.length → (zmix l m k).take k = (mix 0 l m k).take k
  | 0, _ => by rw [List.take_zero, List.take_zero]
  | k + 1, h => by
    rw [zmix, mix, Nat.zero_add, take_set (by rw [zmix_length]; omega), take_set (by rw [mix_length]; omega), zmix_take l m k (by omega)]

theorem mut_l0 (l m : List Int) (hm : m.length ≤ l.length) (hb : l.length ≤ 4294967296) : ∀ d k, k + d = m.length → byteutil_XorBytesMut.l0 (d + 1) (mix 0 l m k) m (k : Int) = some (mix 0 l m m.length)
  | 0, k, h => by
    rw [byteutil_XorBytesMut.l0, if_neg (by omega), show k = m.length by omega]
  | d + 1, k, h => by
    rw [byteutil_XorBytesMut.l0, if_pos (by omega), if_pos (by omega), if_pos (by rw [mix_length]; omega), rd_nat, rd_nat, mix_getD 0 l m k k (by omega), wrap64_id (by omega) (by omega), Int.toNat_natCast]
    have := mut_l0 l m hm hb d (k + 1) (by omega)
    rw [mix, Nat.zero_add] at this
    exact this
theorem xored_l0 (l m : List Int) (hm : m.length ≤ l.length) (hb : l.length ≤ 4294967296) : ∀ d k, k + d = m.length → spec_Xored.l0 (d + 1) l m (mix 0 l m k) (k : Int) = some (mix 0 l m m.length)
  | 0, k, h => by
    rw [spec_Xored.l0, if_neg (by omega), show k = m.length by omega]
  | d + 1, k, h => by
    rw [spec_Xored.l0, if_pos (by omega), if_pos (by omega), if_pos (by omega), if_pos (by rw [mix_length]; omega), rd_nat, rd_nat, mix_getD 0 l m k k (by omega), wrap64_id (by omega) (by omega), Int.toNat_natCast]
    have := xored_l0 l m hm hb d (k + 1) (by omega)
    rw [mix, Nat.zero_add] at this
    exact this
theorem bytes_l0 (l m : List Int) (hm : m.length ≤ l.length) (hb : l.length ≤ 4294967296) : ∀ d k, k + d = m.length → byteutil_XorBytes.l0 (d + 1) (zmix l m k) l m (k : Int) = some (zmix l m m.length)
  | 0, k, h => by
    rw [byteutil_XorBytes.l0, if_neg (by omega), show k = m.length by omega]
  | d + 1, k, h => by
    rw [byteutil_XorBytes.l0, if_pos (by omega), if_pos (by omega), if_pos (by omega), if_pos (by rw [zmix_length]; omega), rd_nat, rd_nat, wrap64_id (by omega) (by omega), Int.toNat_natCast]
    have := bytes_l0 l m hm hb d (k + 1) (by omega)
    rw [zmix] at this
    exact this
theorem xored_f (l m : List Int) (hm : m.length ≤ l.length) (hb : l.length ≤ 4294967296) : spec_Xored.f (m.length + 1) l m = some (mix 0 l m m.length) := by
  unfold spec_Xored.f
  refine bind_of rfl ?_
  rw [if_pos (by simp; omega), List.nil_append]
  exact xored_l0 l m hm hb m.length 0 (by omega)
theorem mut_f (l m : List Int) (hm : m.length ≤ l.length) (hb : l.length ≤ 4294967296) : byteutil_XorBytesMut.f (m.length + 1) l m = some (mix 0 l m m.length) := mut_l0 l m hm hb m.length 0 (by omega)
theorem xor_f (l m : List Int) (hm : m.length ≤ l.length) (hb : l.length ≤ 4294967296) : impl_Xor.f (m.length + 1) l m = some (zmix l m m.length, true) := by
  unfold impl_Xor.f
  rw [if_neg (by omega), if_pos (by omega), if_pos (by omega), Int.toNat_natCast]
  exact bind_of (bytes_l0 l m hm hb m.length 0 (by omega)) rfl
theorem right_f (l m : List Int) (hm : m.length ≤ l.length) (hb : l.length ≤ 4294967296) : spec_XoredRight.f (m.length + 1) l m = some (mix (l.length - m.length) l m m.length) := by
  have e : wrap64 ((l.length : Int) - (m.length : Int)) = ((l.length - m.length : Nat) : Int) := by rw [wrap64_id (by omega) (by omega)]; omega
  unfold spec_XoredRight.f
  refine bind_of rfl ?_
  rw [e, if_pos (by omega), if_pos (by omega), Int.toNat_natCast, if_pos (by simp; omega)]
  refine bind_of rfl ?_
  refine bind_of (xored_f (l.drop (l.length - m.length)) m (by rw [List.length_drop]; omega) (by rw [List.length_drop]; omega)) ?_
  rw [if_pos (by rw [mix_length]; simp; omega), List.nil_append, ← mix_shift _ _ _ _ (by omega)]
end Go.Proofs.Ytchihobchpipfaa.Xor
