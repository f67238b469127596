/- Bytes, shifted by a bit: what the program's loop and the standard's loop over bits make of them is one list. -/
import Derived.Test.YtnjbgmobobffmaaPFnDoublex2
import Derived.Laws.BitsAllLaws
namespace Go.Proofs.Ytnjbgmobobffmaa.Dbl
open Go.RowKit Go.Proofs.Ytnjbgmobobffmaa.PFnDouble Go.Proofs.YtnjbgmobobffmaaW.PrintWords Go.Proofs.YtnjbgmobobffmaaW.PrintLast Go.Proofs.YtnjbgmobobffmaaW.PrintMore

/-- All are bytes. -/
def Bytes (l : List Int) : Prop := ∀ i : Nat, 0 ≤ l.getD i 0 ∧ l.getD i 0 ≤ 255
theorem bytes_of {l : List Int} (h : ∀ x ∈ l, (Lit.int .u8 x).wf = true) : Bytes l := by
  intro i
  by_cases hi : i < l.length
  · have := h _ (List.getElem_mem hi)
    simp [Lit.wf, IntKind.min, IntKind.max, IntKind.signed, IntKind.bits] at this
    rw [List.getD_eq_getElem?_getD, List.getElem?_eq_getElem hi, Option.getD_some]
    omega
  · rw [List.getD_eq_getElem?_getD, List.getElem?_eq_none (by omega)]
    simp
theorem rd_nat (l : List Int) (i : Nat) : rd l (i : Int) = l.getD i 0 := by unfold rd; simp
theorem wrap64_id {n : Int} (h : -9223372036854775808 ≤ n) (h' : n ≤ 9223372036854775807) : wrap64 n = n := by unfold wrap64; omega
theorem getD_set (l : List Int) (i j : Nat) (x : Int) (hi : i < l.length) : (l.set i x).getD j 0 = if j = i then x else l.getD j 0 := by
  rw [List.getD_eq_getElem?_getD, List.getD_eq_getElem?_getD, List.getElem?_set]
  by_cases h : j = i
  · subst h; simp [hi]
  · rw [if_neg h, if_neg (fun e => h e.symm)]
theorem ext_getD {a b : List Int} (hl : a.length = b.length) (h : ∀ j, j < a.length → a.getD j 0 = b.getD j 0) : a = b := by
  apply List.ext_getElem hl
  intro i h1 h2
  have := h i h1
  rw [List.getD_eq_getElem?_getD, List.getD_eq_getElem?_getD, List.getElem?_eq_getElem h1, List.getElem?_eq_getElem h2] at this
  simpa using this

theorem or_join (a b : Int) (i : Nat) (hi : i ≤ 8) (ha : 0 ≤ a) (ha1 : a < 256) (hm : a % 2 ^ i = 0) (hb : 0 ≤ b) (hb1 : b < 2 ^ i) : Go.bits .or .u8 a b = a + b := by
  have h8 : (2 : Int) ^ i ≤ 2 ^ 8 := by
    have : (2 : Nat) ^ i ≤ 2 ^ 8 := Nat.pow_le_pow_right (by decide) hi
    exact_mod_cast this
  exact Go.bits_join .u8 8 (by decide) Go.wraps_u8 i a b ha hm (by omega) hb hb1 (by omega)

/-- Same bytes: of one list. -/
theorem same_refl (s : List Int) (hs : s.length ≤ 4611686018427387904) : spec_SameBytes.f (s.length + 1) s s = some true := by
  unfold spec_SameBytes.f
  rw [if_pos rfl]
  suffices H : ∀ (d i : Nat), i + d = s.length → spec_SameBytes.l0 (d + 1) s s (s.length : Int) (i : Int) = some true from H s.length 0 (by omega)
  intro d
  induction d with
  | zero =>
    intro i hi
    simp only [spec_SameBytes.l0]
    rw [if_neg (by omega)]
  | succ d ih =>
    intro i hi
    have h := ih (i + 1) (by omega)
    generalize d + 1 = F at h
    simp only [spec_SameBytes.l0]
    have c1 : (i : Int) < (s.length : Int) := by omega
    have c2 : (0 : Int) ≤ (i : Int) := by omega
    rw [if_pos c1, if_pos c2, if_pos c1, if_pos c1, if_pos trivial, wrap64_id (by omega) (by omega), show (i : Int) + 1 = ((i + 1 : Nat) : Int) by omega]
    exact h

/-- The byte i of the shifted bytes. -/
def val (l : List Int) (i : Nat) : Int := l.getD i 0 * 2 % 256 + l.getD (i + 1) 0 / 128
theorem val_range {l : List Int} (h : Bytes l) (i : Nat) : 0 ≤ val l i ∧ val l i ≤ 255 := by
  unfold val
  have h1 := h i
  have h2 := h (i + 1)
  omega
def sh (l : List Int) : List Int := (List.range l.length).map (val l)
theorem sh_length (l : List Int) : (sh l).length = l.length := by simp [sh]
theorem sh_getD (l : List Int) (j : Nat) (hj : j < l.length) : (sh l).getD j 0 = val l j := by
  unfold sh
  rw [List.getD_eq_getElem?_getD, List.getElem?_map, List.getElem?_range hj]
  rfl

theorem shl_loop (l : List Int) (hb : Bytes l) (h1 : 0 < l.length) (h2 : l.length ≤ 4611686018427387904) (d : Nat) : ∀ (i : Nat) (x : List Int), i + d + 1 = l.length → x.length = l.length → (∀ j, j < i → x.getD j 0 = val l j) →
    byteutil_ShiftBytesLeft.l0 (d + 1) l (l.length : Int) x (i : Int) = some (sh l) := by
  induction d with
  | zero =>
    intro i x hi hx hv
    simp only [byteutil_ShiftBytesLeft.l0]
    have e : wrap64 ((l.length : Int) - 1) = (i : Int) := by rw [wrap64_id (by omega) (by omega)]; omega
    rw [e, if_neg (by omega), if_pos (by omega), if_pos (by omega), if_pos (by omega)]
    congr 1
    apply ext_getD
    · rw [List.length_set, sh_length, hx]
    · intro j hj
      rw [List.length_set] at hj
      rw [Int.toNat_natCast, getD_set _ _ _ _ (by omega), sh_getD _ _ (by omega)]
      by_cases hji : j = i
      · subst hji
        rw [if_pos rfl, rd_nat]
        have : l.getD (j + 1) 0 = 0 := by rw [List.getD_eq_getElem?_getD, List.getElem?_eq_none (by omega)]; rfl
        unfold val
        rw [this]; omega
      · rw [if_neg hji]
        exact hv j (by omega)
  | succ d ih =>
    intro i x hi hx hv
    have e : wrap64 ((l.length : Int) - 1) = (i : Int) + d + 1 := by rw [wrap64_id (by omega) (by omega)]; omega
    have e1 : wrap64 ((i : Int) + 1) = ((i + 1 : Nat) : Int) := by rw [wrap64_id (by omega) (by omega)]; omega
    have hor : Go.bits .or .u8 (((rd l (i : Int)) * 2) % 256) ((rd l ((i + 1 : Nat) : Int)) / 128) = val l i := by
      rw [rd_nat, rd_nat]
      have a := hb i
      have b := hb (i + 1)
      exact or_join _ _ 1 (by decide) (by omega) (by omega) (by omega) (by omega) (by omega)
    have h := ih (i + 1) (x.set i (val l i)) (by omega) (by rw [List.length_set]; exact hx) (fun j hj => by
      rw [getD_set _ _ _ _ (by omega)]
      by_cases hji : j = i
      · rw [if_pos hji, hji]
      · rw [if_neg hji]; exact hv j (by omega))
    generalize d + 1 = F at h
    simp only [byteutil_ShiftBytesLeft.l0]
    rw [e, e1, if_pos (by omega), if_pos (by omega), if_pos (by omega), if_pos (by omega), if_pos (by omega), if_pos (by omega), hor, Int.toNat_natCast]
    exact h

theorem shl_some (l : List Int) (hb : Bytes l) (h1 : 0 < l.length) (h2 : l.length ≤ 281474976710656) : byteutil_ShiftBytesLeft.f l.length l = some (sh l) := by
  unfold byteutil_ShiftBytesLeft.f
  rw [if_pos (by omega), if_pos (by omega)]
  have h := shl_loop l hb h1 (by omega) (l.length - 1) 0 (List.replicate l.length 0) (by omega) (by simp) (by omega)
  rw [show l.length - 1 + 1 = l.length by omega] at h
  exact h
/-! the standard's loop -/
theorem shr_u8 (x : Int) (n : Nat) (hn : n ≤ 8) : shr .u8 x (n : Int) = x / 2 ^ n := by
  unfold shr
  rw [show min ((n : Int)).toNat IntKind.u8.bits = n by simp [IntKind.bits]; omega]
theorem shl_u8 (x : Int) (n : Nat) (hn : n ≤ 8) : shl .u8 x (n : Int) = (x * 2 ^ n) % 256 := by
  unfold shl
  rw [show min ((n : Int)).toNat IntKind.u8.bits = n by simp [IntKind.bits]; omega, Go.IntKind.wrap_u8]
theorem and_one (x : Int) (h0 : 0 ≤ x) (h1 : x < 256) : Go.bits .and .u8 x 1 = x % 2 := by
  obtain ⟨n, rfl⟩ : ∃ n : Nat, x = (n : Int) := ⟨x.toNat, by omega⟩
  have h := Go.u8_and_nat n 1 (by omega) (by decide)
  rw [show ((1 : Nat) : Int) = 1 from rfl] at h
  rw [h, Nat.and_one_is_mod]; omega

theorem bitAt_some (l : List Int) (hb : Bytes l) (h2 : l.length ≤ 281474976710656) (q r : Nat) (hr : r < 8) (hq : q < l.length) :
    spec_bitAt.f l (wrap64 (1 + (8 * q + r : Nat))) = some (val l q / 2 ^ (7 - r) % 2) := by
  unfold spec_bitAt.f
  have e0 : wrap64 (1 + (8 * q + r : Nat)) = ((8 * q + r + 1 : Nat) : Int) := by rw [wrap64_id (by omega) (by omega)]; omega
  have e1 : wrap64 (8 * (l.length : Int)) = 8 * (l.length : Int) := wrap64_id (by omega) (by omega)
  rw [e0, e1]
  have a := hb q
  have b := hb (q + 1)
  by_cases h7 : r = 7
  · subst h7
    by_cases hl : q + 1 < l.length
    · have e2 : Int.tdiv ((8 * q + 7 + 1 : Nat) : Int) 8 = ((q + 1 : Nat) : Int) := by rw [Int.tdiv_eq_ediv_of_nonneg (by omega)]; omega
      have e3 : Int.tmod ((8 * q + 7 + 1 : Nat) : Int) 8 = 0 := by rw [Int.tmod_eq_emod_of_nonneg (by omega)]; omega
      have e4 : wrap64 (7 - 0) = ((7 : Nat) : Int) := wrap64_id (by omega) (by omega)
      rw [if_neg (by omega), e2, e3, wrap64_id (n := ((q + 1 : Nat) : Int)) (by omega) (by omega), e4, if_pos (by omega), if_pos (by omega), if_pos (by omega), rd_nat, shr_u8 _ 7 (by omega), and_one _ (by omega) (by omega)]
      congr 1
      unfold val
      simp only [Nat.sub_self, Int.pow_zero]
      omega
    · rw [if_pos (by omega)]
      have : l.getD (q + 1) 0 = 0 := by rw [List.getD_eq_getElem?_getD, List.getElem?_eq_none (by omega)]; rfl
      congr 1
      unfold val
      rw [this]
      simp only [Nat.sub_self, Int.pow_zero]
      omega
  · have e2 : Int.tdiv ((8 * q + r + 1 : Nat) : Int) 8 = (q : Int) := by rw [Int.tdiv_eq_ediv_of_nonneg (by omega)]; omega
    have e3 : Int.tmod ((8 * q + r + 1 : Nat) : Int) 8 = (r : Int) + 1 := by rw [Int.tmod_eq_emod_of_nonneg (by omega)]; omega
    have e4 : wrap64 (7 - ((r : Int) + 1)) = ((6 - r : Nat) : Int) := by rw [wrap64_id (by omega) (by omega)]; omega
    rw [if_neg (by omega), e2, e3, wrap64_id (n := (q : Int)) (by omega) (by omega), e4, if_pos (by omega), if_pos (by omega), if_pos (by omega), rd_nat, shr_u8 _ _ (by omega)]
    have hr8 : r = 0 ∨ r = 1 ∨ r = 2 ∨ r = 3 ∨ r = 4 ∨ r = 5 ∨ r = 6 := by omega
    unfold val
    rcases hr8 with rfl | rfl | rfl | rfl | rfl | rfl | rfl <;> simp only [Nat.reduceSub, Int.reducePow] <;> rw [and_one _ (by omega) (by omega)] <;> congr 1 <;> omega

/-- r bits of the byte q have been laid. -/
theorem byte_bits (l : List Int) (hb : Bytes l) (h2 : l.length ≤ 281474976710656) (q : Nat) (hq : q < l.length) (k : Nat) (x : List Int) (hx : x.length = l.length) (d : Nat) : ∀ r : Nat, r + d = 8 →
    spec_Shifted.l0 (k + d) l 1 (x.set q (val l q / 2 ^ (8 - r) * 2 ^ (8 - r))) ((8 * l.length : Nat) : Int) ((8 * q + r : Nat) : Int) = spec_Shifted.l0 k l 1 (x.set q (val l q)) ((8 * l.length : Nat) : Int) ((8 * (q + 1) : Nat) : Int) := by
  have v := val_range hb q
  induction d with
  | zero =>
    intro r hr
    obtain rfl : r = 8 := by omega
    simp only [Nat.sub_self, Int.pow_zero, Int.ediv_one, Int.mul_one, Nat.add_zero]
    rw [show 8 * q + 8 = 8 * (q + 1) by omega]
  | succ d ih =>
    intro r hr
    have h := ih (r + 1) (by omega)
    rw [← h, show k + (d + 1) = (k + d) + 1 from rfl]
    generalize k + d = F
    clear h ih
    have c1 : ((8 * q + r : Nat) : Int) < ((8 * l.length : Nat) : Int) := by omega
    have c2 : (0 : Int) ≤ (q : Int) := by omega
    have c4 : (0 : Int) ≤ ((7 - r : Nat) : Int) := by omega
    have c5 : r < 8 := by omega
    have c6 : 7 - r ≤ 8 := by omega
    have c7 : q < x.length := by omega
    have hr8 : r = 0 ∨ r = 1 ∨ r = 2 ∨ r = 3 ∨ r = 4 ∨ r = 5 ∨ r = 6 ∨ r = 7 := by omega
    have e6 : wrap64 (q : Int) = (q : Int) := wrap64_id (by omega) (by omega)
    have e2 : Int.tdiv ((8 * q + r : Nat) : Int) 8 = (q : Int) := by rw [Int.tdiv_eq_ediv_of_nonneg (by omega)]; omega
    have e3 : Int.tmod ((8 * q + r : Nat) : Int) 8 = (r : Int) := by rw [Int.tmod_eq_emod_of_nonneg (by omega)]; omega
    have e4 : wrap64 (7 - (r : Int)) = ((7 - r : Nat) : Int) := by rw [wrap64_id (by omega) (by omega)]; omega
    have e5 : wrap64 (((8 * q + r : Nat) : Int) + 1) = ((8 * q + (r + 1) : Nat) : Int) := by rw [wrap64_id (by omega) (by omega)]; omega
    conv => lhs; simp only [spec_Shifted.l0]
    have c3 : (q : Int) < ((x.set q (val l q / 2 ^ (8 - r) * 2 ^ (8 - r))).length : Int) := by rw [List.length_set]; exact Int.ofNat_lt.2 c7
    rw [if_pos c1, e2, e3, e6, e4, e5, if_pos c2, if_pos c3, bitAt_some l hb h2 q r c5 hq]
    simp only [Option.bind_some]
    rw [if_pos c4, rd_nat, getD_set _ _ _ _ c7, if_pos rfl, shl_u8 _ _ c6, Int.toNat_natCast, List.set_set]
    congr 2
    clear e2 e3 e4 e5 e6 c1 c2 c3 c4 c5 c6 c7 hx hq h2
    generalize val l q = u at v ⊢
    rcases hr8 with rfl | rfl | rfl | rfl | rfl | rfl | rfl | rfl <;> simp only [Nat.reduceSub, Nat.reduceAdd, Int.reducePow]
    · rw [or_join _ _ 8 (by decide) (by omega) (by omega) (by omega) (by omega) (by omega)]; omega
    · rw [or_join _ _ 7 (by decide) (by omega) (by omega) (by omega) (by omega) (by omega)]; omega
    · rw [or_join _ _ 6 (by decide) (by omega) (by omega) (by omega) (by omega) (by omega)]; omega
    · rw [or_join _ _ 5 (by decide) (by omega) (by omega) (by omega) (by omega) (by omega)]; omega
    · rw [or_join _ _ 4 (by decide) (by omega) (by omega) (by omega) (by omega) (by omega)]; omega
    · rw [or_join _ _ 3 (by decide) (by omega) (by omega) (by omega) (by omega) (by omega)]; omega
    · rw [or_join _ _ 2 (by decide) (by omega) (by omega) (by omega) (by omega) (by omega)]; omega
    · rw [or_join _ _ 1 (by decide) (by omega) (by omega) (by omega) (by omega) (by omega)]; omega

theorem shifted_loop (l : List Int) (hb : Bytes l) (h2 : l.length ≤ 281474976710656) (d : Nat) : ∀ (q : Nat) (x : List Int), q + d = l.length → x.length = l.length → (∀ j, j < q → x.getD j 0 = val l j) → (∀ j, q ≤ j → x.getD j 0 = 0) →
    spec_Shifted.l0 (8 * d + 1) l 1 x ((8 * l.length : Nat) : Int) ((8 * q : Nat) : Int) = some (sh l) := by
  induction d with
  | zero =>
    intro q x hq hx hv _
    simp only [spec_Shifted.l0]
    rw [if_neg (by omega)]
    congr 1
    exact ext_getD (by rw [sh_length, hx]) (fun j hj => by rw [sh_getD _ _ (by omega)]; exact hv j (by omega))
  | succ d ih =>
    intro q x hq hx hv hz
    have v := val_range hb q
    have h := byte_bits l hb h2 q (by omega) (8 * d + 1) x hx 8 0 (by omega)
    have hs : x.set q (val l q / 2 ^ (8 - 0) * 2 ^ (8 - 0)) = x := by
      have : val l q / 2 ^ (8 - 0) * 2 ^ (8 - 0) = 0 := by simp only [Nat.sub_zero, Int.reducePow]; omega
      rw [this]
      exact ext_getD (by simp) (fun j hj => by
        rw [List.length_set] at hj
        rw [getD_set _ _ _ _ (by omega)]
        by_cases hji : j = q
        · rw [if_pos hji, hji, hz q (Nat.le_refl _)]
        · rw [if_neg hji])
    rw [hs] at h
    rw [show 8 * (d + 1) + 1 = 8 * d + 1 + 8 by omega, show (8 * q : Nat) = 8 * q + 0 from rfl, h]
    exact ih (q + 1) _ (by omega) (by rw [List.length_set]; exact hx) (fun j hj => by
      rw [getD_set _ _ _ _ (by omega)]
      by_cases hji : j = q
      · rw [if_pos hji, hji]
      · rw [if_neg hji]; exact hv j (by omega)) (fun j hj => by
      rw [getD_set _ _ _ _ (by omega), if_neg (by omega)]
      exact hz j (by omega))

theorem shifted_some (l : List Int) (hb : Bytes l) (h2 : l.length ≤ 281474976710656) : spec_Shifted.f (8 * l.length + 1) l 1 (l.length : Int) = some (sh l) := by
  unfold spec_Shifted.f
  rw [if_pos (by omega), if_pos (by omega), wrap64_id (by omega) (by omega), Int.toNat_natCast]
  have h := shifted_loop l hb h2 l.length 0 (List.replicate l.length 0) (by omega) (by simp) (by omega) (fun j _ => by
    rw [List.getD_eq_getElem?_getD, List.getElem?_replicate]; split <;> rfl)
  rw [show ((8 * l.length : Nat) : Int) = 8 * (l.length : Int) by omega] at h
  exact h
end Go.Proofs.Ytnjbgmobobffmaa.Dbl
