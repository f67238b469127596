/- laws.FnReadLength. -/
import Derived.Test.YtfhefoaieefnkaaDoorRlen
import Derived.Test.YtfhefoaieefnkaaDoorPFnReadLengthx1
set_option linter.unusedVariables false
set_option linter.unusedSimpArgs false
namespace Go.Proofs.YtfhefoaieefnkaaDoor.Rd
open Go.RowKit Go.Proofs.YtfhefoaieefnkaaDoorW.PrintWords Go.Proofs.YtfhefoaieefnkaaDoorW.PrintMore Go.Proofs.YtfhefoaieefnkaaDoor.Kit Go.Proofs.YtfhefoaieefnkaaDoor.PFnReadLength

theorem number4 {b0 b1 b2 b3 : Int} (h0 : 0 ≤ b0) (h0' : b0 ≤ 255) (h1 : 0 ≤ b1) (h1' : b1 ≤ 255) (h2 : 0 ≤ b2) (h2' : b2 ≤ 255) (h3 : 0 ≤ b3) (h3' : b3 ≤ 255) :
    spec_Number.f 6 [b0, b1, b2, b3] = some (b0 * 16777216 + b1 * 65536 + b2 * 256 + b3) := by
  have s0 : Go.bits .or .i64 (wrap64 (0 * 256)) (wrap64 b0) = b0 := by
    rw [show wrap64 (0 * 256) = 0 from wrap64_id (by omega) (by omega), wrap64_id (by omega) (by omega), i64_join 8 0 b0 (by omega) (by omega) (by decide) (by omega) (by omega) (by omega)]; omega
  have s1 : Go.bits .or .i64 (wrap64 (b0 * 256)) (wrap64 b1) = b0 * 256 + b1 := by
    rw [wrap64_id (n := b0 * 256) (by omega) (by omega), wrap64_id (n := b1) (by omega) (by omega), i64_join 8 _ b1 (by omega) (by omega) (by omega) (by omega) (by omega) (by omega)]
  have s2 : Go.bits .or .i64 (wrap64 ((b0 * 256 + b1) * 256)) (wrap64 b2) = (b0 * 256 + b1) * 256 + b2 := by
    rw [wrap64_id (n := (b0 * 256 + b1) * 256) (by omega) (by omega), wrap64_id (n := b2) (by omega) (by omega), i64_join 8 _ b2 (by omega) (by omega) (by omega) (by omega) (by omega) (by omega)]
  have s3 : Go.bits .or .i64 (wrap64 (((b0 * 256 + b1) * 256 + b2) * 256)) (wrap64 b3) = ((b0 * 256 + b1) * 256 + b2) * 256 + b3 := by
    rw [wrap64_id (n := ((b0 * 256 + b1) * 256 + b2) * 256) (by omega) (by omega), wrap64_id (n := b3) (by omega) (by omega), i64_join 8 _ b3 (by omega) (by omega) (by omega) (by omega) (by omega) (by omega)]
  have i1 : wrap64 (0 + 1) = 1 := wrap64_id (by omega) (by omega)
  have i2 : wrap64 (1 + 1) = 2 := wrap64_id (by omega) (by omega)
  have i3 : wrap64 (2 + 1) = 3 := wrap64_id (by omega) (by omega)
  have i4 : wrap64 (3 + 1) = 4 := wrap64_id (by omega) (by omega)
  have r0 : rd [b0, b1, b2, b3] 0 = b0 := rfl
  have r1 : rd [b0, b1, b2, b3] 1 = b1 := rfl
  have r2 : rd [b0, b1, b2, b3] 2 = b2 := rfl
  have r3 : rd [b0, b1, b2, b3] 3 = b3 := rfl
  have ln : (([b0, b1, b2, b3] : List Int).length : Int) = 4 := rfl
  unfold spec_Number.f
  rw [ln, spec_Number.l0, if_pos (by decide), if_pos (by decide), if_pos (by rw [ln]; decide), r0, s0, i1,
    spec_Number.l0, if_pos (by decide), if_pos (by decide), if_pos (by rw [ln]; decide), r1, s1, i2,
    spec_Number.l0, if_pos (by decide), if_pos (by decide), if_pos (by rw [ln]; decide), r2, s2, i3,
    spec_Number.l0, if_pos (by decide), if_pos (by decide), if_pos (by rw [ln]; decide), r3, s3, i4,
    spec_Number.l0, if_neg (by decide)]
  congr 1; omega
theorem part_pow : ∀ m : Fin 256, 0 ≤ Go.bits .and .i64 ((m.val : Nat) : Int) 31 ∧ shl .i64 1 (Go.bits .and .i64 ((m.val : Nat) : Int) 31) = 2 ^ (((m.val : Nat) : Int) % 32).toNat := by decide +kernel
theorem sp_no {l : List Int} (hb : Bytes l) (hn : rdl l = none) : spec_ReadLength.f 6 l = some (0, false, 0, 1) := by
  match l, hb, hn with
  | [], hb, hn => rfl
  | b :: t, hb, hn =>
    have ba : 0 ≤ b := (hb 0).1
    have bz : b ≤ 255 := (hb 0).2
    have rb : wrap64 (rd (b :: t) 0) = b := wrap64_id (by show (_ : Int) ≤ b; omega) (by show b ≤ _; omega)
    have ln : ((b :: t).length : Int) = (t.length : Int) + 1 := by simp
    unfold spec_ReadLength.f
    rw [rb, ln, if_neg (by omega), if_pos (by omega)]
    simp only [rdl] at hn
    split at hn
    · cases hn
    · rename_i c1
      rw [if_neg c1]
      split at hn
      · rename_i c2
        rw [if_pos c2]
        split at hn
        · cases hn
        · rename_i c3
          have : t = [] := by cases t with | nil => rfl | cons x y => exact absurd rfl (c3 x y)
          subst this
          rfl
      · rename_i c2
        rw [if_neg c2]
        split at hn
        · cases hn
        · rename_i c3
          rw [if_neg c3]
          split at hn
          · cases hn
          · rename_i c4
            have : t.length < 4 := by
              match t, c4 with
              | [], _ => simp
              | [_], _ => simp
              | [_, _], _ => simp
              | [_, _, _], _ => simp
              | x0 :: x1 :: x2 :: x3 :: y, c4 => exact absurd rfl (c4 x0 x1 x2 x3 y)
            rw [if_pos (by omega)]
theorem sp_ok {l : List Int} (hb : Bytes l) {n : Int} {p : Bool} {t' : List Int} (hn : rdl l = some (n, p, t')) : spec_ReadLength.f 6 l = some (n, p, (l.length : Int) - (t'.length : Int), 0) := by
  match l, hb, hn with
  | b :: t, hb, hn =>
    have ba : 0 ≤ b := (hb 0).1
    have bz : b ≤ 255 := (hb 0).2
    have rb : wrap64 (rd (b :: t) 0) = b := wrap64_id (by show (_ : Int) ≤ b; omega) (by show b ≤ _; omega)
    have ln : ((b :: t).length : Int) = (t.length : Int) + 1 := by simp
    unfold spec_ReadLength.f
    rw [rb, ln, if_neg (by omega), if_pos (by omega)]
    simp only [rdl] at hn
    split at hn
    · rename_i c1
      rw [if_pos c1]
      simp only [Option.some.injEq, Prod.mk.injEq] at hn
      obtain ⟨rfl, rfl, rfl⟩ := hn
      rw [show (t.length : Int) + 1 - (t.length : Int) = 1 by omega]
    · rename_i c1
      rw [if_neg c1]
      split at hn
      · rename_i c2
        rw [if_pos c2]
        split at hn
        · rename_i y u
          simp only [Option.some.injEq, Prod.mk.injEq] at hn
          obtain ⟨rfl, rfl, rfl⟩ := hn
          have ya : 0 ≤ y := (hb 1).1
          have yz : y ≤ 255 := (hb 1).2
          have ry : wrap64 (rd (b :: y :: u) 1) = y := wrap64_id (by show (_ : Int) ≤ y; omega) (by show y ≤ _; omega)
          have lu : ((y :: u).length : Int) = (u.length : Int) + 1 := by simp
          rw [lu, if_neg (by omega), if_pos (by omega), ry, show (u.length : Int) + 1 + 1 - (u.length : Int) = 2 by omega, wrap64_id (n := b - 192) (by omega) (by omega), wrap64_id (n := (b - 192) * 256) (by omega) (by omega), wrap64_id (n := (b - 192) * 256 + y) (by omega) (by omega), wrap64_id (by omega) (by omega), Int.add_assoc]
        · cases hn
      · rename_i c2
        rw [if_neg c2]
        split at hn
        · rename_i c3
          rw [if_pos c3]
          simp only [Option.some.injEq, Prod.mk.injEq] at hn
          obtain ⟨rfl, rfl, rfl⟩ := hn
          obtain ⟨m, rfl⟩ := Int.eq_ofNat_of_zero_le ba
          have := part_pow ⟨m, by omega⟩
          rw [if_pos this.1, this.2, show (t.length : Int) + 1 - (t.length : Int) = 1 by omega]
        · rename_i c3
          rw [if_neg c3]
          split at hn
          · rename_i b0 b1 b2 b3 u
            simp only [Option.some.injEq, Prod.mk.injEq] at hn
            obtain ⟨rfl, rfl, rfl⟩ := hn
            have lu : ((b0 :: b1 :: b2 :: b3 :: u).length : Int) = (u.length : Int) + 4 := by simp; omega
            rw [lu, if_neg (by omega), if_pos (by omega), if_pos (by omega)]
            have q := number4 (b0 := b0) (b1 := b1) (b2 := b2) (b3 := b3) (hb 1).1 (hb 1).2 (hb 2).1 (hb 2).2 (hb 3).1 (hb 3).2 (hb 4).1 (hb 4).2
            rw [show ((b :: b0 :: b1 :: b2 :: b3 :: u).take 5).drop 1 = [b0, b1, b2, b3] from rfl, q]
            show some _ = some _
            rw [show (u.length : Int) + 4 + 1 - (u.length : Int) = 5 by omega]
          · cases hn
set_option maxRecDepth 100000 in
theorem law_big (A : Option Addr) (c : Nat) (l : List Int) (w : World) (hr : C8 w A l) (hc : l.length ≤ c) (hm : l.length ≤ maxLen) (hw : ∀ x ∈ l, (Lit.int .u8 x).wf = true) (hz : 2147483647 < l.length) :
    Calls Tryd.prog 3 #[.slice A l.length c] w fun e w' => e = .returned (.bool true) ∧ Below w.heap.size w w' := by
  clear hw
  go_enter Tryd.func3, Tryd.ntmps3
  go_wp2_with (fail)
  go_ret
  exact ⟨rfl, Below.refl _ _⟩
set_option maxRecDepth 100000 in
theorem law_mid (A : Option Addr) (c : Nat) (l : List Int) (w : World) (hr : C8 w A l) (hc : l.length ≤ c) (hm : l.length ≤ maxLen) (hw : ∀ x ∈ l, (Lit.int .u8 x).wf = true) (hz : ¬ 2147483647 < l.length) (hy : 1048576 < l.length) :
    Calls Tryd.prog 3 #[.slice A l.length c] w fun e w' => e = .returned (.bool true) ∧ Below w.heap.size w w' := by
  clear hw
  go_enter Tryd.func3, Tryd.ntmps3
  go_wp2_with (fail)
  go_ret
  exact ⟨rfl, Below.refl _ _⟩
set_option maxRecDepth 100000 in
theorem law_no (A : Option Addr) (c : Nat) (l : List Int) (w : World) (hr : C8 w A l) (hc : l.length ≤ c) (hm : l.length ≤ maxLen) (hw : ∀ x ∈ l, (Lit.int .u8 x).wf = true) (hz : ¬ 2147483647 < l.length) (hy : ¬ 1048576 < l.length) {aE aU : Addr} (hE : Env w w.heap.size aE aU) (hn : rdl l = none) :
    Calls Tryd.prog 3 #[.slice A l.length c] w fun e w' => e = .returned (.bool true) ∧ Below w.heap.size w w' := by
  have hb : Bytes l := bytes_of hw
  have HP := Aside0.mk (sp_no hb hn)
  have HR := Aside0.mk hr
  have HC := Aside0.mk hc
  have HB := Aside0.mk hb
  have HE := Aside0.mk hE
  have HN := Aside0.mk hn
  clear hw hr hc hb hE hn
  go_enter Tryd.func3, Tryd.ntmps3
  go_wp2_with (first | (go_at_call 15; (with_reducible refine (rlen_no HR.out HC.out HB.out HE.out HN.out).mono ?_); rintro en w1 ⟨rfl, hB⟩; have B1 := Aside0.mk hB; clear hB) | (go_at_call 16; (with_reducible refine (spec_ReadLength.calls 6 A c l _ _ _ _ _ (Kd.C_below HR.out B1.out) HC.out HP.out).mono ?_); rintro en w2 ⟨rfl, hd⟩; have D2 := Aside0.mk hd; clear hd))
  go_ret
  exact ⟨rfl, below_then B1.out B1.out.size D2.out.below⟩
set_option maxRecDepth 100000 in
theorem law_ok (A : Option Addr) (c : Nat) (l : List Int) (w : World) (hr : C8 w A l) (hc : l.length ≤ c) (hm : l.length ≤ maxLen) (hw : ∀ x ∈ l, (Lit.int .u8 x).wf = true) (hz : ¬ 2147483647 < l.length) (hy : ¬ 1048576 < l.length) {aE aU : Addr} (hE : Env w w.heap.size aE aU) {n : Int} {p : Bool} {t : List Int} (hn : rdl l = some (n, p, t)) :
    Calls Tryd.prog 3 #[.slice A l.length c] w fun e w' => e = .returned (.bool true) ∧ Below w.heap.size w w' := by
  have hb : Bytes l := bytes_of hw
  have HP := Aside0.mk (sp_ok hb hn)
  have HR := Aside0.mk hr
  have HC := Aside0.mk hc
  have HB := Aside0.mk hb
  have HE := Aside0.mk hE
  have HN := Aside0.mk hn
  clear hw hr hc hb hE hn
  go_enter Tryd.func3, Tryd.ntmps3
  go_wp2_with (first | (go_at_call 15; (with_reducible refine (rlen_ok HR.out HC.out HB.out HE.out HN.out).mono ?_); rintro en w1 ⟨rfl, hB⟩; have B1 := Aside0.mk hB; clear hB) | (go_at_call 16; (with_reducible refine (spec_ReadLength.calls 6 A c l _ _ _ _ _ (Kd.C_below HR.out B1.out) HC.out HP.out).mono ?_); rintro en w2 ⟨rfl, hd⟩; have D2 := Aside0.mk hd; clear hd))
  go_ret
  exact ⟨by simp, below_then B1.out B1.out.size D2.out.below⟩
theorem law_rlen (A : Option Addr) (c : Nat) (l : List Int) (w : World) (hr : C8 w A l) (hc : l.length ≤ c) (hm : l.length ≤ maxLen) (hw : ∀ x ∈ l, (Lit.int .u8 x).wf = true) {aE aU : Addr} (hE : Env w w.heap.size aE aU) :
    Calls Tryd.prog 3 #[.slice A l.length c] w fun e w' => e = .returned (.bool true) ∧ Below w.heap.size w w' := by
  by_cases hz : 2147483647 < l.length
  · exact law_big A c l w hr hc hm hw hz
  by_cases hy : 1048576 < l.length
  · exact law_mid A c l w hr hc hm hw hz hy
  cases hn : rdl l with
  | none => exact law_no A c l w hr hc hm hw hz hy hE hn
  | some x => obtain ⟨n, p, t⟩ := x; exact law_ok A c l w hr hc hm hw hz hy hE hn
end Go.Proofs.YtfhefoaieefnkaaDoor.Rd
