/- packet.readLength over impl.source. -/
import Derived.Test.YtjdnnpfhlkgooaaDoorRal
set_option linter.unusedVariables false
set_option linter.unusedSimpArgs false
namespace Go.Proofs.YtjdnnpfhlkgooaaDoor.Rd
open Go.RowKit Go.Proofs.YtjdnnpfhlkgooaaDoorW.PrintWords Go.Proofs.YtjdnnpfhlkgooaaDoorW.PrintMore Go.Proofs.YtjdnnpfhlkgooaaDoor.Kit

theorem ofInt_i64 (a : Nat) (ha : a < 18446744073709551616) : (BitVec.ofInt 64 (a : Int)).toNat = a := by
  rw [BitVec.ofInt_natCast, BitVec.toNat_ofNat]; exact Nat.mod_eq_of_lt (by omega)
theorem i64_or_nat (a b : Nat) (ha : a < 9223372036854775808) (hb : b < 9223372036854775808) : Go.bits .or .i64 (a : Int) (b : Int) = ((a ||| b : Nat) : Int) := by
  have hx : a ||| b < 2 ^ 63 := Nat.or_lt_two_pow (by omega) (by omega)
  show IntKind.i64.wrap ((BitVec.ofInt 64 (a : Int) ||| BitVec.ofInt 64 (b : Int)).toNat : Int) = _
  rw [BitVec.toNat_or, ofInt_i64 a (by omega), ofInt_i64 b (by omega)]
  exact IntWalk.i64_in _ (by omega)
/-- Two numbers that share no bit. -/
theorem i64_join (i : Nat) (x y : Int) (h0 : 0 ≤ x) (h1 : x < 9223372036854775808) (hx : x.toNat % 2 ^ i = 0) (y0 : 0 ≤ y) (y1 : y.toNat < 2 ^ i) (y2 : y < 9223372036854775808) : Go.bits .or .i64 x y = x + y := by
  obtain ⟨a, rfl⟩ := Int.eq_ofNat_of_zero_le h0
  obtain ⟨b, rfl⟩ := Int.eq_ofNat_of_zero_le y0
  rw [i64_or_nat a b (by omega) (by omega), nat_join i a b (by simpa using hx) (by simpa using y1)]
  omega
/-- A length of the new form: it, whether it is partial, what is left. -/
def rdl : List Int → Option (Int × Bool × List Int)
  | [] => none
  | b :: t => if b < 192 then some (b, false, t)
    else if b < 224 then (match t with | c :: t => some ((b - 192) * 256 + (c + 192), false, t) | _ => none)
    else if b < 255 then some (2 ^ (b % 32).toNat, true, t)
    else (match t with | b0 :: b1 :: b2 :: b3 :: t => some (b0 * 16777216 + b1 * 65536 + b2 * 256 + b3, false, t) | _ => none)
def RlNo (w : World) (d s : Nat) (split : Int) (aU : Addr) (en : Ending) (w' : World) : Prop :=
  ∃ n p, en = .returned (.tuple #[.int .i64 n, .bool p, (.iface 209 (.pointer (some aU)))]) ∧ (∃ A' c', Src w' d s A' c' [] split) ∧ Tch (fun j => j = s) w w' ∧ 0 ≤ n ∧ n ≤ 4294967295
def RlOk (w : World) (d s : Nat) (split n : Int) (p : Bool) (t : List Int) (en : Ending) (w' : World) : Prop :=
  en = .returned (.tuple #[.int .i64 n, .bool p, .nilIface]) ∧ (∃ A' c', Src w' d s A' c' t split) ∧ Tch (fun j => j = s) w w'
theorem rfull_ok {w : World} {d s : Nat} {A : Option Addr} {c : Nat} {l : List Int} {split : Int} {aE aU : Addr} (h : Src w d s A c l split) (hE : Env w d aE aU) {e base g off N cap M mc : Nat} {xs : List Int} (hD : R8 e w base (.slice (some ⟨g, 0, none⟩) N cap) xs) (h1 : off + M ≤ N) (hmc : M ≤ mc) (hM : M ≤ 100000000) (gs : g ≠ s) (gd : d ≤ g) (hl : M ≤ l.length) :
    Calls Tryd.prog 67 #[(.iface 88 (.pointer (some ⟨s, 0, none⟩))), .slice (some ⟨g, off, none⟩) M mc] w fun en w' => en = .returned (.tuple #[.int .i64 (M : Int), .nilIface]) ∧ (∃ A' c', Src w' d s A' c' (l.drop M) split) ∧ R8 e w' base (.slice (some ⟨g, 0, none⟩) N cap) (xs.take off ++ (l.take M ++ xs.drop (off + M))) ∧ Env w' d aE aU ∧ Tch (fun j => j = g ∨ j = s) w w' :=
  (rfull_calls h hE hD h1 hmc hM gs gd).mono (fun en w' ⟨k, e1, e2, hS, hR, hT⟩ => by
    have e3 : k = M := by omega
    rw [if_pos e3] at e2
    subst e3
    exact ⟨e2, hS, hR, hE.kept hT (fun j q => by have := h.ds; rcases q with q | q <;> subst q <;> assumption), hT⟩)
theorem rfull_no {w : World} {d s : Nat} {A : Option Addr} {c : Nat} {l : List Int} {split : Int} {aE aU : Addr} (h : Src w d s A c l split) (hE : Env w d aE aU) {e base g off N cap M mc : Nat} {xs : List Int} (hD : R8 e w base (.slice (some ⟨g, 0, none⟩) N cap) xs) (h1 : off + M ≤ N) (hmc : M ≤ mc) (hM : M ≤ 100000000) (gs : g ≠ s) (gd : d ≤ g) (hl : l.length < M) :
    Calls Tryd.prog 67 #[(.iface 88 (.pointer (some ⟨s, 0, none⟩))), .slice (some ⟨g, off, none⟩) M mc] w fun en w' => en = .returned (.tuple #[.int .i64 (l.length : Int), (.iface 209 (.pointer (some aU)))]) ∧ (∃ A' c', Src w' d s A' c' [] split) ∧ Env w' d aE aU ∧ Tch (fun j => j = g ∨ j = s) w w' :=
  (rfull_calls h hE hD h1 hmc hM gs gd).mono (fun en w' ⟨k, e1, e2, hS, hR, hT⟩ => by
    have e3 : k = l.length := by omega
    rw [if_neg (by omega)] at e2
    subst e3
    rw [List.drop_length] at hS
    exact ⟨e2, hS, hE.kept hT (fun j q => by have := h.ds; rcases q with q | q <;> subst q <;> assumption), hT⟩)
/-- The buffer of four bytes. -/
theorem buf4 (w : World) : ∃ W, w.alloc (.cells #[.int .u8 0, .int .u8 0, .int .u8 0, .int .u8 0] 156) = W ∧ R8 156 W w.heap.size (.slice (some ⟨w.heap.size, 0, none⟩) 4 4) [0, 0, 0, 0] ∧ Below w.heap.size w W :=
  ⟨_, rfl, Kd.R_of_own (own_lit w w.heap.size 156 .u8 [0, 0, 0, 0] (Nat.le_refl _) (by simp)) (fun _ _ => trivial), below_alloc (Below.refl _ _) _⟩

theorem tch_drop0 {w w' : World} {g s : Nat} (h : Tch (fun j => j = g ∨ j = s) w w') (e : w.heap.size = g) : Tch (fun j => j = s) w w' := by
  subst e
  exact (Tch.refl _ _).step h (fun j q hj => q.elim (fun e => by omega) (fun e => e))

set_option maxHeartbeats 1600000 in
set_option maxRecDepth 100000 in
theorem rl_none0 {w : World} {d s : Nat} {A : Option Addr} {c : Nat} {split : Int} {aE aU : Addr}  (h : Src w d s A c ([]) split) (hE : Env w d aE aU)  :
    Calls Tryd.prog 68 #[(.iface 88 (.pointer (some ⟨s, 0, none⟩)))] w (RlNo w d s split aU) := by
  obtain ⟨W, eW, hR0, hB0⟩ := buf4 w
  have H0 := Aside0.mk (h.below hB0)
  have E0 := Aside0.mk (hE.below hB0)
  have R0 := Aside0.mk hR0
  have B0 := Aside0.mk hB0
  have gs : w.heap.size ≠ s := by have := h.lt; omega
  have gd : d ≤ w.heap.size := by have := h.lt; have := h.ds; omega
  have LT := Aside0.mk h.lt
  clear h hE hR0 hB0
  go_enter Tryd.func68, Tryd.ntmps68
  go_upto_region 2 with (fail)
  clear eW
  obtain ⟨g, eg⟩ : ∃ g, w.heap.size = g := ⟨_, rfl⟩
  have EG := Aside0.mk eg
  rw [eg] at gs gd LT R0 ⊢
  clear eg
  go_wp2_with ((go_at_call 67; (with_reducible refine (rfull_no H0.out E0.out R0.out (show 0 + 1 ≤ 4 by omega) (show 1 ≤ 4 by omega) (by omega) gs gd (by simp)).mono ?_); rintro en w1 ⟨rfl, hS, hE, hT⟩; have H1 := Aside0.mk hS; have E1 := Aside0.mk hE; have T1 := Aside0.mk hT; clear hS hE hT))
  go_ret3
  have TB : Tch (fun j => j = g ∨ j = s) w W := Tch.of_below (by have := B0.out; exact this)
  have hT := tch_drop0 (TB.trans T1.out) EG.out
  exact ⟨_, _, rfl, H1.out, hT, by omega, by omega⟩

set_option maxHeartbeats 1600000 in
set_option maxRecDepth 100000 in
theorem rl_one {w : World} {d s : Nat} {A : Option Addr} {c : Nat} {split : Int} {aE aU : Addr} {b : Int} {t : List Int} (h : Src w d s A c (b :: t) split) (hE : Env w d aE aU) (hb : b < 192) :
    Calls Tryd.prog 68 #[(.iface 88 (.pointer (some ⟨s, 0, none⟩)))] w (RlOk w d s split b false t) := by
  have ba : 0 ≤ b := (h.by_ 0).1
  have bz : b ≤ 255 := (h.by_ 0).2
  obtain ⟨W, eW, hR0, hB0⟩ := buf4 w
  have H0 := Aside0.mk (h.below hB0)
  have E0 := Aside0.mk (hE.below hB0)
  have R0 := Aside0.mk hR0
  have B0 := Aside0.mk hB0
  have gs : w.heap.size ≠ s := by have := h.lt; omega
  have gd : d ≤ w.heap.size := by have := h.lt; have := h.ds; omega
  have LT := Aside0.mk h.lt
  clear h hE hR0 hB0
  go_enter Tryd.func68, Tryd.ntmps68
  go_upto_region 2 with (fail)
  clear eW
  obtain ⟨g, eg⟩ : ∃ g, w.heap.size = g := ⟨_, rfl⟩
  have EG := Aside0.mk eg
  rw [eg] at gs gd LT R0 ⊢
  clear eg
  go_wp2_with ((go_at_call 67; (with_reducible refine (rfull_ok H0.out E0.out R0.out (show 0 + 1 ≤ 4 by omega) (show 1 ≤ 4 by omega) (by omega) gs gd (by simp)).mono ?_); rintro en w1 ⟨rfl, hS, hR, hE, hT⟩; obtain ⟨A1, c1, hs⟩ := hS; have H1 := Aside0.mk (show Src w1 d s A1 c1 (t) split from hs); have E1 := Aside0.mk hE; have R1 := Aside0.mk hR; have T1 := Aside0.mk hT; have fy00 : w1.cell? ⟨g, 0, none⟩ = some (.int .u8 b) := (Kd.R_celln (0 : Int) (h1 := fun _ => rfl) (enc := Value.int .u8) hR (0 : Int) (by decide) (by decide)).1; clear hs hE hT hR))
  go_ret3
  have TB : Tch (fun j => j = g ∨ j = s) w W := Tch.of_below (by have := B0.out; exact this)
  have hT := tch_drop0 (TB.trans T1.out) EG.out
  exact ⟨rfl, ⟨_, _, H1.out⟩, hT⟩

set_option maxHeartbeats 1600000 in
set_option maxRecDepth 100000 in
theorem rl_two {w : World} {d s : Nat} {A : Option Addr} {c : Nat} {split : Int} {aE aU : Addr} {b y : Int} {t : List Int} (h : Src w d s A c (b :: y :: t) split) (hE : Env w d aE aU) (hb : 192 ≤ b) (hb2 : b < 224) :
    Calls Tryd.prog 68 #[(.iface 88 (.pointer (some ⟨s, 0, none⟩)))] w (RlOk w d s split ((b - 192) * 256 + (y + 192)) false t) := by
  have ba : 0 ≤ b := (h.by_ 0).1
  have bz : b ≤ 255 := (h.by_ 0).2
  have ya : 0 ≤ y := (h.by_ 1).1
  have yz : y ≤ 255 := (h.by_ 1).2
  obtain ⟨W, eW, hR0, hB0⟩ := buf4 w
  have H0 := Aside0.mk (h.below hB0)
  have E0 := Aside0.mk (hE.below hB0)
  have R0 := Aside0.mk hR0
  have B0 := Aside0.mk hB0
  have gs : w.heap.size ≠ s := by have := h.lt; omega
  have gd : d ≤ w.heap.size := by have := h.lt; have := h.ds; omega
  have LT := Aside0.mk h.lt
  clear h hE hR0 hB0
  go_enter Tryd.func68, Tryd.ntmps68
  go_upto_region 2 with (fail)
  clear eW
  obtain ⟨g, eg⟩ : ∃ g, w.heap.size = g := ⟨_, rfl⟩
  have EG := Aside0.mk eg
  rw [eg] at gs gd LT R0 ⊢
  clear eg
  go_wp2_with (first | (go_at_call 67; (with_reducible refine (rfull_ok H0.out E0.out R0.out (show 0 + 1 ≤ 4 by omega) (show 1 ≤ 4 by omega) (by omega) gs gd (by simp)).mono ?_); rintro en w1 ⟨rfl, hS, hR, hE, hT⟩; obtain ⟨A1, c1, hs⟩ := hS; have H1 := Aside0.mk (show Src w1 d s A1 c1 (y :: t) split from hs); have E1 := Aside0.mk hE; have R1 := Aside0.mk hR; have T1 := Aside0.mk hT; have fy00 : w1.cell? ⟨g, 0, none⟩ = some (.int .u8 b) := (Kd.R_celln (0 : Int) (h1 := fun _ => rfl) (enc := Value.int .u8) hR (0 : Int) (by decide) (by decide)).1; clear hs hE hT hR) | (go_at_call 67; (with_reducible refine (rfull_ok H1.out E1.out R1.out (show 0 + 1 ≤ 4 by omega) (show 1 ≤ 4 by omega) (by omega) gs gd (by simp)).mono ?_); rintro en w2 ⟨rfl, hS, hR, hE, hT⟩; obtain ⟨A2, c2, hs⟩ := hS; have H2 := Aside0.mk (show Src w2 d s A2 c2 (t) split from hs); have E2 := Aside0.mk hE; have R2 := Aside0.mk hR; have T2 := Aside0.mk hT; have fy10 : w2.cell? ⟨g, 0, none⟩ = some (.int .u8 y) := (Kd.R_celln (0 : Int) (h1 := fun _ => rfl) (enc := Value.int .u8) hR (0 : Int) (by decide) (by decide)).1; clear hs hE hT hR))
  go_ret3
  have TB : Tch (fun j => j = g ∨ j = s) w W := Tch.of_below (by have := B0.out; exact this)
  have hT := tch_drop0 ((TB.trans T1.out).trans T2.out) EG.out
  exact ⟨rfl, ⟨_, _, H2.out⟩, hT⟩

set_option maxHeartbeats 1600000 in
set_option maxRecDepth 100000 in
theorem rl_none1 {w : World} {d s : Nat} {A : Option Addr} {c : Nat} {split : Int} {aE aU : Addr} {b : Int} (h : Src w d s A c ([b]) split) (hE : Env w d aE aU) (hb : 192 ≤ b) (hb2 : b < 224) :
    Calls Tryd.prog 68 #[(.iface 88 (.pointer (some ⟨s, 0, none⟩)))] w (RlNo w d s split aU) := by
  have ba : 0 ≤ b := (h.by_ 0).1
  have bz : b ≤ 255 := (h.by_ 0).2
  obtain ⟨W, eW, hR0, hB0⟩ := buf4 w
  have H0 := Aside0.mk (h.below hB0)
  have E0 := Aside0.mk (hE.below hB0)
  have R0 := Aside0.mk hR0
  have B0 := Aside0.mk hB0
  have gs : w.heap.size ≠ s := by have := h.lt; omega
  have gd : d ≤ w.heap.size := by have := h.lt; have := h.ds; omega
  have LT := Aside0.mk h.lt
  clear h hE hR0 hB0
  go_enter Tryd.func68, Tryd.ntmps68
  go_upto_region 2 with (fail)
  clear eW
  obtain ⟨g, eg⟩ : ∃ g, w.heap.size = g := ⟨_, rfl⟩
  have EG := Aside0.mk eg
  rw [eg] at gs gd LT R0 ⊢
  clear eg
  go_wp2_with (first | (go_at_call 67; (with_reducible refine (rfull_ok H0.out E0.out R0.out (show 0 + 1 ≤ 4 by omega) (show 1 ≤ 4 by omega) (by omega) gs gd (by simp)).mono ?_); rintro en w1 ⟨rfl, hS, hR, hE, hT⟩; obtain ⟨A1, c1, hs⟩ := hS; have H1 := Aside0.mk (show Src w1 d s A1 c1 ([]) split from hs); have E1 := Aside0.mk hE; have R1 := Aside0.mk hR; have T1 := Aside0.mk hT; have fy00 : w1.cell? ⟨g, 0, none⟩ = some (.int .u8 b) := (Kd.R_celln (0 : Int) (h1 := fun _ => rfl) (enc := Value.int .u8) hR (0 : Int) (by decide) (by decide)).1; clear hs hE hT hR) | (go_at_call 67; (with_reducible refine (rfull_no H1.out E1.out R1.out (show 0 + 1 ≤ 4 by omega) (show 1 ≤ 4 by omega) (by omega) gs gd (by simp)).mono ?_); rintro en w2 ⟨rfl, hS, hE, hT⟩; have H2 := Aside0.mk hS; have E2 := Aside0.mk hE; have T2 := Aside0.mk hT; clear hS hE hT))
  go_ret3
  have TB : Tch (fun j => j = g ∨ j = s) w W := Tch.of_below (by have := B0.out; exact this)
  have hT := tch_drop0 ((TB.trans T1.out).trans T2.out) EG.out
  exact ⟨_, _, rfl, H2.out, hT, by omega, by omega⟩

set_option maxHeartbeats 1600000 in
set_option maxRecDepth 100000 in
theorem rl_part {w : World} {d s : Nat} {A : Option Addr} {c : Nat} {split : Int} {aE aU : Addr} {b : Int} {t : List Int} (h : Src w d s A c (b :: t) split) (hE : Env w d aE aU) (hb : 224 ≤ b) (hb2 : b < 255) :
    Calls Tryd.prog 68 #[(.iface 88 (.pointer (some ⟨s, 0, none⟩)))] w (RlOk w d s split (2 ^ (b % 32).toNat) true t) := by
  have ba : 0 ≤ b := (h.by_ 0).1
  have bz : b ≤ 255 := (h.by_ 0).2
  obtain ⟨W, eW, hR0, hB0⟩ := buf4 w
  have H0 := Aside0.mk (h.below hB0)
  have E0 := Aside0.mk (hE.below hB0)
  have R0 := Aside0.mk hR0
  have B0 := Aside0.mk hB0
  have gs : w.heap.size ≠ s := by have := h.lt; omega
  have gd : d ≤ w.heap.size := by have := h.lt; have := h.ds; omega
  have LT := Aside0.mk h.lt
  clear h hE hR0 hB0
  go_enter Tryd.func68, Tryd.ntmps68
  go_upto_region 2 with (fail)
  clear eW
  obtain ⟨g, eg⟩ : ∃ g, w.heap.size = g := ⟨_, rfl⟩
  have EG := Aside0.mk eg
  rw [eg] at gs gd LT R0 ⊢
  clear eg
  go_wp2_with ((go_at_call 67; (with_reducible refine (rfull_ok H0.out E0.out R0.out (show 0 + 1 ≤ 4 by omega) (show 1 ≤ 4 by omega) (by omega) gs gd (by simp)).mono ?_); rintro en w1 ⟨rfl, hS, hR, hE, hT⟩; obtain ⟨A1, c1, hs⟩ := hS; have H1 := Aside0.mk (show Src w1 d s A1 c1 (t) split from hs); have E1 := Aside0.mk hE; have R1 := Aside0.mk hR; have T1 := Aside0.mk hT; have fy00 : w1.cell? ⟨g, 0, none⟩ = some (.int .u8 b) := (Kd.R_celln (0 : Int) (h1 := fun _ => rfl) (enc := Value.int .u8) hR (0 : Int) (by decide) (by decide)).1; clear hs hE hT hR))
  have hz : wrap64 (2 ^ (b % 32).toNat) = 2 ^ (b % 32).toNat := by
    obtain ⟨k, ek⟩ : ∃ k, (b % 32).toNat = k := ⟨_, rfl⟩
    rw [ek]
    have hk : k ≤ 31 := by omega
    have h2 : (2 : Int) ^ k ≤ 2 ^ 31 := by exact_mod_cast Nat.pow_le_pow_right (by decide) hk
    have h3 : (0 : Int) < 2 ^ k := Int.pow_pos (by decide)
    exact IntWalk.wrap64_in _ ⟨by omega, by omega⟩
  go_ret3
  have TB : Tch (fun j => j = g ∨ j = s) w W := Tch.of_below (by have := B0.out; exact this)
  have hT := tch_drop0 (TB.trans T1.out) EG.out
  exact ⟨congrArg (fun z => Ending.returned (.tuple #[.int .i64 z, .bool true, .nilIface])) hz, ⟨_, _, H1.out⟩, hT⟩

set_option maxHeartbeats 1600000 in
set_option maxRecDepth 100000 in
theorem rl_five {w : World} {d s : Nat} {A : Option Addr} {c : Nat} {split : Int} {aE aU : Addr} {b b0 b1 b2 b3 : Int} {t : List Int} (h : Src w d s A c (b :: b0 :: b1 :: b2 :: b3 :: t) split) (hE : Env w d aE aU) (hb : 255 ≤ b) :
    Calls Tryd.prog 68 #[(.iface 88 (.pointer (some ⟨s, 0, none⟩)))] w (RlOk w d s split (b0 * 16777216 + b1 * 65536 + b2 * 256 + b3) false t) := by
  have ba : 0 ≤ b := (h.by_ 0).1
  have bz : b ≤ 255 := (h.by_ 0).2
  have b0a : 0 ≤ b0 := (h.by_ 1).1
  have b0z : b0 ≤ 255 := (h.by_ 1).2
  have b1a : 0 ≤ b1 := (h.by_ 2).1
  have b1z : b1 ≤ 255 := (h.by_ 2).2
  have b2a : 0 ≤ b2 := (h.by_ 3).1
  have b2z : b2 ≤ 255 := (h.by_ 3).2
  have b3a : 0 ≤ b3 := (h.by_ 4).1
  have b3z : b3 ≤ 255 := (h.by_ 4).2
  obtain ⟨W, eW, hR0, hB0⟩ := buf4 w
  have H0 := Aside0.mk (h.below hB0)
  have E0 := Aside0.mk (hE.below hB0)
  have R0 := Aside0.mk hR0
  have B0 := Aside0.mk hB0
  have gs : w.heap.size ≠ s := by have := h.lt; omega
  have gd : d ≤ w.heap.size := by have := h.lt; have := h.ds; omega
  have LT := Aside0.mk h.lt
  clear h hE hR0 hB0
  go_enter Tryd.func68, Tryd.ntmps68
  go_upto_region 2 with (fail)
  clear eW
  obtain ⟨g, eg⟩ : ∃ g, w.heap.size = g := ⟨_, rfl⟩
  have EG := Aside0.mk eg
  rw [eg] at gs gd LT R0 ⊢
  clear eg
  go_wp2_with (first | (go_at_call 67; (with_reducible refine (rfull_ok H0.out E0.out R0.out (show 0 + 1 ≤ 4 by omega) (show 1 ≤ 4 by omega) (by omega) gs gd (by simp)).mono ?_); rintro en w1 ⟨rfl, hS, hR, hE, hT⟩; obtain ⟨A1, c1, hs⟩ := hS; have H1 := Aside0.mk (show Src w1 d s A1 c1 (b0 :: b1 :: b2 :: b3 :: t) split from hs); have E1 := Aside0.mk hE; have R1 := Aside0.mk hR; have T1 := Aside0.mk hT; have fy00 : w1.cell? ⟨g, 0, none⟩ = some (.int .u8 b) := (Kd.R_celln (0 : Int) (h1 := fun _ => rfl) (enc := Value.int .u8) hR (0 : Int) (by decide) (by decide)).1; clear hs hE hT hR) | (go_at_call 67; (with_reducible refine (rfull_ok H1.out E1.out R1.out (show 0 + 4 ≤ 4 by omega) (show 4 ≤ 4 by omega) (by omega) gs gd (by simp)).mono ?_); rintro en w2 ⟨rfl, hS, hR, hE, hT⟩; obtain ⟨A2, c2, hs⟩ := hS; have H2 := Aside0.mk (show Src w2 d s A2 c2 (t) split from hs); have E2 := Aside0.mk hE; have R2 := Aside0.mk hR; have T2 := Aside0.mk hT; have fy10 : w2.cell? ⟨g, 0, none⟩ = some (.int .u8 b0) := (Kd.R_celln (0 : Int) (h1 := fun _ => rfl) (enc := Value.int .u8) hR (0 : Int) (by decide) (by decide)).1; have fy11 : w2.cell? ⟨g, 1, none⟩ = some (.int .u8 b1) := (Kd.R_celln (0 : Int) (h1 := fun _ => rfl) (enc := Value.int .u8) hR (1 : Int) (by decide) (by decide)).1; have fy12 : w2.cell? ⟨g, 2, none⟩ = some (.int .u8 b2) := (Kd.R_celln (0 : Int) (h1 := fun _ => rfl) (enc := Value.int .u8) hR (2 : Int) (by decide) (by decide)).1; have fy13 : w2.cell? ⟨g, 3, none⟩ = some (.int .u8 b3) := (Kd.R_celln (0 : Int) (h1 := fun _ => rfl) (enc := Value.int .u8) hR (3 : Int) (by decide) (by decide)).1; clear hs hE hT hR))
  have hz : Go.bits .or .i64 (Go.bits .or .i64 (Go.bits .or .i64 (b0 * 16777216) (b1 * 65536)) (b2 * 256)) b3 = b0 * 16777216 + b1 * 65536 + b2 * 256 + b3 := by
    rw [i64_join 24 (b0 * 16777216) (b1 * 65536) (by omega) (by omega) (by omega) (by omega) (by omega) (by omega), i64_join 16 _ (b2 * 256) (by omega) (by omega) (by omega) (by omega) (by omega) (by omega), i64_join 8 _ b3 (by omega) (by omega) (by omega) (by omega) (by omega) (by omega)]
  go_ret3
  have TB : Tch (fun j => j = g ∨ j = s) w W := Tch.of_below (by have := B0.out; exact this)
  have hT := tch_drop0 ((TB.trans T1.out).trans T2.out) EG.out
  exact ⟨congrArg (fun z => Ending.returned (.tuple #[.int .i64 z, .bool false, .nilIface])) hz, ⟨_, _, H2.out⟩, hT⟩

set_option maxHeartbeats 1600000 in
set_option maxRecDepth 100000 in
theorem rl_none4 {w : World} {d s : Nat} {A : Option Addr} {c : Nat} {split : Int} {aE aU : Addr} {b : Int} {t : List Int} (h : Src w d s A c (b :: t) split) (hE : Env w d aE aU) (hb : 255 ≤ b) (ht : t.length < 4) :
    Calls Tryd.prog 68 #[(.iface 88 (.pointer (some ⟨s, 0, none⟩)))] w (RlNo w d s split aU) := by
  have ba : 0 ≤ b := (h.by_ 0).1
  have bz : b ≤ 255 := (h.by_ 0).2
  obtain ⟨W, eW, hR0, hB0⟩ := buf4 w
  have H0 := Aside0.mk (h.below hB0)
  have E0 := Aside0.mk (hE.below hB0)
  have R0 := Aside0.mk hR0
  have B0 := Aside0.mk hB0
  have gs : w.heap.size ≠ s := by have := h.lt; omega
  have gd : d ≤ w.heap.size := by have := h.lt; have := h.ds; omega
  have LT := Aside0.mk h.lt
  clear h hE hR0 hB0
  go_enter Tryd.func68, Tryd.ntmps68
  go_upto_region 2 with (fail)
  clear eW
  obtain ⟨g, eg⟩ : ∃ g, w.heap.size = g := ⟨_, rfl⟩
  have EG := Aside0.mk eg
  rw [eg] at gs gd LT R0 ⊢
  clear eg
  go_wp2_with (first | (go_at_call 67; (with_reducible refine (rfull_ok H0.out E0.out R0.out (show 0 + 1 ≤ 4 by omega) (show 1 ≤ 4 by omega) (by omega) gs gd (by simp)).mono ?_); rintro en w1 ⟨rfl, hS, hR, hE, hT⟩; obtain ⟨A1, c1, hs⟩ := hS; have H1 := Aside0.mk (show Src w1 d s A1 c1 (t) split from hs); have E1 := Aside0.mk hE; have R1 := Aside0.mk hR; have T1 := Aside0.mk hT; have fy00 : w1.cell? ⟨g, 0, none⟩ = some (.int .u8 b) := (Kd.R_celln (0 : Int) (h1 := fun _ => rfl) (enc := Value.int .u8) hR (0 : Int) (by decide) (by decide)).1; clear hs hE hT hR) | (go_at_call 67; (with_reducible refine (rfull_no H1.out E1.out R1.out (show 0 + 4 ≤ 4 by omega) (show 4 ≤ 4 by omega) (by omega) gs gd (by exact ht)).mono ?_); rintro en w2 ⟨rfl, hS, hE, hT⟩; have H2 := Aside0.mk hS; have E2 := Aside0.mk hE; have T2 := Aside0.mk hT; clear hS hE hT))
  go_ret3
  have TB : Tch (fun j => j = g ∨ j = s) w W := Tch.of_below (by have := B0.out; exact this)
  have hT := tch_drop0 ((TB.trans T1.out).trans T2.out) EG.out
  exact ⟨_, _, rfl, H2.out, hT, by omega, by omega⟩


theorem rl_calls {w : World} {d s : Nat} {A : Option Addr} {c : Nat} {l : List Int} {split : Int} {aE aU : Addr} (h : Src w d s A c l split) (hE : Env w d aE aU) :
    Calls Tryd.prog 68 #[(.iface 88 (.pointer (some ⟨s, 0, none⟩)))] w (match rdl l with | none => RlNo w d s split aU | some (n, p, t) => RlOk w d s split n p t) := by
  match l, h with
  | [], h => exact rl_none0 h hE
  | b :: t, h =>
    have ba : 0 ≤ b := (h.by_ 0).1
    have bz : b ≤ 255 := (h.by_ 0).2
    by_cases b1 : b < 192
    · simp only [rdl, if_pos b1]; exact rl_one h hE b1
    · by_cases b2 : b < 224
      · match t, h with
        | [], h => simp only [rdl, if_neg b1, if_pos b2]; exact rl_none1 h hE (by omega) b2
        | y :: t, h => simp only [rdl, if_neg b1, if_pos b2]; exact rl_two h hE (by omega) b2
      · by_cases b3 : b < 255
        · simp only [rdl, if_neg b1, if_neg b2, if_pos b3]; exact rl_part h hE (by omega) b3
        · match t, h with
          | [], h => simp only [rdl, if_neg b1, if_neg b2, if_neg b3]; exact rl_none4 h hE (by omega) (by simp)
          | [_], h => simp only [rdl, if_neg b1, if_neg b2, if_neg b3]; exact rl_none4 h hE (by omega) (by simp)
          | [_, _], h => simp only [rdl, if_neg b1, if_neg b2, if_neg b3]; exact rl_none4 h hE (by omega) (by simp)
          | [_, _, _], h => simp only [rdl, if_neg b1, if_neg b2, if_neg b3]; exact rl_none4 h hE (by omega) (by simp)
          | b0 :: b1' :: b2' :: b3' :: t, h => simp only [rdl, if_neg b1, if_neg b2, if_neg b3]; exact rl_five h hE (by omega)
end Go.Proofs.YtjdnnpfhlkgooaaDoor.Rd
