/- A packet's header and body, in plain lists; spec.ReadPacket and packet.readHeader say the same. -/
import Derived.Test.YtjdnnpfhlkgooaaDoorRdh
import Derived.Test.YtjdnnpfhlkgooaaDoorRpk
set_option linter.unusedVariables false
set_option linter.unusedSimpArgs false
namespace Go.Proofs.YtjdnnpfhlkgooaaDoor.Rd
open Go.RowKit Go.Proofs.YtjdnnpfhlkgooaaDoorW.PrintWords Go.Proofs.YtjdnnpfhlkgooaaDoorW.PrintMore Go.Proofs.YtjdnnpfhlkgooaaDoor.Kit Go.Proofs.YtjdnnpfhlkgooaaDoor.PFnBodyReads

theorem number4p {b0 b1 b2 b3 : Int} (h0 : 0 ≤ b0) (h0' : b0 ≤ 255) (h1 : 0 ≤ b1) (h1' : b1 ≤ 255) (h2 : 0 ≤ b2) (h2' : b2 ≤ 255) (h3 : 0 ≤ b3) (h3' : b3 ≤ 255) :
    spec_Number.f 6 [b0, b1, b2, b3] = some (b0 * 16777216 + b1 * 65536 + b2 * 256 + b3) := by
  have s0 : Go.bits .or .i64 (wrap64 (0 * 256)) (wrap64 b0) = b0 := by
    rw [show wrap64 (0 * 256) = 0 from wrap64_id (by omega) (by omega), wrap64_id (by omega) (by omega), i64_join 8 0 b0 (by omega) (by omega) (by decide) (by omega) (by omega) (by omega)]; omega
  have s1 : Go.bits .or .i64 (wrap64 (b0 * 256)) (wrap64 b1) = b0 * 256 + b1 := by
    rw [wrap64_id (n := b0 * 256) (by omega) (by omega), wrap64_id (n := b1) (by omega) (by omega), i64_join 8 _ b1 (by omega) (by omega) (by omega) (by omega) (by omega) (by omega)]
  have s2 : Go.bits .or .i64 (wrap64 ((b0 * 256 + b1) * 256)) (wrap64 b2) = (b0 * 256 + b1) * 256 + b2 := by
    rw [wrap64_id (n := (b0 * 256 + b1) * 256) (by omega) (by omega), wrap64_id (n := b2) (by omega) (by omega), i64_join 8 _ b2 (by omega) (by omega) (by omega) (by omega) (by omega) (by omega)]
  have s3 : Go.bits .or .i64 (wrap64 (((b0 * 256 + b1) * 256 + b2) * 256)) (wrap64 b3) = ((b0 * 256 + b1) * 256 + b2) * 256 + b3 := by
    rw [wrap64_id (n := ((b0 * 256 + b1) * 256 + b2) * 256) (by omega) (by omega), wrap64_id (n := b3) (by omega) (by omega), i64_join 8 _ b3 (by omega) (by omega) (by omega) (by omega) (by omega) (by omega)]
  have i1 : wrap64 (0 + 1) = 1 := wrap64_id (by omega) (by omega)
  have i2 : wrap64 (1 + 1) = 2 := wrap64_id (by omega) (by omega)
  have i3 : wrap64 (2 + 1) = 3 := wrap64_id (by omega) (by omega)
  have i4 : wrap64 (3 + 1) = 4 := wrap64_id (by omega) (by omega)
  have r0 : rd [b0, b1, b2, b3] 0 = b0 := rfl
  have r1 : rd [b0, b1, b2, b3] 1 = b1 := rfl
  have r2 : rd [b0, b1, b2, b3] 2 = b2 := rfl
  have r3 : rd [b0, b1, b2, b3] 3 = b3 := rfl
  have ln : (([b0, b1, b2, b3] : List Int).length : Int) = 4 := rfl
  unfold spec_Number.f
  rw [ln, spec_Number.l0, if_pos (by decide), if_pos (by decide), if_pos (by rw [ln]; decide), r0, s0, i1,
    spec_Number.l0, if_pos (by decide), if_pos (by decide), if_pos (by rw [ln]; decide), r1, s1, i2,
    spec_Number.l0, if_pos (by decide), if_pos (by decide), if_pos (by rw [ln]; decide), r2, s2, i3,
    spec_Number.l0, if_pos (by decide), if_pos (by decide), if_pos (by rw [ln]; decide), r3, s3, i4,
    spec_Number.l0, if_neg (by decide)]
  congr 1; omega
theorem part_powp : ∀ m : Fin 256, 0 ≤ Go.bits .and .i64 ((m.val : Nat) : Int) 31 ∧ shl .i64 1 (Go.bits .and .i64 ((m.val : Nat) : Int) 31) = 2 ^ (((m.val : Nat) : Int) % 32).toNat := by decide +kernel
theorem spl_no {l : List Int} (hb : Bytes l) (hn : rdl l = none) : spec_ReadLength.f 6 l = some (0, false, 0, 1) := by
  match l, hb, hn with
  | [], hb, hn => rfl
  | b :: t, hb, hn =>
    have ba : 0 ≤ b := (hb 0).1
    have bz : b ≤ 255 := (hb 0).2
    have rb : wrap64 (rd (b :: t) 0) = b := wrap64_id (by show (_ : Int) ≤ b; omega) (by show b ≤ _; omega)
    have ln : ((b :: t).length : Int) = (t.length : Int) + 1 := by simp
    unfold spec_ReadLength.f
    rw [rb, ln, if_neg (by omega), if_pos (by omega)]
    simp only [rdl] at hn
    split at hn
    · cases hn
    · rename_i c1
      rw [if_neg c1]
      split at hn
      · rename_i c2
        rw [if_pos c2]
        split at hn
        · cases hn
        · rename_i c3
          have : t = [] := by cases t with | nil => rfl | cons x y => exact absurd rfl (c3 x y)
          subst this
          rfl
      · rename_i c2
        rw [if_neg c2]
        split at hn
        · cases hn
        · rename_i c3
          rw [if_neg c3]
          split at hn
          · cases hn
          · rename_i c4
            have : t.length < 4 := by
              match t, c4 with
              | [], _ => simp
              | [_], _ => simp
              | [_, _], _ => simp
              | [_, _, _], _ => simp
              | x0 :: x1 :: x2 :: x3 :: y, c4 => exact absurd rfl (c4 x0 x1 x2 x3 y)
            rw [if_pos (by omega)]
theorem spl_ok {l : List Int} (hb : Bytes l) {n : Int} {p : Bool} {t' : List Int} (hn : rdl l = some (n, p, t')) : spec_ReadLength.f 6 l = some (n, p, (l.length : Int) - (t'.length : Int), 0) := by
  match l, hb, hn with
  | b :: t, hb, hn =>
    have ba : 0 ≤ b := (hb 0).1
    have bz : b ≤ 255 := (hb 0).2
    have rb : wrap64 (rd (b :: t) 0) = b := wrap64_id (by show (_ : Int) ≤ b; omega) (by show b ≤ _; omega)
    have ln : ((b :: t).length : Int) = (t.length : Int) + 1 := by simp
    unfold spec_ReadLength.f
    rw [rb, ln, if_neg (by omega), if_pos (by omega)]
    simp only [rdl] at hn
    split at hn
    · rename_i c1
      rw [if_pos c1]
      simp only [Option.some.injEq, Prod.mk.injEq] at hn
      obtain ⟨rfl, rfl, rfl⟩ := hn
      rw [show (t.length : Int) + 1 - (t.length : Int) = 1 by omega]
    · rename_i c1
      rw [if_neg c1]
      split at hn
      · rename_i c2
        rw [if_pos c2]
        split at hn
        · rename_i y u
          simp only [Option.some.injEq, Prod.mk.injEq] at hn
          obtain ⟨rfl, rfl, rfl⟩ := hn
          have ya : 0 ≤ y := (hb 1).1
          have yz : y ≤ 255 := (hb 1).2
          have ry : wrap64 (rd (b :: y :: u) 1) = y := wrap64_id (by show (_ : Int) ≤ y; omega) (by show y ≤ _; omega)
          have lu : ((y :: u).length : Int) = (u.length : Int) + 1 := by simp
          rw [lu, if_neg (by omega), if_pos (by omega), ry, show (u.length : Int) + 1 + 1 - (u.length : Int) = 2 by omega, wrap64_id (n := b - 192) (by omega) (by omega), wrap64_id (n := (b - 192) * 256) (by omega) (by omega), wrap64_id (n := (b - 192) * 256 + y) (by omega) (by omega), wrap64_id (by omega) (by omega), Int.add_assoc]
        · cases hn
      · rename_i c2
        rw [if_neg c2]
        split at hn
        · rename_i c3
          rw [if_pos c3]
          simp only [Option.some.injEq, Prod.mk.injEq] at hn
          obtain ⟨rfl, rfl, rfl⟩ := hn
          obtain ⟨m, rfl⟩ := Int.eq_ofNat_of_zero_le ba
          have := part_powp ⟨m, by omega⟩
          rw [if_pos this.1, this.2, show (t.length : Int) + 1 - (t.length : Int) = 1 by omega]
        · rename_i c3
          rw [if_neg c3]
          split at hn
          · rename_i b0 b1 b2 b3 u
            simp only [Option.some.injEq, Prod.mk.injEq] at hn
            obtain ⟨rfl, rfl, rfl⟩ := hn
            have lu : ((b0 :: b1 :: b2 :: b3 :: u).length : Int) = (u.length : Int) + 4 := by simp; omega
            rw [lu, if_neg (by omega), if_pos (by omega), if_pos (by omega)]
            have q := number4p (b0 := b0) (b1 := b1) (b2 := b2) (b3 := b3) (hb 1).1 (hb 1).2 (hb 2).1 (hb 2).2 (hb 3).1 (hb 3).2 (hb 4).1 (hb 4).2
            rw [show ((b :: b0 :: b1 :: b2 :: b3 :: u).take 5).drop 1 = [b0, b1, b2, b3] from rfl, q]
            show some _ = some _
            rw [show (u.length : Int) + 4 + 1 - (u.length : Int) = 5 by omega]
          · cases hn
theorem leo_upP {α : Type} {f : Nat → Option α} (h : ∀ k, LeO (f k) (f (k + 1))) {k : Nat} {r : α} (e : f k = some r) : ∀ d, f (k + d) = some r
  | 0 => e
  | d + 1 => h (k + d) r (leo_upP h e d)
theorem rl_up {l : List Int} {r : Int × Bool × Int × Int} (h : spec_ReadLength.f 6 l = some r) {k : Nat} (hk : 6 ≤ k) : spec_ReadLength.f k l = some r := by
  obtain ⟨d, rfl⟩ : ∃ d, k = 6 + d := ⟨k - 6, by omega⟩
  exact leo_upP (fun k => spec_ReadLength.mono l k) h d
/-- The numbers of one, two and four octets. -/
theorem num1p {a : Int} (ha : 0 ≤ a) (ha2 : a ≤ 255) : spec_Number.f 6 [a] = some a := by
  have i1 : wrap64 (0 + 1) = 1 := wrap64_id (by omega) (by omega)
  have ln : (([a] : List Int).length : Int) = 1 := rfl
  have r0 : rd [a] 0 = a := rfl
  have s0 : Go.bits .or .i64 (wrap64 (0 * 256)) (wrap64 a) = a := by
    rw [show wrap64 (0 * 256) = 0 from wrap64_id (by omega) (by omega), wrap64_id (by omega) (by omega), i64_join 8 0 a (by omega) (by omega) (by decide) (by omega) (by omega) (by omega)]; omega
  unfold spec_Number.f
  rw [ln, spec_Number.l0, if_pos (by decide), if_pos (by decide), if_pos (by rw [ln]; decide), r0, s0, i1, spec_Number.l0, if_neg (by decide)]
theorem num2p {a b : Int} (ha : 0 ≤ a) (ha2 : a ≤ 255) (hb : 0 ≤ b) (hb2 : b ≤ 255) : spec_Number.f 6 [a, b] = some (a * 256 + b) := by
  have i1 : wrap64 (0 + 1) = 1 := wrap64_id (by omega) (by omega)
  have i2 : wrap64 (1 + 1) = 2 := wrap64_id (by omega) (by omega)
  have ln : (([a, b] : List Int).length : Int) = 2 := rfl
  have r0 : rd [a, b] 0 = a := rfl
  have r1 : rd [a, b] 1 = b := rfl
  have s0 : Go.bits .or .i64 (wrap64 (0 * 256)) (wrap64 a) = a := by
    rw [show wrap64 (0 * 256) = 0 from wrap64_id (by omega) (by omega), wrap64_id (by omega) (by omega), i64_join 8 0 a (by omega) (by omega) (by decide) (by omega) (by omega) (by omega)]; omega
  have s1 : Go.bits .or .i64 (wrap64 (a * 256)) (wrap64 b) = a * 256 + b := by
    rw [wrap64_id (n := a * 256) (by omega) (by omega), wrap64_id (n := b) (by omega) (by omega), i64_join 8 _ b (by omega) (by omega) (by omega) (by omega) (by omega) (by omega)]
  unfold spec_Number.f
  rw [ln, spec_Number.l0, if_pos (by decide), if_pos (by decide), if_pos (by rw [ln]; decide), r0, s0, i1,
    spec_Number.l0, if_pos (by decide), if_pos (by decide), if_pos (by rw [ln]; decide), r1, s1, i2, spec_Number.l0, if_neg (by decide)]
theorem numBp : ∀ {l : List Int}, (l.length = 1 ∨ l.length = 2 ∨ l.length = 4) → (∀ x ∈ l, 0 ≤ x ∧ x ≤ 255) → spec_Number.f 6 l = some (numB l)
  | [a], _, h => by
    have := h a (by simp)
    rw [num1p this.1 this.2]; simp [numB]
  | [a, b], _, h => by
    have h0 := h a (by simp)
    have h1 := h b (by simp)
    rw [num2p h0.1 h0.2 h1.1 h1.2]; simp [numB]
  | [a, b, c, d], _, h => by
    have h0 := h a (by simp)
    have h1 := h b (by simp)
    have h2 := h c (by simp)
    have h3 := h d (by simp)
    rw [number4p h0.1 h0.2 h1.1 h1.2 h2.1 h2.2 h3.1 h3.2]
    simp only [numB, List.foldl_cons, List.foldl_nil]
    congr 1; omega
  | [], h, _ => by simp at h
  | [_, _, _], h, _ => by simp at h
  | _ :: _ :: _ :: _ :: _ :: _, h, _ => by simp at h
/-- How many octets an old length of this kind has. -/
def OldK (b : Int) (K : Nat) : Prop := b % 4 = 0 ∧ K = 1 ∨ b % 4 = 1 ∧ K = 2 ∨ b % 4 = 2 ∧ K = 4
/-- A header that can be read: the tag, the length that it tells, the body's bytes, whether they end as they should, what follows. -/
inductive Hdr : List Int → Int → Int → List Int → Bool → List Int → Prop
  | all {b : Int} {t : List Int} : 128 ≤ b → b < 192 → b % 4 = 3 → Hdr (b :: t) (b % 64 / 4) (-1) t true []
  | old {b : Int} {t : List Int} {K : Nat} : 128 ≤ b → b < 192 → OldK b K → K ≤ t.length → Hdr (b :: t) (b % 64 / 4) (numB (t.take K)) ((t.drop K).take (numB (t.take K)).toNat) (decide ((numB (t.take K)).toNat ≤ (t.drop K).length)) ((t.drop K).drop (numB (t.take K)).toNat)
  | new {b n : Int} {t t' : List Int} : 192 ≤ b → rdl t = some (n, false, t') → Hdr (b :: t) (b % 64) n (t'.take n.toNat) (decide (n.toNat ≤ t'.length)) (t'.drop n.toNat)
  | part {b n : Int} {t t' bd rest : List Int} {ok : Bool} : 192 ≤ b → rdl t = some (n, true, t') → Parts n.toNat true t' bd ok rest → Hdr (b :: t) (b % 64) (-1) bd ok rest
/-- One that cannot: 0: nothing is left; 1: it is none; 2: it is cut off. -/
inductive HdrNo : List Int → Nat → Prop
  | eof : HdrNo [] 0
  | bad {b : Int} {t : List Int} : b < 128 → HdrNo (b :: t) 1
  | cuto {b : Int} {t : List Int} {K : Nat} : 128 ≤ b → b < 192 → OldK b K → t.length < K → HdrNo (b :: t) 2
  | cutn {b : Int} {t : List Int} : 192 ≤ b → rdl t = none → HdrNo (b :: t) 2
theorem hdr_total {l : List Int} (hb : Bytes l) : (∃ e, HdrNo l e) ∨ ∃ tg n bd ok rest, Hdr l tg n bd ok rest := by
  match l, hb with
  | [], _ => exact .inl ⟨0, .eof⟩
  | b :: t, hb =>
    have h0 := hb 0
    simp only [List.getD_cons_zero] at h0
    by_cases h1 : b < 128
    · exact .inl ⟨1, .bad h1⟩
    by_cases h2 : b < 192
    · by_cases h3 : b % 4 = 3
      · exact .inr ⟨_, _, _, _, _, .all (by omega) h2 h3⟩
      · obtain ⟨K, hK⟩ : ∃ K, OldK b K := by
          by_cases q0 : b % 4 = 0
          · exact ⟨1, .inl ⟨q0, rfl⟩⟩
          by_cases q1 : b % 4 = 1
          · exact ⟨2, .inr (.inl ⟨q1, rfl⟩)⟩
          · exact ⟨4, .inr (.inr ⟨by omega, rfl⟩)⟩
        by_cases h4 : K ≤ t.length
        · exact .inr ⟨_, _, _, _, _, .old (by omega) h2 hK h4⟩
        · exact .inl ⟨2, .cuto (by omega) h2 hK (by omega)⟩
    · cases hr : rdl t with
      | none => exact .inl ⟨2, .cutn (by omega) hr⟩
      | some x =>
        obtain ⟨n, p, t'⟩ := x
        cases p with
        | false => exact .inr ⟨_, _, _, _, _, .new (by omega) hr⟩
        | true =>
          obtain ⟨bd, ok, rest, hp⟩ := Parts.any (t'.length + 1) n.toNat true t' (by omega)
          exact .inr ⟨_, _, _, _, _, .part (by omega) hr hp⟩
theorem Hdr.le {l bd rest : List Int} {tg n : Int} {ok : Bool} (h : Hdr l tg n bd ok rest) : bd.length + rest.length < l.length := by
  cases h with
  | all h1 h2 h3 => simp
  | old h1 h2 h3 h4 => simp; omega
  | new h1 h2 => have := rdl_lt h2; simp; omega
  | part h1 h2 h3 => have := rdl_lt h2; have := h3.le; simp; omega
theorem Hdr.tag {l bd rest : List Int} {tg n : Int} {ok : Bool} (h : Hdr l tg n bd ok rest) : 0 ≤ tg ∧ tg ≤ 63 := by
  cases h <;> omega
theorem Parts.bytes2 {n : Nat} {p : Bool} {L bd rest : List Int} {ok : Bool} (h : Parts n p L bd ok rest) (hb : Bytes L) : Bytes rest := by
  induction h with
  | short h => exact fun i => by simp
  | last h => exact bytesC_drop hb _
  | cut h _ => exact fun i => by simp
  | more h h2 h3 ih => exact ih (rdl_bytes h2 (bytesC_drop hb _))
theorem Hdr.bytes {l bd rest : List Int} {tg n : Int} {ok : Bool} (h : Hdr l tg n bd ok rest) (hb : Bytes l) : Bytes bd ∧ Bytes rest := by
  have ht : ∀ {b : Int} {t : List Int}, Bytes (b :: t) → Bytes t := fun h i => by simpa using h (i + 1)
  cases h with
  | all h1 h2 h3 => exact ⟨ht hb, fun i => by simp⟩
  | old h1 h2 h3 h4 => exact ⟨bytesC_take (bytesC_drop (ht hb) _) _, bytesC_drop (bytesC_drop (ht hb) _) _⟩
  | new h1 h2 => exact ⟨bytesC_take (rdl_bytes h2 (ht hb)) _, bytesC_drop (rdl_bytes h2 (ht hb)) _⟩
  | part h1 h2 h3 => exact ⟨h3.bytes (rdl_bytes h2 (ht hb)), h3.bytes2 (rdl_bytes h2 (ht hb))⟩
/-- packet.readHeader says it. -/
theorem rdh_ok {l : List Int} {tg n : Int} {bd rest : List Int} {ok : Bool} (hh : Hdr l tg n bd ok rest) {split : Int} {aE aU : Addr} {W : World} {d s : Nat} {A : Option Addr} {c : Nat} (hS : Src W d s A c l split) (hE : Env W d aE aU) :
    Calls Tryd.prog 54 #[(.iface 88 (.pointer (some ⟨s, 0, none⟩)))] W (HdOk W d s split tg n bd ok rest) := by
  cases hh with
  | all h1 h2 h3 => exact rh_all hS hE h1 h2 h3
  | old h1 h2 h3 h4 =>
    rcases h3 with ⟨h3, rfl⟩ | ⟨h3, rfl⟩ | ⟨h3, rfl⟩
    · exact rh_old1 hS hE h1 h2 h3 h4
    · exact rh_old2 hS hE h1 h2 h3 h4
    · exact rh_old4 hS hE h1 h2 h3 h4
  | new h1 h2 => exact rh_span hS hE h1 h2
  | part h1 h2 h3 => exact rh_part hS hE h1 h2 h3
/-- The error of a header that cannot be read. -/
def hdEr (aE aU : Addr) : Nat → Value → Prop
  | 0, v => v = (.iface 209 (.pointer (some aE)))
  | 1, v => ∃ m, v = .iface 130 (.string m)
  | _, v => v = (.iface 209 (.pointer (some aU)))
theorem rdh_no {l : List Int} {e : Nat} (hh : HdrNo l e) {split : Int} {aE aU : Addr} {W : World} {d s : Nat} {A : Option Addr} {c : Nat} (hS : Src W d s A c l split) (hE : Env W d aE aU) :
    Calls Tryd.prog 54 #[(.iface 88 (.pointer (some ⟨s, 0, none⟩)))] W fun en w' => ∃ er, hdEr aE aU e er ∧ HdNo W d s split er en w' := by
  cases hh with
  | eof => exact (rh_eof hS hE).mono fun en w' h => ⟨_, rfl, h⟩
  | bad h1 => exact (rh_bad hS hE h1).mono fun en w' ⟨m, h⟩ => ⟨_, ⟨m, rfl⟩, h⟩
  | cuto h1 h2 h3 h4 =>
    rcases h3 with ⟨h3, rfl⟩ | ⟨h3, rfl⟩ | ⟨h3, rfl⟩
    · exact (rh_oldno1 hS hE h1 h2 h3 h4).mono fun en w' h => ⟨_, rfl, h⟩
    · exact (rh_oldno2 hS hE h1 h2 h3 h4).mono fun en w' h => ⟨_, rfl, h⟩
    · exact (rh_oldno4 hS hE h1 h2 h3 h4).mono fun en w' h => ⟨_, rfl, h⟩
  | cutn h1 h2 => exact (rh_newno hS hE h1 h2).mono fun en w' h => ⟨_, rfl, h⟩
theorem andi128 : ∀ n : Nat, n < 256 → Go.bits .and .i64 (n : Int) 128 = if n < 128 then 0 else 128 := by decide +kernel
theorem andi64 : ∀ n : Nat, n < 256 → 128 ≤ n → Go.bits .and .i64 (n : Int) 64 = if n < 192 then 0 else 64 := by decide +kernel
theorem andi63 : ∀ n : Nat, n < 256 → Go.bits .and .i64 (n : Int) 63 = ((n % 64 : Nat) : Int) := by decide +kernel
theorem andi3 : ∀ n : Nat, n < 256 → Go.bits .and .i64 (n : Int) 3 = ((n % 4 : Nat) : Int) := by decide +kernel
theorem andi15 : ∀ n : Nat, n < 64 → Go.bits .and .i64 (n : Int) 15 = ((n % 16 : Nat) : Int) := by decide +kernel
theorem shl123 : shl .i64 1 0 = 1 ∧ shl .i64 1 1 = 2 ∧ shl .i64 1 2 = 4 := by decide +kernel
section
variable {b : Int} {t : List Int}
theorem sh_bad (b0 : 0 ≤ b) (h : b < 128) : spec_ReadHead.f 6 (b :: t) = some (0, false, 0, false, 0, 2) := by
  obtain ⟨n, rfl⟩ := Int.eq_ofNat_of_zero_le b0
  have n8 : n < 256 := by omega
  have rb : wrap64 (rd ((n : Int) :: t) 0) = (n : Int) := wrap64_id (by show (_ : Int) ≤ (n : Int); omega) (by show (n : Int) ≤ _; omega)
  have ln : (((n : Int) :: t).length : Int) = (t.length : Int) + 1 := by simp
  unfold spec_ReadHead.f
  rw [rb, ln, if_neg (by omega), if_pos (by omega), andi128 n n8]
  rw [if_pos (by rw [if_pos (by omega)])]
theorem sh_all (b0 : 0 ≤ b) (h1 : 128 ≤ b) (h2 : b < 192) (h3 : b % 4 = 3) : spec_ReadHead.f 6 (b :: t) = some (b % 64 / 4, true, -1, false, 1, 0) := by
  obtain ⟨n, rfl⟩ := Int.eq_ofNat_of_zero_le b0
  have n8 : n < 256 := by omega
  have rb : wrap64 (rd ((n : Int) :: t) 0) = (n : Int) := wrap64_id (by show (_ : Int) ≤ (n : Int); omega) (by show (n : Int) ≤ _; omega)
  have ln : (((n : Int) :: t).length : Int) = (t.length : Int) + 1 := by simp
  unfold spec_ReadHead.f
  rw [rb, ln, if_neg (by omega), if_pos (by omega), andi128 n n8]
  rw [if_neg (by rw [if_neg (by omega)]; decide), andi64 n n8 (by omega), if_pos (by rw [if_pos (by omega)]), andi3 n n8, if_pos (by omega), show (n : Int) / 4 = ((n / 4 : Nat) : Int) by omega, andi15 (n / 4) (by omega), show ((n / 4 % 16 : Nat) : Int) = (n : Int) % 64 / 4 by omega]
theorem sh_oldno {K : Nat} (b0 : 0 ≤ b) (h1 : 128 ≤ b) (h2 : b < 192) (hK : OldK b K) (ht : t.length < K) : spec_ReadHead.f 6 (b :: t) = some (0, false, 0, false, 0, 1) := by
  obtain ⟨n, rfl⟩ := Int.eq_ofNat_of_zero_le b0
  have n8 : n < 256 := by omega
  have rb : wrap64 (rd ((n : Int) :: t) 0) = (n : Int) := wrap64_id (by show (_ : Int) ≤ (n : Int); omega) (by show (n : Int) ≤ _; omega)
  have ln : (((n : Int) :: t).length : Int) = (t.length : Int) + 1 := by simp
  unfold spec_ReadHead.f
  rw [rb, ln, if_neg (by omega), if_pos (by omega), andi128 n n8]
  rw [if_neg (by rw [if_neg (by omega)]; decide), andi64 n n8 (by omega), if_pos (by rw [if_pos (by omega)]), andi3 n n8]
  have sh : shl .i64 1 ((n % 4 : Nat) : Int) = (K : Int) := by
    rcases hK with ⟨q, rfl⟩ | ⟨q, rfl⟩ | ⟨q, rfl⟩
    · rw [show n % 4 = 0 by omega]; exact shl123.1
    · rw [show n % 4 = 1 by omega]; exact shl123.2.1
    · rw [show n % 4 = 2 by omega]; exact shl123.2.2
  have k4 : K ≤ 4 := by rcases hK with ⟨_, rfl⟩ | ⟨_, rfl⟩ | ⟨_, rfl⟩ <;> omega
  have w1 : wrap64 (1 + (K : Int)) = 1 + (K : Int) := wrap64_id (by omega) (by omega)
  rw [if_neg (by unfold OldK at hK; omega), if_pos (by omega), sh, w1, if_pos (by omega)]
theorem sh_old {K : Nat} (b0 : 0 ≤ b) (h1 : 128 ≤ b) (h2 : b < 192) (hK : OldK b K) (ht : K ≤ t.length) (hb : ∀ x ∈ t, 0 ≤ x ∧ x ≤ 255) : spec_ReadHead.f 6 (b :: t) = some (b % 64 / 4, true, numB (t.take K), false, 1 + (K : Int), 0) := by
  obtain ⟨n, rfl⟩ := Int.eq_ofNat_of_zero_le b0
  have n8 : n < 256 := by omega
  have rb : wrap64 (rd ((n : Int) :: t) 0) = (n : Int) := wrap64_id (by show (_ : Int) ≤ (n : Int); omega) (by show (n : Int) ≤ _; omega)
  have ln : (((n : Int) :: t).length : Int) = (t.length : Int) + 1 := by simp
  unfold spec_ReadHead.f
  rw [rb, ln, if_neg (by omega), if_pos (by omega), andi128 n n8]
  rw [if_neg (by rw [if_neg (by omega)]; decide), andi64 n n8 (by omega), if_pos (by rw [if_pos (by omega)]), andi3 n n8]
  have sh : shl .i64 1 ((n % 4 : Nat) : Int) = (K : Int) := by
    rcases hK with ⟨q, rfl⟩ | ⟨q, rfl⟩ | ⟨q, rfl⟩
    · rw [show n % 4 = 0 by omega]; exact shl123.1
    · rw [show n % 4 = 1 by omega]; exact shl123.2.1
    · rw [show n % 4 = 2 by omega]; exact shl123.2.2
  have k4 : K = 1 ∨ K = 2 ∨ K = 4 := by rcases hK with ⟨_, h⟩ | ⟨_, h⟩ | ⟨_, h⟩ <;> omega
  have w1 : wrap64 (1 + (K : Int)) = 1 + (K : Int) := wrap64_id (by omega) (by omega)
  have tk : (((n : Int) :: t).take (1 + (K : Int)).toNat).drop 1 = t.take K := by
    rw [show (1 + (K : Int)).toNat = K + 1 by omega]; rfl
  have ln2 : (t.take K).length = K := by rw [List.length_take]; omega
  rw [if_neg (by unfold OldK at hK; omega), if_pos (by omega), sh, w1, if_neg (by omega), if_pos (by omega), if_pos (by omega), tk, numBp (by rw [ln2]; exact k4) (fun x hx => hb x (List.mem_of_mem_take hx)), Option.bind_some, show (n : Int) / 4 = ((n / 4 : Nat) : Int) by omega, andi15 (n / 4) (by omega), show ((n / 4 % 16 : Nat) : Int) = (n : Int) % 64 / 4 by omega]
theorem sh_newno (b0 : 0 ≤ b) (b1 : b ≤ 255) (h1 : 192 ≤ b) (hb : Bytes t) (hr : rdl t = none) : spec_ReadHead.f 6 (b :: t) = some (0, false, 0, false, 0, 1) := by
  obtain ⟨n, rfl⟩ := Int.eq_ofNat_of_zero_le b0
  have n8 : n < 256 := by omega
  have rb : wrap64 (rd ((n : Int) :: t) 0) = (n : Int) := wrap64_id (by show (_ : Int) ≤ (n : Int); omega) (by show (n : Int) ≤ _; omega)
  have ln : (((n : Int) :: t).length : Int) = (t.length : Int) + 1 := by simp
  unfold spec_ReadHead.f
  rw [rb, ln, if_neg (by omega), if_pos (by omega), andi128 n n8]
  rw [if_neg (by rw [if_neg (by omega)]; decide), andi64 n n8 (by omega), if_neg (by rw [if_neg (by omega)]; decide), if_pos (by omega)]
  rw [show ((n : Int) :: t).drop 1 = t from rfl, spl_no hb hr, Option.bind_some, if_neg (by decide)]
theorem sh_new (b0 : 0 ≤ b) (b1 : b ≤ 255) (h1 : 192 ≤ b) (hb : Bytes t) {m : Int} {p : Bool} {t' : List Int} (hr : rdl t = some (m, p, t')) (hl : t.length ≤ 100000000) : spec_ReadHead.f 6 (b :: t) = some (b % 64, false, m, p, 1 + ((t.length : Int) - (t'.length : Int)), 0) := by
  obtain ⟨n, rfl⟩ := Int.eq_ofNat_of_zero_le b0
  have n8 : n < 256 := by omega
  have rb : wrap64 (rd ((n : Int) :: t) 0) = (n : Int) := wrap64_id (by show (_ : Int) ≤ (n : Int); omega) (by show (n : Int) ≤ _; omega)
  have ln : (((n : Int) :: t).length : Int) = (t.length : Int) + 1 := by simp
  unfold spec_ReadHead.f
  rw [rb, ln, if_neg (by omega), if_pos (by omega), andi128 n n8]
  have hlt := rdl_lt hr
  rw [if_neg (by rw [if_neg (by omega)]; decide), andi64 n n8 (by omega), if_neg (by rw [if_neg (by omega)]; decide), if_pos (by omega)]
  rw [show ((n : Int) :: t).drop 1 = t from rfl, spl_ok hb hr, Option.bind_some]
  dsimp only
  rw [if_pos rfl, andi63 n n8, wrap64_id (by omega) (by omega), show ((n % 64 : Nat) : Int) = (n : Int) % 64 by omega]
end
theorem drop_pre (a t : List Int) : (a ++ t).drop ((a ++ t).length - t.length) = t := by
  rw [List.length_append, Nat.add_sub_cancel, List.drop_left]
theorem rdl_rest : ∀ {l : List Int} {n : Int} {p : Bool} {t : List Int}, rdl l = some (n, p, t) → l.drop (l.length - t.length) = t
  | [], _, _, _, h => by simp [rdl] at h
  | b :: t0, n, p, t, h => by
    simp only [rdl] at h
    split at h
    · simp only [Option.some.injEq, Prod.mk.injEq] at h; obtain ⟨_, _, rfl⟩ := h; exact drop_pre [_] _
    · split at h
      · split at h
        · simp only [Option.some.injEq, Prod.mk.injEq] at h; obtain ⟨_, _, rfl⟩ := h
          exact drop_pre [_, _] _
        · cases h
      · split at h
        · simp only [Option.some.injEq, Prod.mk.injEq] at h; obtain ⟨_, _, rfl⟩ := h; exact drop_pre [_] _
        · split at h
          · simp only [Option.some.injEq, Prod.mk.injEq] at h; obtain ⟨_, _, rfl⟩ := h
            exact drop_pre [_, _, _, _, _] _
          · cases h
/-- The parts of a body, put together. -/
theorem parts_loop {n : Nat} {p : Bool} {L bd rest : List Int} {ok : Bool} (h : Parts n p L bd ok rest) : ∀ (x0 : List Int) (at_ : Nat) (tg : Int) (acc : List Int), Bytes x0 → x0.length ≤ 100000000 → n ≤ 4294967296 → acc.length + L.length ≤ 1000000000 → at_ ≤ x0.length → x0.drop at_ = L →
    ∃ k, spec_ReadPacket.l0 (k + 7) x0 (at_ : Int) (n : Int) p tg acc = if ok = true then some (tg, acc ++ bd, (x0.length : Int) - (rest.length : Int), 0) else some (0, [], 0, 1) := by
  have W : ∀ {x : Int}, -9223372036854775808 ≤ x → x ≤ 9223372036854775807 → wrap64 x = x := fun a b => wrap64_id a b
  induction h with
  | @short n p L hs =>
    intro x0 a tg acc hb hx hn hacc ha hd
    have hl : L.length = x0.length - a := by rw [← hd, List.length_drop]
    refine ⟨0, ?_⟩
    rw [spec_ReadPacket.l0, W (by omega) (by omega), if_pos (by omega)]
    rfl
  | @last n L hs =>
    intro x0 a tg acc hb hx hn hacc ha hd
    have hl : L.length = x0.length - a := by rw [← hd, List.length_drop]
    have tk : (x0.take (a + n)).drop a = L.take n := by rw [← hd, List.drop_take, show a + n - a = n by omega]
    refine ⟨0, ?_⟩
    rw [spec_ReadPacket.l0, W (by omega) (by omega), if_neg (by omega), W (x := (a : Int) + (n : Int)) (by omega) (by omega), if_pos (by omega), if_pos (by omega), if_pos (by omega), show ((a : Int) + (n : Int)).toNat = a + n by omega, Int.toNat_natCast, tk, if_pos (by rw [List.length_take]; omega), Option.bind_some, if_neg (by decide), if_pos rfl]
    congr 4
    rw [List.length_drop]; omega
  | @cut n L hs hr =>
    intro x0 a tg acc hb hx hn hacc ha hd
    have hl : L.length = x0.length - a := by rw [← hd, List.length_drop]
    have tk : (x0.take (a + n)).drop a = L.take n := by rw [← hd, List.drop_take, show a + n - a = n by omega]
    have dr : x0.drop (a + n) = L.drop n := by rw [← hd, List.drop_drop]
    refine ⟨0, ?_⟩
    rw [spec_ReadPacket.l0, W (by omega) (by omega), if_neg (by omega), W (x := (a : Int) + (n : Int)) (by omega) (by omega), if_pos (by omega), if_pos (by omega), if_pos (by omega), show ((a : Int) + (n : Int)).toNat = a + n by omega, Int.toNat_natCast, tk, if_pos (by rw [List.length_take]; omega), Option.bind_some, if_pos rfl, if_pos (by omega), dr, spl_no (by rw [← dr]; exact bytesC_drop hb _) hr, Option.bind_some, if_neg (by decide)]
    rfl
  | @more n L n' p' t bd ok rest hs hr hp ih =>
    intro x0 a tg acc hb hx hn hacc ha hd
    have hl : L.length = x0.length - a := by rw [← hd, List.length_drop]
    have tk : (x0.take (a + n)).drop a = L.take n := by rw [← hd, List.drop_take, show a + n - a = n by omega]
    have dr : x0.drop (a + n) = L.drop n := by rw [← hd, List.drop_drop]
    have hbd : Bytes (L.drop n) := by rw [← dr]; exact bytesC_drop hb _
    have hlt := rdl_lt hr
    have hdl : (L.drop n).length = L.length - n := List.length_drop
    have hn' := rdl_bound hr hbd
    have ht : (L.drop n).drop ((L.drop n).length - t.length) = t := rdl_rest hr
    obtain ⟨k, hk⟩ := ih x0 (a + n + ((L.drop n).length - t.length)) tg (acc ++ L.take n) hb hx (by omega) (by rw [List.length_append, List.length_take]; omega) (by omega) (by rw [← List.drop_drop, dr]; exact ht)
    refine ⟨k + 1, ?_⟩
    rw [show k + 1 + 7 = (k + 7) + 1 by omega, spec_ReadPacket.l0, W (by omega) (by omega), if_neg (by omega), W (x := (a : Int) + (n : Int)) (by omega) (by omega), if_pos (by omega), if_pos (by omega), if_pos (by omega), show ((a : Int) + (n : Int)).toNat = a + n by omega, Int.toNat_natCast, tk, if_pos (by rw [List.length_take]; omega), Option.bind_some, if_pos rfl, if_pos (by omega), dr, rl_up (spl_ok hbd hr) (show 6 ≤ k + 7 by omega), Option.bind_some]
    dsimp only
    rw [if_pos rfl, W (by omega) (by omega)]
    rw [show (a : Int) + (n : Int) + (((L.drop n).length : Int) - (t.length : Int)) = ((a + n + ((L.drop n).length - t.length) : Nat) : Int) by omega, show n' = ((n'.toNat : Nat) : Int) by omega]
    rw [hk, List.append_assoc]
/-- spec.ReadPacket says it. -/
theorem sp_head_no {l : List Int} {e : Nat} (hh : HdrNo l e) (hb : Bytes l) : ∃ hw, hw ≠ 0 ∧ spec_ReadPacket.f 6 l = some (0, [], 0, hw) := by
  have cl : ∀ {hw : Int}, hw ≠ 0 → spec_ReadHead.f 6 l = some (0, false, 0, false, 0, hw) → ∃ hw, hw ≠ 0 ∧ spec_ReadPacket.f 6 l = some (0, [], 0, hw) := fun {hw} h0 h => ⟨hw, h0, by
    unfold spec_ReadPacket.f
    rw [h, Option.bind_some, if_neg (by exact h0)]⟩
  have ht : ∀ {b : Int} {t : List Int}, Bytes (b :: t) → (0 ≤ b ∧ b ≤ 255) ∧ Bytes t := fun h => ⟨by simpa using h 0, fun i => by simpa using h (i + 1)⟩
  cases hh with
  | eof => exact cl (hw := 1) (by decide) rfl
  | bad h1 => exact cl (hw := 2) (by decide) (sh_bad (ht hb).1.1 h1)
  | cuto h1 h2 h3 h4 => exact cl (hw := 1) (by decide) (sh_oldno (ht hb).1.1 h1 h2 h3 h4)
  | cutn h1 h2 => exact cl (hw := 1) (by decide) (sh_newno (ht hb).1.1 (ht hb).1.2 h1 (ht hb).2 h2)
theorem sp_head {l : List Int} {tg n : Int} {bd rest : List Int} {ok : Bool} (hh : Hdr l tg n bd ok rest) (hb : Bytes l) (hl : l.length ≤ 10000000) :
    ∃ k, spec_ReadPacket.f k l = if ok = true then some (tg, bd, (l.length : Int) - (rest.length : Int), 0) else some (0, [], 0, 1) := by
  have ht : ∀ {b : Int} {t : List Int}, Bytes (b :: t) → (0 ≤ b ∧ b ≤ 255) ∧ Bytes t := fun h => ⟨by simpa using h 0, fun i => by simpa using h (i + 1)⟩
  have up : ∀ {r : Int × Bool × Int × Bool × Int × Int}, spec_ReadHead.f 6 l = some r → ∀ k, 6 ≤ k → spec_ReadHead.f k l = some r := fun h k hk => by
    obtain ⟨d, rfl⟩ : ∃ d, k = 6 + d := ⟨k - 6, by omega⟩
    exact leo_upP (fun k => spec_ReadHead.mono l k) h d
  -- a header with a length
  have go : ∀ {old p : Bool} {m sz : Nat}, spec_ReadHead.f 6 l = some (tg, old, (m : Int), p, (sz : Int), 0) → m ≤ 4294967296 → sz ≤ l.length → Parts m p (l.drop sz) bd ok rest → ∃ k, spec_ReadPacket.f k l = if ok = true then some (tg, bd, (l.length : Int) - (rest.length : Int), 0) else some (0, [], 0, 1) := by
    intro old p m sz h hm hs hp
    obtain ⟨k, hk⟩ := parts_loop hp l sz tg [] hb (by omega) hm (by rw [List.length_drop, List.length_nil]; omega) hs rfl
    refine ⟨k + 7, ?_⟩
    unfold spec_ReadPacket.f
    rw [up h (k + 7) (by omega), Option.bind_some, if_pos rfl, if_neg (by show ¬ (m : Int) < 0; omega), hk, List.nil_append]
  have span : ∀ (m : Nat) (L : List Int), Parts m false L (L.take m) (decide (m ≤ L.length)) (L.drop m) := fun m L => by
    by_cases q : m ≤ L.length
    · rw [decide_eq_true q]; exact .last q
    · rw [decide_eq_false q, List.take_of_length_le (by omega), List.drop_of_length_le (by omega)]; exact .short (by omega)
  cases hh with
  | @all b _ h1 h2 h3 =>
    refine ⟨6, ?_⟩
    unfold spec_ReadPacket.f
    rw [sh_all (ht hb).1.1 h1 h2 h3, Option.bind_some]
    dsimp only
    rw [if_pos rfl, if_pos (by decide), if_pos (by decide), if_pos (by rw [List.length_cons]; omega), show ((1 : Int)).toNat = 1 from rfl, show (b :: bd).drop 1 = bd from rfl, if_pos (by rw [List.length_cons] at hl; rw [List.length_nil]; omega), if_pos rfl, List.nil_append, List.length_nil]
    congr 4
  | @old b t K h1 h2 h3 h4 =>
    have hbd := numB_bound (l := t.take K) 4 (fun x hx => bytes_mem (ht hb).2 x (List.mem_of_mem_take hx)) (by rw [List.length_take]; rcases h3 with ⟨_, rfl⟩ | ⟨_, rfl⟩ | ⟨_, rfl⟩ <;> omega)
    have e := sh_old (ht hb).1.1 h1 h2 h3 h4 (bytes_mem (ht hb).2)
    have h0 := hbd.1
    rw [show numB (t.take K) = (((numB (t.take K)).toNat : Nat) : Int) by omega] at e
    have h256 : (256 : Int) ^ 4 = 4294967296 := by decide
    have hm2 := hbd.2
    refine go (old := true) (p := false) (m := (numB (t.take K)).toNat) (sz := 1 + K) (by rw [e, Int.natCast_add]; rfl) (by omega) (by rw [List.length_cons]; omega) ?_
    rw [show (b :: t).drop (1 + K) = t.drop K by rw [Nat.add_comm]; rfl]
    exact span _ _
  | @new b n t t' h1 h2 =>
    have hlt := rdl_lt h2
    have hn := rdl_bound h2 (ht hb).2
    have e := sh_new (ht hb).1.1 (ht hb).1.2 h1 (ht hb).2 h2 (by simp at hl; omega)
    have h0 := hn.1
    rw [show n = ((n.toNat : Nat) : Int) by omega] at e
    refine go (old := false) (m := n.toNat) (sz := 1 + (t.length - t'.length)) (by rw [e, show ((1 + (t.length - t'.length) : Nat) : Int) = 1 + ((t.length : Int) - (t'.length : Int)) by omega]) (by omega) (by rw [List.length_cons]; omega) ?_
    rw [show (b :: t).drop (1 + (t.length - t'.length)) = t.drop (t.length - t'.length) by rw [Nat.add_comm]; rfl, rdl_rest h2]
    exact span _ _
  | @part b n t t' _ _ _ h1 h2 h3 =>
    have hlt := rdl_lt h2
    have hn := rdl_bound h2 (ht hb).2
    have e := sh_new (ht hb).1.1 (ht hb).1.2 h1 (ht hb).2 h2 (by simp at hl; omega)
    have h0 := hn.1
    rw [show n = ((n.toNat : Nat) : Int) by omega] at e
    refine go (old := false) (m := n.toNat) (sz := 1 + (t.length - t'.length)) (by rw [e, show ((1 + (t.length - t'.length) : Nat) : Int) = 1 + ((t.length : Int) - (t'.length : Int)) by omega]) (by omega) (by rw [List.length_cons]; omega) ?_
    rw [show (b :: t).drop (1 + (t.length - t'.length)) = t.drop (t.length - t'.length) by rw [Nat.add_comm]; rfl, rdl_rest h2]
    exact h3
end Go.Proofs.YtjdnnpfhlkgooaaDoor.Rd
