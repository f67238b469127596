/- packet.OpaqueSubpackets: all subpackets of an area. -/
import Derived.Test.YtfhefoaieefnkaaDoorNsn
set_option linter.unusedVariables false
set_option linter.unusedSimpArgs false
namespace Go.Proofs.YtfhefoaieefnkaaDoor.Rd
open Go.RowKit Go.Proofs.YtfhefoaieefnkaaDoorW.PrintWords Go.Proofs.YtfhefoaieefnkaaDoorW.PrintMore Go.Proofs.YtfhefoaieefnkaaDoor.Kit

/-- The first subpacket of an area (type, length as it stands, contents), and what follows. -/
def subOne : List Int → Option ((Int × List Int × List Int) × List Int)
  | [] => none
  | a :: t => if a < 192 then (match t with | b :: t => if 1 ≤ a.toNat ∧ a.toNat ≤ t.length + 1 then some ((b, [a], t.take (a.toNat - 1)), t.drop (a.toNat - 1)) else none | _ => none)
    else if a < 255 then (match t with | b :: x :: t => if ((a - 192) * 256 + b + 192).toNat ≤ t.length + 1 then some ((x, [a, b], t.take (((a - 192) * 256 + b + 192).toNat - 1)), t.drop (((a - 192) * 256 + b + 192).toNat - 1)) else none | _ => none)
    else (match t with | b :: d :: e :: f :: x :: t => if 1 ≤ (b * 16777216 + d * 65536 + e * 256 + f).toNat ∧ (b * 16777216 + d * 65536 + e * 256 + f).toNat ≤ t.length + 1 then some ((x, [a, b, d, e, f], t.take ((b * 16777216 + d * 65536 + e * 256 + f).toNat - 1)), t.drop ((b * 16777216 + d * 65536 + e * 256 + f).toNat - 1)) else none | _ => none)
theorem subOne_cat {l r : List Int} {s : Int × List Int × List Int} (h : subOne l = some (s, r)) : l = s.2.1 ++ s.1 :: (s.2.2 ++ r) := by
  match l with
  | [] => cases h
  | a :: t =>
    simp only [subOne] at h
    split at h
    · match t with
      | [] => cases h
      | b :: t =>
        simp only at h
        split at h
        · injection h with h; injection h with h1 h2; subst h1 h2; simp
        · cases h
    · split at h
      · match t with
        | [] => cases h
        | [_] => cases h
        | b :: x :: t =>
          simp only at h
          split at h
          · injection h with h; injection h with h1 h2; subst h1 h2; simp
          · cases h
      · match t with
        | [] => cases h
        | [_] => cases h
        | [_, _] => cases h
        | [_, _, _] => cases h
        | [_, _, _, _] => cases h
        | b :: d :: e :: f :: x :: t =>
          simp only at h
          split at h
          · injection h with h; injection h with h1 h2; subst h1 h2; simp
          · cases h
theorem by_head {a : Int} {t : List Int} (h : Bytes (a :: t)) : 0 ≤ a ∧ a ≤ 255 := h 0
theorem by_tail {a : Int} {t : List Int} (h : Bytes (a :: t)) : Bytes t := fun i => h (i + 1)
section
variable {w : World} {A : Option Addr} {c : Nat} {l r : List Int} {s : Int × List Int × List Int}
theorem nsp_some (hb : Bytes l) (h : subOne l = some (s, r)) (hr : C8 w A l) (hc : l.length ≤ c) (hl : l.length ≤ 100000000) :
    Calls Tryd.prog 77 #[.slice A l.length c] w (NspOk w A l (s.2.1.length + 1) s.1 s.2.1 s.2.2) := by
  match l with
  | [] => cases h
  | a :: t =>
    have ha := by_head hb
    have hbt := by_tail hb
    simp only [subOne] at h
    split at h
    · rename_i a2
      match t with
      | [] => cases h
      | b :: t =>
        have hb1 := by_head hbt
        simp only at h
        split at h
        · rename_i q
          injection h with h; injection h with h1 h2; subst h1 h2
          obtain ⟨n, rfl⟩ := Int.eq_ofNat_of_zero_le ha.1
          rw [Int.toNat_natCast] at q ⊢
          exact nsp_one rfl hr hc hl (by omega) hb1.1 hb1.2 q.1 rfl q.2
        · cases h
    · rename_i a1
      split at h
      · rename_i a2
        match t with
        | [] => cases h
        | [_] => cases h
        | b :: x :: t =>
          have hb1 := by_head hbt
          have hx1 := by_head (by_tail hbt)
          simp only at h
          split at h
          · rename_i q
            injection h with h; injection h with h1 h2; subst h1 h2
            exact nsp_two rfl hr hc hl (by omega) a2 hb1.1 hb1.2 hx1.1 hx1.2 (by omega) (by omega) q
          · cases h
      · rename_i a2
        obtain rfl : a = 255 := by omega
        match t with
        | [] => cases h
        | [_] => cases h
        | [_, _] => cases h
        | [_, _, _] => cases h
        | [_, _, _, _] => cases h
        | b :: d :: e :: f :: x :: t =>
          have hb1 := by_head hbt
          have hd1 := by_head (by_tail hbt)
          have he1 := by_head (by_tail (by_tail hbt))
          have hf1 := by_head (by_tail (by_tail (by_tail hbt)))
          have hx1 := by_head (by_tail (by_tail (by_tail (by_tail hbt))))
          simp only at h
          split at h
          · rename_i q
            injection h with h; injection h with h1 h2; subst h1 h2
            exact nsp_five rfl hr hc hl hb1.1 hb1.2 hd1.1 hd1.2 he1.1 he1.2 hf1.1 hf1.2 hx1.1 hx1.2 q.1 (by omega) q.2
          · cases h
theorem nsp_none (hb : Bytes l) (h0 : 0 < l.length) (h : subOne l = none) (hr : C8 w A l) (hc : l.length ≤ c) (hl : l.length ≤ 100000000) :
    Calls Tryd.prog 77 #[.slice A l.length c] w (NspNo w) := by
  match l with
  | [] => exact absurd h0 (Nat.lt_irrefl 0)
  | a :: t =>
    have ha := by_head hb
    have hbt := by_tail hb
    simp only [subOne] at h
    split at h
    · rename_i a2
      match t with
      | [] => exact nsn_one_cut rfl hr hc hl a2 (by simp)
      | b :: t =>
        have hb1 := by_head hbt
        simp only at h
        split at h
        · cases h
        · rename_i q
          obtain ⟨n, rfl⟩ := Int.eq_ofNat_of_zero_le ha.1
          rw [Int.toNat_natCast] at q
          by_cases n0 : n = 0
          · exact nsn_one_zero rfl hr hc hl hb1.1 hb1.2 rfl n0
          · exact nsn_one_big rfl hr hc hl (by omega) hb1.1 hb1.2 rfl (by omega)
    · rename_i a1
      split at h
      · rename_i a2
        match t with
        | [] => exact nsn_two_cut rfl hr hc hl (by omega) a2 (by simp)
        | [_] => exact nsn_two_cut rfl hr hc hl (by omega) a2 (by simp)
        | b :: x :: t =>
          have hb1 := by_head hbt
          simp only at h
          split at h
          · cases h
          · rename_i q
            exact nsn_two_big (n := ((a - 192) * 256 + b + 192).toNat) rfl hr hc hl (by omega) a2 hb1.1 hb1.2 (by omega) (by omega)
      · rename_i a2
        match t with
        | [] => exact nsn_five_cut rfl hr hc hl (by omega) (by simp)
        | [_] => exact nsn_five_cut rfl hr hc hl (by omega) (by simp)
        | [_, _] => exact nsn_five_cut rfl hr hc hl (by omega) (by simp)
        | [_, _, _] => exact nsn_five_cut rfl hr hc hl (by omega) (by simp)
        | [_, _, _, _] => exact nsn_five_cut rfl hr hc hl (by omega) (by simp)
        | b :: d :: e :: f :: x :: t =>
          obtain rfl : a = 255 := by omega
          have hb1 := by_head hbt
          have hd1 := by_head (by_tail hbt)
          have he1 := by_head (by_tail (by_tail hbt))
          have hf1 := by_head (by_tail (by_tail (by_tail hbt)))
          simp only at h
          split at h
          · cases h
          · rename_i q
            by_cases n0 : (b * 16777216 + d * 65536 + e * 256 + f).toNat = 0
            · exact nsn_five_zero (n := (b * 16777216 + d * 65536 + e * 256 + f).toNat) rfl hr hc hl hb1.1 hb1.2 hd1.1 hd1.2 he1.1 he1.2 hf1.1 hf1.2 (by omega) n0
            · exact nsn_five_big (n := (b * 16777216 + d * 65536 + e * 256 + f).toNat) rfl hr hc hl hb1.1 hb1.2 hd1.1 hd1.2 he1.1 he1.2 hf1.1 hf1.2 (by omega) (by omega)
end
/-- All subpackets of an area; whether it ends with one. -/
def subsAll : Nat → List Int → List (Int × List Int × List Int) × Bool
  | _, [] => ([], true)
  | 0, _ => ([], false)
  | n + 1, l => match subOne l with
    | none => ([], false)
    | some (s, r) => (s :: (subsAll n r).1, (subsAll n r).2)
theorem subsAll_none {n : Nat} {l : List Int} (h0 : 0 < l.length) (h : subOne l = none) : subsAll n l = ([], false) := by
  match n, l with
  | 0, _ :: _ => rfl
  | n + 1, a :: t => simp only [subsAll, h]
theorem subsAll_some {n : Nat} {l r : List Int} {s : Int × List Int × List Int} (h : subOne l = some (s, r)) : subsAll (n + 1) l = (s :: (subsAll n r).1, (subsAll n r).2) := by
  match l with
  | [] => cases h
  | a :: t => simp only [subsAll, h]
theorem subsAll_nil (n : Nat) : subsAll n [] = ([], true) := by cases n <;> rfl
def kP : Kd Nat := Kd.scalar (fun b : Nat => Value.pointer (some ⟨b, 0, none⟩)) (fun _ => rfl)
theorem infoP : (Tryd.prog.info? 127).map (fun i => (i.zero, i.size, i.bytes)) = some (some (.pointer none), 1, 8) := by kernel_rfl
/-- A row of pointers to subpackets. -/
def Subs (Q : World → Prop) (w : World) (base : Nat) (v : Value) (ss : List (Int × List Int × List Int)) : Prop :=
  ∃ bs : List Nat, kP.R 127 w base (fun _ => True) v bs ∧ bs.length = ss.length ∧ ∀ (i b : Nat) (s : Int × List Int × List Int), bs[i]? = some b → ss[i]? = some s → SbAt Q w b s.1 s.2.1 s.2.2 ∧ some b ≠ v.ownBlock ∧ base ≤ b
theorem Subs.below {Q : World → Prop} {w w1 : World} {base : Nat} {v : Value} {ss : List (Int × List Int × List Int)} (h : Subs Q w base v ss) (hB : Below w.heap.size w w1) : Subs Q w1 base v ss := by
  obtain ⟨bs, h1, h2, h3⟩ := h
  exact ⟨bs, Kd.R_below h1 hB, h2, fun i b s e1 e2 => ⟨(h3 i b s e1 e2).1.kept (hB.block b (h3 i b s e1 e2).1.lt), (h3 i b s e1 e2).2⟩⟩
def lenS : Value → Nat
  | .slice _ n _ => n
  | _ => 0
set_option maxHeartbeats 1600000 in
set_option maxRecDepth 100000 in
theorem osp_calls {w : World} {A : Option Addr} {c n : Nat} {l : List Int} (hr : C8 w A l) (hc : l.length ≤ c) (hn : n = l.length) (hb : Bytes l) (hl : l.length ≤ 100000000) :
    Calls Tryd.prog 56 #[.slice A n c] w fun en w' => ∃ v er, en = .returned (.tuple #[v, er]) ∧ (((subsAll l.length l).2 = true ∧ er = .nilIface) ∨ ((subsAll l.length l).2 = false ∧ ∃ m, er = .iface 168 (.string m))) ∧ Subs (fun W => C8 W A l) w' w.heap.size v (subsAll l.length l).1 ∧ Below w.heap.size w w' := by
  subst hn
  have HR := Aside0.mk (And.intro hr (And.intro hc (And.intro hb hl)))
  clear hr hc hb hl
  go_enter Tryd.func56, Tryd.ntmps56
  go_wp2_with fail
  go_loopw [0, 2, 3] (fun tv vv ev wr => ∃ (A1 : Option Addr) (c1 nr : Nat) (r : List Int) (ss : List (Int × List Int × List Int)) (rv : Value), vv = rv ∧ tv = .slice A1 nr c1 ∧ nr ≤ c1 ∧ nr ≤ 100000000 ∧ ev = .nilIface ∧ Aside0 (nr = r.length ∧ (∀ W, C8 W A l → C8 W A1 r) ∧ Bytes r ∧ ∃ k, r.length ≤ k ∧ subsAll l.length l = (ss ++ (subsAll k r).1, (subsAll k r).2)) ∧ Aside0 (Subs (fun W => C8 W A l) wr w.heap.size rv ss ∧ ss.length ≤ l.length - r.length ∧ r.length ≤ l.length) ∧ Aside0 (Below w.heap.size w wr)) (fun tv _ _ _ => lenS tv)
  case atStart =>
    obtain ⟨hr, hc, hb, hl⟩ := HR.out
    exact ⟨A, c, l.length, l, [], _, rfl, rfl, hc, hl, rfl, ⟨rfl, fun W q => q, hb, l.length, Nat.le_refl _, rfl⟩, ⟨⟨[], Kd.R_nil _ _ _ _ _, rfl, fun i b s h => by simp at h⟩, by simp, Nat.le_refl _⟩, ⟨Below.refl _ _⟩⟩
  case round =>
    obtain ⟨A1, c1, nr, r, ss, rv, erv, rfl, hc1, hc2, rfl, HA, HS, HB⟩ := hrel
    obtain rfl := erv.symm
    obtain ⟨e1, e2, e3, k, e4, e5⟩ := HA.out
    by_cases h0 : nr = 0
    · subst h0
      have r0 : r = [] := List.eq_nil_of_length_eq_zero e1.symm
      subst r0
      rw [subsAll_nil, List.append_nil] at e5
      have E5 := Aside0.mk e5
      clear e1 e2 e3 e4 e5 HA
      go_wp2_with fail
      go_ret2
      rw [E5.out]
      exact ⟨_, _, rfl, .inl ⟨rfl, rfl⟩, HS.out.1, HB.out⟩
    · have i0 : 0 < nr := by omega
      have i1 : (0 : Int) < (nr : Int) := by omega
      rcases hso : subOne r with _ | ⟨s, r'⟩
      · have C := nsp_none (w := wr) (A := A1) (c := c1) e3 (by omega) hso (Kd.C_below (e2 w HR.out.1) HB.out) (by omega) (by omega)
        rw [← e1] at C
        have CC := Aside0.mk C
        rw [subsAll_none (by omega) hso, List.append_nil] at e5
        have E5 := Aside0.mk e5
        clear C e1 e2 e3 e4 e5 HA hso
        go_wp2_with fail
        refine CC.out.mono ?_
        rintro en w1 ⟨k', p, m, rfl, hB1⟩
        have B1 := Aside0.mk hB1
        clear hB1
        go_wp2_with fail
        go_ret2
        rw [E5.out]
        exact ⟨_, _, rfl, .inr ⟨rfl, _, rfl⟩, HS.out.1.below B1.out, below_then HB.out HB.out.size B1.out⟩
      · have C := nsp_some (w := wr) (A := A1) (c := c1) e3 hso (Kd.C_below (e2 w HR.out.1) HB.out) (by omega) (by omega)
        rw [← e1] at C
        have cat := subOne_cat hso
        have lcat := congrArg List.length cat
        rw [List.length_append, List.length_cons, List.length_append] at lcat
        obtain ⟨ki, rfl⟩ : ∃ ki, k = ki + 1 := ⟨k - 1, by omega⟩
        rw [subsAll_some hso] at e5
        obtain ⟨kk, ekk⟩ : ∃ kk, s.2.1.length + 1 = kk := ⟨_, rfl⟩
        obtain ⟨cl, ecl⟩ : ∃ cl, s.2.2.length = cl := ⟨_, rfl⟩
        obtain ⟨n2, en2⟩ : ∃ n2, r'.length = n2 := ⟨_, rfl⟩
        rw [ekk] at C
        obtain ⟨A3, q1, q2, _⟩ := drop8 (P := Tryd.prog) Tryd.underlying22 infoB A1 c1 r (kk + cl) (by omega) (by omega) e1
        have erd : r.drop (kk + cl) = r' := by
          have ez : r = (s.2.1 ++ s.1 :: s.2.2) ++ r' := by rw [List.append_assoc]; exact cat
          conv => lhs; rw [ez]
          exact List.drop_left' (by rw [List.length_append, List.length_cons]; omega)
        rw [show nr - (kk + cl) = n2 by omega] at q1
        have q3 : ∀ W, C8 W A l → C8 W A3 r' := fun W q => by have := q2 W (e2 W q); rw [erd] at this; exact this
        have wz : IntKind.i64.wrap ((kk : Int) + (cl : Int)) = (kk : Int) + (cl : Int) := IntWalk.i64_in _ (by omega)
        have q4 : ∀ W : World, (Instr.slice 22 (.slice A1 nr c1) (some (.int .i64 ((kk : Int) + (cl : Int)))) none none).run Tryd.prog W = .ok (.slice A3 n2 (c1 - (kk + cl))) W := by rw [← Int.natCast_add]; exact q1
        have i2 : n2 ≤ c1 - (kk + cl) := by omega
        have i3 : n2 ≤ 100000000 := by omega
        have i4 : n2 < nr := by omega
        have e3' : Bytes r' := by
          have ez : r = (s.2.1 ++ s.1 :: s.2.2) ++ r' := by rw [List.append_assoc]; exact cat
          intro i
          have q := e3 ((s.2.1 ++ s.1 :: s.2.2).length + i)
          rw [ez, List.getD_eq_getElem?_getD, List.getElem?_append_right (by omega), show (s.2.1 ++ s.1 :: s.2.2).length + i - (s.2.1 ++ s.1 :: s.2.2).length = i by omega, ← List.getD_eq_getElem?_getD] at q
          exact q
        have N := Aside0.mk (And.intro q3 (And.intro e3' (And.intro (show r'.length ≤ ki by omega) (And.intro en2.symm e5))))
        have LS := Aside0.mk (show (ss ++ [s]).length ≤ l.length - r'.length ∧ r'.length ≤ l.length by have := HS.out.2; rw [List.length_append, List.length_singleton]; omega)
        have CC := Aside0.mk C
        have EC := Aside0.mk ecl
        have E2 := Aside0.mk e2
        have lsz : ss.length ≤ 100000000 := by have := HS.out.2; have := HR.out.2.2.2; omega
        have LSZ := Aside0.mk lsz
        clear C e1 e2 e3 e4 e5 HA hso cat lcat ekk ecl en2 q1 q2 q3 erd e3' lsz
        go_wp2_with fail
        refine CC.out.mono ?_
        rintro en w1 ⟨g, rfl, hg, hs, hB1⟩
        obtain ⟨bs, hbR, hbl, hbs⟩ := HS.out.1.below hB1
        have S1 := Aside0.mk (hs.mono E2.out)
        have HRw := Aside0.mk hbR
        have HBS := Aside0.mk (And.intro hbl hbs)
        have HB1 := Aside0.mk (below_then HB.out HB.out.size hB1)
        have GF := Aside0.mk (show some g ≠ rv.ownBlock from fun e => by
          obtain ⟨bs0, hb0, _⟩ := HS.out.1
          have := Kd.R_lt hb0 g e.symm
          omega)
        have GB := Aside0.mk (show w.heap.size ≤ g from Nat.le_trans HB.out.size hg)
        have GL := Aside0.mk (show wr.heap.size ≤ w1.heap.size from hB1.size)
        have BL := Aside0.mk (show bs.length ≤ 100000000 by rw [hbl]; exact LSZ.out)
        clear hs hB1 hbR hbl hbs hg
        go_upto_region 6 with (fail)
        go_upto_region 7 with (((with_reducible refine gate_dst (N := 20) rfl ?_); go_loud (refine Kd.R_append kP (w0 := w) w.heap.size rfl (.tmp 17) (.tmp 19) 124 127 (.pointer none) 8 rfl Tryd.underlying124 infoP rfl (by decide) (by decide) _ bs g [.pointer (some ⟨g, 0, none⟩)] (fun _ => True) (fun _ => False) rfl rfl rfl (fun _ h => h.elim) (fun _ _ => trivial) HRw.out HB1.out ?hb ?hl ?_; (case hb => exact HB1.out.size); (case hl => have := BL.out; omega); intro v1 w2 hR hB hG hAt; have R2 := Aside0.mk hR; have B2 := Aside0.mk hB; have G2 := Aside0.mk (And.intro hG hAt); clear hR hB hG hAt)))
        have S2 := Aside0.mk (S1.out.kept (G2.out.1.block g S1.out.lt GF.out))
        obtain ⟨B1, d1, B2', d2, x0, x1, x2, x3, x4, x5, x6⟩ := S2.out
        rw [EC.out] at x4
        clear x0 x1 x2 x3 x5 x6
        go_wp2_with fail
        go_roundw
        case rel =>
          obtain ⟨z1, z2, z3, z4, z5⟩ := N.out
          refine ⟨A3, c1 - (kk + cl), n2, r', ss ++ [s], _, rfl, rfl, i2, i3, rfl, ⟨z4, z1, z2, ki, z3, by rw [List.append_assoc]; exact z5⟩, ⟨⟨bs ++ [g], R2.out, by rw [List.length_append, List.length_append, HBS.out.1]; rfl, ?_⟩, LS.out.1, LS.out.2⟩, B2⟩
          intro i b s' h1 h2
          have nw : ∀ b, b < w1.heap.size → some b ≠ rv.ownBlock → some b ≠ v1.ownBlock := by
            intro b hb hn e
            rcases G2.out.2 with q | ⟨b', q, hle⟩
            · exact hn (e.trans q)
            · rw [q] at e; injection e with e; omega
          by_cases hi : i < bs.length
          · rw [List.getElem?_append_left hi] at h1
            rw [List.getElem?_append_left (by rw [← HBS.out.1]; exact hi)] at h2
            obtain ⟨p1, p2⟩ := HBS.out.2 i b s' h1 h2
            exact ⟨p1.kept (G2.out.1.block b p1.lt p2.1), nw b p1.lt p2.1, p2.2⟩
          · rw [List.getElem?_append_right (by omega)] at h1
            rw [List.getElem?_append_right (by rw [← HBS.out.1]; omega), ← HBS.out.1] at h2
            match hj : i - bs.length with
            | 0 =>
              rw [hj] at h1 h2
              simp at h1 h2
              subst h1 h2
              exact ⟨S2.out, nw g S1.out.lt GF.out, GB.out⟩
            | j + 1 => rw [hj] at h1; simp at h1
        case measure => simp [lenS]; omega
end Go.Proofs.YtfhefoaieefnkaaDoor.Rd
