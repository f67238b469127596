/- Rsb, Psw, FWs in one text (join.py). -/
import Derived.Test.YtfhefoaieefnkaaDoorSbs
import Derived.Test.YtfhefoaieefnkaaDoorMkr
import Derived.Test.YtfhefoaieefnkaaDoorSof
import Derived.Test.YtfhefoaieefnkaaDoorWsx1
import Derived.Test.YtfhefoaieefnkaaDoorWsx2
import Derived.Test.YtfhefoaieefnkaaDoorSpk
import Derived.Test.YtfhefoaieefnkaaDoorSame
/- impl.ReadSubs. -/
set_option linter.unusedVariables false
set_option linter.unusedSimpArgs false
namespace Go.Proofs.YtfhefoaieefnkaaDoor.Rd
open Go.RowKit Go.Proofs.YtfhefoaieefnkaaDoorW.PrintWords Go.Proofs.YtfhefoaieefnkaaDoorW.PrintMore Go.Proofs.YtfhefoaieefnkaaDoor.Kit

theorem subsAll_few2 (n : Nat) (l : List Int) (hl : l.length ≤ 100000000) : (subsAll n l).1.length ≤ 100000000 ∧ ∀ s, s ∈ (subsAll n l).1 → s.2.1.length ≤ 100000000 ∧ s.2.2.length ≤ 100000000 := by
  have key : ∀ (n : Nat) (l : List Int), (subsAll n l).1.length ≤ l.length ∧ ∀ s, s ∈ (subsAll n l).1 → s.2.1.length ≤ l.length ∧ s.2.2.length ≤ l.length := by
    intro n
    induction n with
    | zero =>
      intro l
      match l with
      | [] => exact ⟨Nat.le_refl _, fun s h => by cases h⟩
      | a :: t => exact ⟨Nat.zero_le _, fun s h => by cases h⟩
    | succ n ih =>
      intro l
      by_cases h0 : l.length = 0
      · have e0 := List.eq_nil_of_length_eq_zero h0
        subst e0
        exact ⟨Nat.le_refl _, fun s h => by cases h⟩
      · rcases hso : subOne l with _ | ⟨s, r⟩
        · rw [subsAll_none (by omega) hso]
          exact ⟨Nat.zero_le _, fun s h => by cases h⟩
        · have lcat := congrArg List.length (subOne_cat hso)
          rw [List.length_append, List.length_cons, List.length_append] at lcat
          rw [subsAll_some hso]
          obtain ⟨i1, i2⟩ := ih r
          refine ⟨by rw [List.length_cons]; omega, fun s' h => ?_⟩
          rcases List.mem_cons.1 h with h | h
          · subst h; omega
          · have := i2 s' h; omega
  obtain ⟨k1, k2⟩ := key n l
  exact ⟨by omega, fun s h => by have := k2 s h; omega⟩
set_option maxHeartbeats 1600000 in
set_option maxRecDepth 100000 in
theorem rsb_calls {w : World} {A : Option Addr} {c n : Nat} {l : List Int} {aE aU : Addr} (hr : C8 w A l) (hn : n = l.length) (hb : Bytes l) (hE : Env w w.heap.size aE aU) (hl : l.length ≤ 100000000) :
    Calls Tryd.prog 28 #[.slice A n c] w fun en w' => ∃ v' e, en = .returned (.tuple #[v', .int .i64 e]) ∧ (((subsAll l.length l).2 = true ∧ e = 0) ∨ ((subsAll l.length l).2 = false ∧ e = 3)) ∧ kS.R 50 w' w.heap.size (fun _ => True) v' (subsAll l.length l).1 ∧ Below w.heap.size w w' := by
  have CO := Aside0.mk (own_calls (c := c) hr hn (by omega))
  have HE := Aside0.mk hE
  have HL := Aside0.mk (And.intro hl (And.intro hn hb))
  clear hr hE hl hn hb
  go_enter Tryd.func28, Tryd.ntmps28
  go_wp2_with fail
  refine CO.out.mono ?_
  rintro en w0 ⟨v0, rfl, hR, hB⟩
  obtain ⟨A0, c0, e0, hc0, hC0⟩ := Kd.R_reads hR
  rw [← HL.out.2.1] at e0 hc0
  subst e0
  have C1 := Aside0.mk (osp_calls (n := n) hC0 (by rw [← HL.out.2.1]; exact hc0) HL.out.2.1 HL.out.2.2 HL.out.1)
  have HC0 := Aside0.mk hC0
  have B0 := Aside0.mk hB
  clear hR hB hC0 hc0
  go_wp2_with fail
  refine C1.out.mono ?_
  rintro en w1 ⟨v, er, rfl, her, hs, hB⟩
  have B1 := Aside0.mk (below_then B0.out B0.out.size hB)
  have S1 := Aside0.mk (sbs_calls hs (Kd.C_below HC0.out hB) (subsAll_few2 _ _ HL.out.1).1 (subsAll_few2 _ _ HL.out.1).2)
  have ER := Aside0.mk her
  clear hs hB her
  go_wp2_with fail
  refine S1.out.mono ?_
  rintro en w2 ⟨v2, rfl, hR, hB2⟩
  have R2 := Aside0.mk hR
  have B2 := Aside0.mk (below_then B1.out B1.out.size hB2)
  have HE3 := Aside0.mk (HE.out.below B2.out)
  clear hR hB2
  have FIN := Aside0.mk (show ∀ w3, w3 = w2 → kS.R 50 w3 w.heap.size (fun _ => True) v2 (subsAll l.length l).1 ∧ Below w.heap.size w w3 from fun w3 h => by
    subst h
    exact ⟨Kd.R_lower R2.out B1.out.size, B2.out⟩)
  rcases ER.out with ⟨o1, rfl⟩ | ⟨o1, m, rfl⟩
  · have O1 := Aside0.mk o1
    clear o1
    go_wp2_with fail
    refine (end_nil _).mono ?_
    rintro en w3 ⟨rfl, hw⟩
    have F := Aside0.mk (FIN.out w3 hw)
    clear hw
    go_wp2_with fail
    go_ret2
    exact ⟨_, _, rfl, .inl ⟨O1.out, rfl⟩, F.out⟩
  · have O1 := Aside0.mk o1
    clear o1
    go_wp2_with fail
    refine (end_form HE3.out m).mono ?_
    rintro en w3 ⟨rfl, hw⟩
    have F := Aside0.mk (FIN.out w3 hw)
    clear hw
    go_wp2_with fail
    go_ret2
    exact ⟨_, _, rfl, .inr ⟨O1.out, rfl⟩, F.out⟩
end Go.Proofs.YtfhefoaieefnkaaDoor.Rd

/- What is written is read again, in plain lists; zzFits5, WrittenSubs, sameSubs. -/
set_option linter.unusedVariables false
set_option linter.unusedSimpArgs false
namespace Go.Proofs.YtfhefoaieefnkaaDoor.Rd.Psw
open Go.RowKit Go.Proofs.YtfhefoaieefnkaaDoorW.PrintWords Go.Proofs.YtfhefoaieefnkaaDoorW.PrintMore Go.Proofs.YtfhefoaieefnkaaDoor.Kit Go.Proofs.YtfhefoaieefnkaaDoor.PFnWriteSubs

/-- A subpacket as spec has it. -/
def toS (s : Int × List Int × List Int) : S123 := ⟨s.1, s.2.1, s.2.2⟩
def toI (s : Int × List Int × List Int) : S50 := ⟨s.1, s.2.1, s.2.2⟩
def toQ (p : Int × List Int × Bool) : S119 := ⟨p.1, p.2.1, p.2.2⟩
theorem sb_l0 {l : List Int} (hl : l.length ≤ 100000000) : ∀ (k j : Nat), l.length < k + j → j ≤ l.length → spec_SameBytes.l0 k l l (l.length : Int) (j : Int) = some true := by
  intro k
  induction k with
  | zero => intro j h1 h2; omega
  | succ k ih =>
    intro j h1 h2
    by_cases h : j < l.length
    · have w : wrap64 ((j : Int) + 1) = ((j + 1 : Nat) : Int) := by rw [wrap64_id (by omega) (by omega)]; rfl
      rw [spec_SameBytes.l0, if_pos (by omega), if_pos (by omega), if_pos (by omega), if_pos (by omega), if_pos rfl, w]
      exact ih (j + 1) (by omega) (by omega)
    · rw [spec_SameBytes.l0, if_neg (by omega)]
theorem sb_f {l : List Int} (hl : l.length ≤ 100000000) {k : Nat} (hk : l.length < k) : spec_SameBytes.f k l l = some true := by
  rw [spec_SameBytes.f, if_pos rfl]
  exact sb_l0 hl k 0 (by omega) (Nat.zero_le _)
theorem ss_l0 {ss : List (Int × List Int × List Int)} (hl : ss.length ≤ 100000000) (hs : ∀ s, s ∈ ss → 0 ≤ s.1 ∧ s.1 ≤ 255 ∧ s.2.1.length ≤ 100000000 ∧ s.2.2.length ≤ 100000000) : ∀ (k j : Nat), ss.length + 100000001 < k + j → j ≤ ss.length → laws_sameSubs.l0 k (ss.map toS) (ss.map toI) (ss.length : Int) (j : Int) = some true := by
  intro k
  induction k with
  | zero => intro j h1 h2; omega
  | succ k ih =>
    intro j h1 h2
    by_cases h : j < ss.length
    · have w : wrap64 ((j : Int) + 1) = ((j + 1 : Nat) : Int) := by rw [wrap64_id (by omega) (by omega)]; rfl
      have li : ((ss.map toI).length : Int) = (ss.length : Int) := by rw [List.length_map]
      have ls : ((ss.map toS).length : Int) = (ss.length : Int) := by rw [List.length_map]
      have ei : rd_T50 (ss.map toI) (j : Int) = toI ss[j] := by
        show (ss.map toI).getD (j : Int).toNat z50 = _
        rw [Int.toNat_natCast, List.getD_eq_getElem?_getD, List.getElem?_map, List.getElem?_eq_getElem h]; rfl
      have es : rd_T123 (ss.map toS) (j : Int) = toS ss[j] := by
        show (ss.map toS).getD (j : Int).toNat z123 = _
        rw [Int.toNat_natCast, List.getD_eq_getElem?_getD, List.getElem?_map, List.getElem?_eq_getElem h]; rfl
      obtain ⟨q1, q2, q3, q4⟩ := hs ss[j] (List.getElem_mem h)
      have e0 : wrap64 (toI ss[j]).f0 = (toS ss[j]).f0 := wrap64_id (n := ss[j].1) (by omega) (by omega)
      have e1 : spec_SameBytes.f k (toI ss[j]).f1 (toS ss[j]).f1 = some true := sb_f (l := ss[j].2.1) q3 (by omega)
      have e2 : spec_SameBytes.f k (toI ss[j]).f2 (toS ss[j]).f2 = some true := sb_f (l := ss[j].2.2) q4 (by omega)
      rw [laws_sameSubs.l0, if_pos (by omega), if_pos (by omega), li, if_pos (by omega), ls, if_pos (by omega), ei, es, if_pos e0, e1, Option.bind_some, if_pos rfl, e2, Option.bind_some, if_pos rfl, w]
      exact ih (j + 1) (by omega) (by omega)
    · rw [laws_sameSubs.l0, if_neg (by omega)]
theorem ss_f {ss : List (Int × List Int × List Int)} (hl : ss.length ≤ 100000000) (hs : ∀ s, s ∈ ss → 0 ≤ s.1 ∧ s.1 ≤ 255 ∧ s.2.1.length ≤ 100000000 ∧ s.2.2.length ≤ 100000000) : laws_sameSubs.f (ss.length + 100000002) (ss.map toI) (ss.map toS) = some true := by
  rw [laws_sameSubs.f, if_pos (by rw [List.length_map, List.length_map]), List.length_map]
  exact ss_l0 hl hs _ 0 (by omega) (Nat.zero_le _)
theorem C_map {α β : Type} {d : Kd α} {d' : Kd β} (f : α → β) (hs : d'.sz = d.sz) (hK : ∀ w x cs, d.K w x cs → d'.K w (f x) cs) {w : World} {A : Option Addr} {n : Nat} {ss : List α} (h : d.C w A n ss) : Kd.C d' w A n (ss.map f) := by
  obtain ⟨h1, h2, h3⟩ := h
  refine ⟨by rw [List.length_map]; exact h1, h2, fun hp => ?_⟩
  obtain ⟨ad, e, hc⟩ := h3 hp
  refine ⟨ad, e, fun j p hj => ?_⟩
  rw [List.getElem?_map] at hj
  obtain ⟨s, es, rfl⟩ := Option.map_eq_some_iff.1 hj
  obtain ⟨c, q1, q2, q3⟩ := hc j s es
  exact ⟨c, by rw [hs]; exact q1, hK w s c q2, by rw [hs]; exact q3⟩
theorem C_toI {w : World} {A : Option Addr} {n : Nat} {ss : List (Int × List Int × List Int)} (h : kS.C w A n ss) : Kd.C k50 w A n (ss.map toI) := C_map toI rfl (fun _ _ _ q => q) h
theorem C_toS {w : World} {A : Option Addr} {n : Nat} {ss : List (Int × List Int × List Int)} (h : kW.C w A n ss) : Kd.C k123 w A n (ss.map toS) := C_map toS rfl (fun _ _ _ q => q) h
theorem C_toQ {w : World} {A : Option Addr} {n : Nat} {ps : List (Int × List Int × Bool)} (h : kI.C w A n ps) : Kd.C k119 w A n (ps.map toQ) := C_map toQ rfl (fun _ _ _ q => q) h
theorem fits_l0 {ps : List (Int × List Int × Bool)} (hl : ps.length ≤ 2147483647) : ∀ (k j : Nat), ps.length < k + j → j ≤ ps.length → ∃ r, laws_zzFits5.l0 k (ps.map toQ) (ps.length : Int) (j : Int) = some r ∧ (r = true → ∀ i p, j ≤ i → ps[i]? = some p → p.2.1.length ≤ 2147483647) := by
  intro k
  induction k with
  | zero => intro j h1 h2; omega
  | succ k ih =>
    intro j h1 h2
    by_cases h : j < ps.length
    · have w : wrap64 ((j : Int) + 1) = ((j + 1 : Nat) : Int) := by rw [wrap64_id (by omega) (by omega)]; rfl
      have lq : ((ps.map toQ).length : Int) = (ps.length : Int) := by rw [List.length_map]
      have eq : rd_T119 (ps.map toQ) (j : Int) = toQ ps[j] := by
        show (ps.map toQ).getD (j : Int).toNat z119 = _
        rw [Int.toNat_natCast, List.getD_eq_getElem?_getD, List.getElem?_map, List.getElem?_eq_getElem h]; rfl
      rw [laws_zzFits5.l0, if_pos (by omega), if_pos (by omega), lq, if_pos (by omega), eq]
      by_cases hb : ((toQ ps[j]).f1.length : Int) > 2147483647
      · refine ⟨false, ?_, fun e => by cases e⟩
        rw [laws_zzFits6.f, if_pos hb, Option.bind_some, if_neg (by simp)]
      · obtain ⟨r, hr, hp⟩ := ih (j + 1) (by omega) (by omega)
        refine ⟨r, ?_, fun e i p hi hpi => ?_⟩
        · rw [laws_zzFits6.f, if_neg hb, Option.bind_some, if_pos rfl, w]
          exact hr
        · by_cases ei : i = j
          · subst ei
            rw [List.getElem?_eq_getElem h] at hpi
            injection hpi with hpi
            subst hpi
            have hb' : ¬ ((ps[i].2.1.length : Int) > 2147483647) := hb
            omega
          · exact hp e i p (by omega) hpi
    · exact ⟨true, by rw [laws_zzFits5.l0, if_neg (by omega)], fun _ i p hi hpi => by have := (List.getElem?_eq_some_iff.1 hpi).1; omega⟩
theorem fits_f (ps : List (Int × List Int × Bool)) : ∃ r, laws_zzFits5.f (ps.length + 1) (ps.map toQ) = some r ∧ (r = true → ps.length ≤ 2147483647 ∧ ∀ p, p ∈ ps → p.2.1.length ≤ 2147483647) := by
  by_cases h : (ps.length : Int) > 2147483647
  · exact ⟨false, by rw [laws_zzFits5.f, List.length_map, if_pos h], fun e => by cases e⟩
  · obtain ⟨r, hr, hp⟩ := fits_l0 (ps := ps) (by omega) (ps.length + 1) 0 (by omega) (Nat.zero_le _)
    refine ⟨r, by rw [laws_zzFits5.f, List.length_map, if_neg h]; exact hr, fun e => ⟨by omega, fun p hm => ?_⟩⟩
    obtain ⟨i, hi⟩ := List.mem_iff_getElem?.1 hm
    exact hp e i p (Nat.zero_le _) hi
/-- What is written. -/
def wrote (ss : List (Int × List Int × List Int)) : List Int := (ss.map fun s => s.2.1 ++ s.1 :: s.2.2).flatten
theorem wrote_cons (s : Int × List Int × List Int) (ss : List (Int × List Int × List Int)) : wrote (s :: ss) = s.2.1 ++ s.1 :: (s.2.2 ++ wrote ss) := by
  simp [wrote]
theorem wrote_append (a b : List (Int × List Int × List Int)) : wrote (a ++ b) = wrote a ++ wrote b := by
  simp [wrote]
theorem oct4 (n : Nat) : oct (n : Int) 4 = [(n : Int) / 16777216 % 256, (n : Int) / 65536 % 256, (n : Int) / 256 % 256, (n : Int) % 256] := by
  have e : oct (n : Int) 4 = [(n : Int) / 2 ^ 24 % 256, (n : Int) / 2 ^ 16 % 256, (n : Int) / 2 ^ 8 % 256, (n : Int) / 2 ^ 0 % 256] := rfl
  rw [e]
  have a : (2 : Int) ^ 24 = 16777216 := by decide
  have b : (2 : Int) ^ 16 = 65536 := by decide
  have c : (2 : Int) ^ 8 = 256 := by decide
  rw [a, b, c]
  simp
theorem subOne_long (n : Nat) (x : Int) (C r : List Int) (h1 : n = 1 + C.length) (hn : n ≤ 2000000) : subOne (255 :: oct (n : Int) 4 ++ x :: (C ++ r)) = some ((x, 255 :: oct (n : Int) 4, C), r) := by
  rw [oct4]
  have e : ((n : Int) / 16777216 % 256) * 16777216 + ((n : Int) / 65536 % 256) * 65536 + ((n : Int) / 256 % 256) * 256 + (n : Int) % 256 = (n : Int) := by omega
  show subOne ((255 : Int) :: (n : Int) / 16777216 % 256 :: (n : Int) / 65536 % 256 :: (n : Int) / 256 % 256 :: (n : Int) % 256 :: x :: (C ++ r)) = _
  simp only [subOne]
  rw [if_neg (by omega), if_neg (by omega), e, Int.toNat_natCast, if_pos (by rw [List.length_append]; omega), show n - 1 = C.length by omega, List.take_left, List.drop_left]
theorem subOne_enc (lg : Bool) (x : Int) (C r : List Int) (hn : C.length ≤ 1048576) : subOne (encL lg (1 + C.length) ++ x :: (C ++ r)) = some ((x, encL lg (1 + C.length), C), r) := by
  unfold encL
  split
  · exact subOne_long _ x C r rfl (by omega)
  · unfold encS
    split
    · rename_i h
      show subOne (((1 + C.length : Nat) : Int) :: x :: (C ++ r)) = _
      simp only [subOne]
      rw [if_pos (by omega), Int.toNat_natCast, if_pos (by rw [List.length_append]; omega), show 1 + C.length - 1 = C.length by omega, List.take_left, List.drop_left]
    · split
      · rename_i h1 h2
        obtain ⟨n, en⟩ : ∃ n, 1 + C.length = n := ⟨_, rfl⟩
        rw [en] at h1 h2 ⊢
        show subOne ((((n : Int) - 192) / 256 + 192) :: (((n : Int) - 192) % 256) :: x :: (C ++ r)) = _
        have e : ((((n : Int) - 192) / 256 + 192 - 192) * 256 + ((n : Int) - 192) % 256 + 192) = (n : Int) := by omega
        simp only [subOne]
        rw [if_neg (by omega), if_pos (by omega), e, Int.toNat_natCast, if_pos (by rw [List.length_append]; omega), show n - 1 = C.length by omega, List.take_left, List.drop_left]
      · exact subOne_long _ x C r rfl (by omega)
theorem wrote_read : ∀ (ps : List (Int × List Int × Bool)), (∀ p, p ∈ ps → p.2.1.length ≤ 1048576) → ∀ n, (wrote (ps.map subP)).length ≤ n → subsAll n (wrote (ps.map subP)) = (ps.map subP, true) := by
  intro ps
  induction ps with
  | nil => intro _ n _; exact subsAll_nil n
  | cons p ps ih =>
    intro hp n hn
    rw [List.map_cons, wrote_cons] at hn ⊢
    have h1 := subOne_enc p.2.2 p.1 p.2.1 (wrote (ps.map subP)) (hp p List.mem_cons_self)
    have h1' : subOne ((subP p).2.1 ++ (subP p).1 :: ((subP p).2.2 ++ wrote (ps.map subP))) = some (subP p, wrote (ps.map subP)) := h1
    simp only [List.length_append, List.length_cons] at hn
    obtain ⟨k, rfl⟩ : ∃ k, n = k + 1 := ⟨n - 1, by omega⟩
    rw [subsAll_some h1', ih (fun q hq => hp q (List.mem_cons_of_mem _ hq)) k (by omega)]
theorem ws_l0 {ss : List (Int × List Int × List Int)} (hl : ss.length ≤ 100000000) (hx : ∀ s, s ∈ ss → 0 ≤ s.1 ∧ s.1 ≤ 255) : ∀ (k j : Nat), ss.length < k + j → j ≤ ss.length → (wrote ss).length ≤ 100000000 →
    spec_WrittenSubs.l0 k (wrote (ss.take j)) (ss.map toS) (ss.length : Int) (j : Int) = some (wrote ss) := by
  intro k
  induction k with
  | zero => intro j h1 h2; omega
  | succ k ih =>
    intro j h1 h2 h3
    by_cases h : j < ss.length
    · have w : wrap64 ((j : Int) + 1) = ((j + 1 : Nat) : Int) := by rw [wrap64_id (by omega) (by omega)]; rfl
      have ls : ((ss.map toS).length : Int) = (ss.length : Int) := by rw [List.length_map]
      have es : rd_T123 (ss.map toS) (j : Int) = toS ss[j] := by
        show (ss.map toS).getD (j : Int).toNat z123 = _
        rw [Int.toNat_natCast, List.getD_eq_getElem?_getD, List.getElem?_map, List.getElem?_eq_getElem h]; rfl
      have est : wrote (ss.take (j + 1)) = wrote (ss.take j) ++ (ss[j].2.1 ++ ss[j].1 :: ss[j].2.2) := by
        rw [List.take_add_one, List.getElem?_eq_getElem h, wrote_append]
        simp [wrote]
      have tot : (wrote (ss.take (j + 1))).length ≤ (wrote ss).length := by
        have e : wrote ss = wrote (ss.take (j + 1)) ++ wrote (ss.drop (j + 1)) := by rw [← wrote_append, List.take_append_drop]
        rw [e, List.length_append]; omega
      rw [est] at tot
      simp only [List.length_append, List.length_cons] at tot
      have hq := hx ss[j] (List.getElem_mem h)
      have m0 : (toS ss[j]).f0 % 256 = ss[j].1 := by show ss[j].1 % 256 = _; omega
      have f1 : (toS ss[j]).f1 = ss[j].2.1 := rfl
      have f2 : (toS ss[j]).f2 = ss[j].2.2 := rfl
      rw [spec_WrittenSubs.l0, if_pos (by omega), if_pos (by omega), ls, if_pos (by omega), es, f1, f2, m0, if_pos (by omega), Option.bind_some, if_pos (by rw [List.length_append]; omega), Option.bind_some, if_pos (by rw [List.length_append, List.length_append, List.length_singleton]; omega), w]
      have q := ih (j + 1) (by omega) (by omega) h3
      rw [est] at q
      rw [List.append_assoc, List.append_assoc]
      exact q
    · obtain rfl : j = ss.length := by omega
      rw [spec_WrittenSubs.l0, if_neg (by omega), List.take_length]
theorem ws_f {ss : List (Int × List Int × List Int)} (hl : ss.length ≤ 100000000) (hx : ∀ s, s ∈ ss → 0 ≤ s.1 ∧ s.1 ≤ 255) (h3 : (wrote ss).length ≤ 100000000) : spec_WrittenSubs.f (ss.length + 1) (ss.map toS) = some (wrote ss) := by
  rw [spec_WrittenSubs.f, List.length_map]
  have q := ws_l0 hl hx (ss.length + 1) 0 (by omega) (Nat.zero_le _) h3
  rw [List.take_zero] at q
  exact q
end Go.Proofs.YtfhefoaieefnkaaDoor.Rd.Psw

/- The law FnWriteSubs. -/
set_option linter.unusedVariables false
set_option linter.unusedSimpArgs false
namespace Go.Proofs.YtfhefoaieefnkaaDoor.Rd
open Go.RowKit Go.Proofs.YtfhefoaieefnkaaDoorW.PrintWords Go.Proofs.YtfhefoaieefnkaaDoorW.PrintMore Go.Proofs.YtfhefoaieefnkaaDoor.Kit Go.Proofs.YtfhefoaieefnkaaDoor.PFnWriteSubs Go.Proofs.YtfhefoaieefnkaaDoor.Rd.Psw

theorem encL_len (lg : Bool) (n : Nat) : 1 ≤ (encL lg n).length ∧ (encL lg n).length ≤ 5 := by
  unfold encL
  split
  · rw [List.length_cons, oct_length]; omega
  · unfold encS
    split
    · simp
    · split
      · simp
      · rw [List.length_cons, oct_length]; omega
theorem wrote_len (ps : List (Int × List Int × Bool)) : (wrote (ps.map subP)).length ≤ tot ps := by
  induction ps with
  | nil => simp [wrote, tot]
  | cons p ps ih =>
    rw [List.map_cons, wrote_cons]
    have q := (encL_len p.2.2 (1 + p.2.1.length)).2
    have e : (subP p).2.1 = encL p.2.2 (1 + p.2.1.length) := rfl
    have e2 : (subP p).2.2 = p.2.1 := rfl
    have t : tot (p :: ps) = 6 + p.2.1.length + tot ps := by simp [tot]
    simp only [List.length_append, List.length_cons]
    rw [e, e2, t]
    omega
theorem tot_mem (ps : List (Int × List Int × Bool)) : ps.length ≤ tot ps ∧ ∀ p, p ∈ ps → p.2.1.length ≤ tot ps := by
  induction ps with
  | nil => exact ⟨Nat.le_refl _, fun p h => by cases h⟩
  | cons q ps ih =>
    have t : tot (q :: ps) = 6 + q.2.1.length + tot ps := by simp [tot]
    rw [t]
    refine ⟨by rw [List.length_cons]; have := ih.1; omega, fun p h => ?_⟩
    rcases List.mem_cons.1 h with rfl | h
    · omega
    · have := ih.2 p h; omega
theorem oct_byte (n : Int) (size : Nat) : ∀ x ∈ oct n size, 0 ≤ x ∧ x ≤ 255 := by
  intro x hx
  obtain ⟨i, _, rfl⟩ := List.mem_map.1 hx
  omega
theorem encL_byte (lg : Bool) (n : Nat) (hn : n ≤ 20000000) : ∀ x ∈ encL lg n, 0 ≤ x ∧ x ≤ 255 := by
  have o : ∀ x ∈ (255 :: oct (n : Int) 4 : List Int), 0 ≤ x ∧ x ≤ 255 := by
    intro x hx
    rcases List.mem_cons.1 hx with rfl | hx
    · omega
    · exact oct_byte _ _ x hx
  unfold encL
  split
  · exact o
  · unfold encS
    split
    · intro x hx
      rw [List.mem_singleton.1 hx]
      omega
    · split
      · intro x hx
        rcases List.mem_cons.1 hx with rfl | hx
        · omega
        · rw [List.mem_singleton.1 hx]
          omega
      · exact o
theorem bytes_mem {l : List Int} (h : ∀ x ∈ l, 0 ≤ x ∧ x ≤ 255) : Bytes l := by
  intro i
  by_cases hi : i < l.length
  · rw [List.getD_eq_getElem?_getD, List.getElem?_eq_getElem hi]; exact h _ (List.getElem_mem hi)
  · rw [List.getD_eq_getElem?_getD, List.getElem?_eq_none (by omega)]; simp
theorem wrote_byte (ps : List (Int × List Int × Bool)) (h : ∀ p, p ∈ ps → (0 ≤ p.1 ∧ p.1 ≤ 255) ∧ p.2.1.length ≤ 10000000 ∧ ∀ x ∈ p.2.1, 0 ≤ x ∧ x ≤ 255) : Bytes (wrote (ps.map subP)) := by
  apply bytes_mem
  intro x hx
  unfold wrote at hx
  obtain ⟨l, hl, hxl⟩ := List.mem_flatten.1 hx
  obtain ⟨s, hs, rfl⟩ := List.mem_map.1 hl
  obtain ⟨p, hp, rfl⟩ := List.mem_map.1 hs
  obtain ⟨a, b, c⟩ := h p hp
  rcases List.mem_append.1 hxl with q | q
  · exact encL_byte _ _ (by omega) x q
  · rcases List.mem_cons.1 q with rfl | q
    · exact a
    · exact c x q
theorem kS_open {W : World} {x : Int} {E C : List Int} {cs : List Value} (h : kS.K W (x, E, C) cs) : ∃ A1 c1 A2 c2, cs = [.int .u8 x, .slice A1 E.length c1, .slice A2 C.length c2] ∧ C8 W A1 E ∧ C8 W A2 C := by
  obtain ⟨cs0, cs1, e, e0, cs2, cs3, e', ⟨A1, c1, e1, _, r1⟩, ⟨A2, c2, e2, _, r2⟩⟩ := h
  have e0' : cs0 = [.int .u8 x] := e0
  have e1' : cs2 = [.slice A1 E.length c1] := e1
  have e2' : cs3 = [.slice A2 C.length c2] := e2
  subst e0' e1' e2' e' e
  exact ⟨A1, c1, A2, c2, rfl, r1, r2⟩
def goodP (p : Int × List Int × Bool) : Prop := (Lit.int .u8 p.1).wf = true ∧ (p.2.1.length ≤ maxLen ∧ ∀ x, x ∈ p.2.1 → (Lit.int .u8 x).wf = true) ∧ True
theorem good_byte {x : Int} (h : (Lit.int .u8 x).wf = true) : 0 ≤ x ∧ x ≤ 255 := by
  have q := bytes_of (l := [x]) (fun y hy => by rw [List.mem_singleton.1 hy]; exact h) 0
  exact q
set_option maxHeartbeats 1600000 in
set_option maxRecDepth 100000 in
theorem law_wsub (A : Option Addr) (c : Nat) (ps : List (Int × List Int × Bool)) (w : World) (hr : kI.C w A ps.length ps) (hc : ps.length ≤ c) (hm : ps.length ≤ maxLen) (hw : ∀ p, p ∈ ps → goodP p) {aE aU : Addr} (hE : Env w w.heap.size aE aU) :
    Calls Tryd.prog 7 #[.slice A ps.length c] w fun e w' => e = .returned (.bool true) ∧ Below w.heap.size w w' := by
  obtain ⟨r, hf, hfit⟩ := fits_f ps
  obtain ⟨m, em⟩ : ∃ m, ps.length = m := ⟨_, rfl⟩
  have CF := laws_zzFits5.calls (ps.length + 1) A c (ps.map toQ) r w (by rw [List.length_map]; exact C_toQ hr) (by rw [List.length_map]; exact hc) hf
  rw [List.length_map, em] at CF
  have CF' := Aside0.mk CF
  have HR := Aside0.mk hr
  have HG := Aside0.mk (fun p hp => And.intro (good_byte (hw p hp).1) (fun x hx => good_byte ((hw p hp).2.1.2 x hx)))
  have HE := Aside0.mk hE
  have EM := Aside0.mk em
  have FIT := Aside0.mk hfit
  rw [em]
  have m9 : m ≤ 9223372036854775807 := by have := Kd.C_max hr; omega
  clear CF hf hr hc hm hw hE hfit em
  go_enter Tryd.func7, Tryd.ntmps7
  go_wp2_with fail
  refine CF'.out.mono ?_
  rintro en w1 ⟨rfl, hB⟩
  have B1 := Aside0.mk hB
  clear hB
  cases r
  · go_wp2_with fail
    go_ret
    exact ⟨rfl, B1.out⟩
  · obtain ⟨f1, f2⟩ := FIT.out rfl
    have SO := Aside0.mk (subsOf_calls (w := w1) (A := A) (c := c) (m := m) (ps := ps) (by have q := Kd.C_below HR.out B1.out; rw [EM.out] at q; exact q) f1 f2 (fun p hp => (HG.out p hp).1))
    clear f1 f2
    go_wp2_with fail
    refine SO.out.mono ?_
    rintro en w2 (⟨_, rfl, hB⟩ | ⟨ht, v1, v2, rfl, hN1, hN2, hB⟩)
    · have B2 := Aside0.mk (below_then B1.out B1.out.size hB)
      clear hB
      go_wp2_with fail
      go_ret
      exact ⟨rfl, B2.out⟩
    · have HT := Aside0.mk ht
      have B2 := Aside0.mk (below_then B1.out B1.out.size hB)
      obtain ⟨AI, cI, rfl, hcI, _⟩ := Kd.N_reads hN1
      obtain ⟨AW, cW, rfl, hcW, hCW⟩ := Kd.N_reads hN2
      have lm : (ps.map subP).length = m := by rw [List.length_map]; exact EM.out
      rw [lm] at hN1 hcI ⊢
      have N1 := Aside0.mk hN1
      have CW := Aside0.mk (And.intro hCW hcW)
      have LM := Aside0.mk lm
      clear ht hB hN1 hN2 hCW hcW lm
      go_wp2_with fail
      go_loopw [6, 26] (fun fv iv wr => ∃ k : Nat, k ≤ m ∧ iv = .int .i64 (k : Int) ∧ Aside0 (R8 5 wr w2.heap.size fv (wrote ((ps.map subP).take k))) ∧ Aside0 (Below w2.heap.size w2 wr)) (fun _ iv _ => m - (intOf iv).toNat)
      case atStart => exact ⟨0, Nat.zero_le _, rfl, ⟨Kd.R_nil _ _ _ _ _⟩, ⟨Below.refl _ _⟩⟩
      case round =>
        obtain ⟨k, hk, rfl, HF, HW⟩ := hrel
        by_cases hlt : k < m
        · obtain ⟨p, ep⟩ : ∃ p, ps[k]? = some p := ⟨ps[k]'(by have := EM.out; omega), List.getElem?_eq_getElem _⟩
          have es : (ps.map subP)[k]? = some (subP p) := by rw [List.getElem?_map, ep]; rfl
          have hpm := List.mem_of_getElem? ep
          obtain ⟨ad, cs, rfl, hcl, hK, hcc, _⟩ := Kd.F_get (Kd.N_F (Kd.N_below N1.out HW.out)) (0, [], []) (k : Int) (by omega) (by omega)
          rw [Int.toNat_natCast, List.getD_eq_getElem?_getD, es, Option.getD_some] at hK
          rw [Int.toNat_natCast] at hcc
          obtain ⟨x, E, C, esub, eE, eC⟩ : ∃ x E C, subP p = (x, E, C) ∧ E = encL p.2.2 (1 + p.2.1.length) ∧ C = p.2.1 := ⟨_, _, _, rfl, rfl, rfl⟩
          rw [esub] at hK es
          obtain ⟨A1, c1, A2, c2, rfl, r1, r2⟩ := kS_open (Kd.FK_now hK)
          obtain ⟨nE, enE⟩ : ∃ n, E.length = n := ⟨_, rfl⟩
          obtain ⟨nC, enC⟩ : ∃ n, C.length = n := ⟨_, rfl⟩
          rw [enE, enC] at hcc
          have y0 : wr.cell? (ad.add (k * 3)) = some (.int .u8 x) := hcc 0 _ rfl
          have y1 : wr.cell? ⟨(ad.add (k * 3)).block, (ad.add (k * 3)).off + 1, none⟩ = some (.slice A1 nE c1) := by rw [← add_field _ _ 1 (by omega)]; exact hcc 1 _ rfl
          have y2 : wr.cell? ⟨(ad.add (k * 3)).block, (ad.add (k * 3)).off + 2, none⟩ = some (.slice A2 nC c2) := by rw [← add_field _ _ 2 (by omega)]; exact hcc 2 _ rfl
          have LE := Aside0.mk (show 1 ≤ nE ∧ nE ≤ 5 ∧ nC ≤ 1048576 from by
            have q := encL_len p.2.2 (1 + p.2.1.length)
            rw [← eE, enE] at q
            have q2 := (tot_mem ps).2 p hpm
            rw [← eC, enC] at q2
            have := HT.out
            omega)
          have ES := Aside0.mk es
          have RR := Aside0.mk (And.intro r1 r2)
          have EN := Aside0.mk (And.intro enE enC)
          have iklt : (k : Int) < (m : Int) := by omega
          have ik0 : (0 : Int) ≤ (k : Int) := by omega
          clear hcl hK hcc esub eE eC r1 r2 enE enC es ep hpm
          go_wp2_with fail
          obtain ⟨W, eW⟩ : ∃ W, wr.alloc (.cells #[.int .u8 x, .slice A1 nE c1, .slice A2 nC c2] 50) = W := ⟨_, rfl⟩
          have BW : Below wr.heap.size wr W := eW ▸ below_alloc (Below.refl _ _) _
          rw [eW]
          have CC := Aside0.mk (ws_calls (w := W) (x := x) (c1 := c1) (c2 := c2) (Kd.C_below RR.out.1 BW) (Kd.C_below RR.out.2 BW) EN.out.1.symm EN.out.2.symm LE.out.2.1 LE.out.1 (by have := LE.out; omega))
          have BB := Aside0.mk BW
          clear eW BW y0 y1 y2
          refine CC.out.mono ?_
          rintro en w3 ⟨v, rfl, hR, hB⟩
          obtain ⟨A3, c3, rfl, _, hC3⟩ := Kd.R_reads hR
          have B3 := Aside0.mk (below_then BB.out BB.out.size hB)
          have HF3 := Aside0.mk (Kd.R_below HF.out B3.out)
          have HC3 := Aside0.mk hC3
          obtain ⟨n3, e3⟩ : ∃ n, (E ++ x :: C).length = n := ⟨_, rfl⟩
          rw [e3]
          have E3 := Aside0.mk e3
          have HW3 := Aside0.mk (below_then HW.out HW.out.size B3.out)
          have LL := Aside0.mk (show (wrote ((ps.map subP).take k)).length + (E ++ x :: C).length ≤ 140737488355328 from by
            have q1 := wrote_len (ps.take k)
            rw [List.map_take] at q1
            have q2 := tot_le ps k
            have := HT.out
            have := LE.out
            rw [List.length_append, List.length_cons, EN.out.1, EN.out.2]
            omega)
          clear hR hB hC3 e3
          go_upto_region 14 with (((with_reducible refine gate_dst (N := 39) rfl ?_); go_loud (refine append8 w2.heap.size (w0 := w2) rfl (.tmp 37) (.tmp 38) 22 5 rfl Tryd.underlying22 infoB _ (wrote ((ps.map subP).take k)) (E ++ x :: C) A3 c3 rfl rfl E3.out.symm HF3.out HC3.out HW3.out HW3.out.size LL.out ?_; intro v4 w4 hR hB _ _; have R4 := Aside0.mk hR; have B4 := Aside0.mk hB; clear hR hB)))
          go_wp2_with fail
          go_roundw
          case rel =>
            refine ⟨k + 1, hlt, by first | rfl | go_num, ⟨?_⟩, B4⟩
            have e1 : wrote ((ps.map subP).take (k + 1)) = wrote ((ps.map subP).take k) ++ (E ++ x :: C) := by
              rw [List.take_add_one, ES.out, wrote_append]
              simp [wrote]
            rw [e1]
            exact R4.out
          case measure => simp [intOf]; omega
        · obtain rfl : k = m := by omega
          have lm := LM.out
          rw [List.take_of_length_le (by omega)] at HF
          obtain ⟨AF, cF, rfl, hcF, hCF⟩ := Kd.R_reads HF.out
          obtain ⟨nF, eF⟩ : ∃ n, (wrote (ps.map subP)).length = n := ⟨_, rfl⟩
          have hgood : ∀ p, p ∈ ps → (0 ≤ p.1 ∧ p.1 ≤ 255) ∧ p.2.1.length ≤ 10000000 ∧ ∀ x ∈ p.2.1, 0 ≤ x ∧ x ≤ 255 := fun p hp => ⟨(HG.out p hp).1, by have := (tot_mem ps).2 p hp; have := HT.out; omega, (HG.out p hp).2⟩
          have nF1 : nF ≤ 1048576 := by have := wrote_len ps; have := HT.out; omega
          have BW2 := Aside0.mk (below_then B2.out B2.out.size HW.out)
          have RS := rsb_calls (c := cF) (n := nF) hCF eF.symm (wrote_byte ps hgood) ((HE.out.below BW2.out).up BW2.out.size) (by omega)
          rw [wrote_read ps (fun p hp => by have := (tot_mem ps).2 p hp; have := HT.out; omega) _ (Nat.le_refl _)] at RS
          have RS' := Aside0.mk RS
          have HCF := Aside0.mk hCF
          have EF := Aside0.mk eF
          have sg : ∀ s, s ∈ ps.map subP → (0 ≤ s.1 ∧ s.1 ≤ 255 ∧ s.2.1.length ≤ 100000000 ∧ s.2.2.length ≤ 100000000) := by
            intro s hs
            obtain ⟨p, hp, rfl⟩ := List.mem_map.1 hs
            have q := hgood p hp
            have q2 := encL_len p.2.2 (1 + p.2.1.length)
            have e1 : (subP p).2.1 = encL p.2.2 (1 + p.2.1.length) := rfl
            have e2 : (subP p).2.2 = p.2.1 := rfl
            refine ⟨q.1.1, q.1.2, ?_, ?_⟩
            · rw [e1]; omega
            · rw [e2]; omega
          have ml : (ps.map subP).length ≤ 100000000 := by have := (tot_mem ps).1; have := HT.out; rw [List.length_map]; omega
          have WF := Aside0.mk (ws_f ml (fun s hs => ⟨(sg s hs).1, (sg s hs).2.1⟩) (by omega))
          have SF := Aside0.mk (ss_f ml sg)
          rw [eF]
          clear RS hCF eF hgood sg ml nF1 hcF
          go_wp2_with fail
          refine RS'.out.mono ?_
          rintro en w3 ⟨v', e, rfl, he, hR, hB⟩
          obtain rfl : e = 0 := by rcases he with h | h; exact h.2; exact absurd h.1 (by simp)
          obtain ⟨A5, c5, rfl, hc5, hC5⟩ := Kd.R_reads hR
          rw [LM.out] at hc5 ⊢
          have B3 := Aside0.mk (below_then HW.out HW.out.size hB)
          have HC5 := Aside0.mk (And.intro hC5 hc5)
          have HCF3 := Aside0.mk (Kd.C_below HCF.out hB)
          have W3 := spec_WrittenSubs.calls ((ps.map subP).length + 1) AW cW ((ps.map subP).map toS) (wrote (ps.map subP)) w3 (by rw [List.length_map]; exact C_toS (Kd.C_below CW.out.1 B3.out)) (by rw [List.length_map]; exact CW.out.2) WF.out
          rw [List.length_map, LM.out] at W3
          have W3' := Aside0.mk W3
          clear hR hB hC5 hc5 W3 he
          go_wp2_with fail
          refine W3'.out.mono ?_
          rintro en w4 ⟨v6, rfl, hR, hB⟩
          obtain ⟨A6, c6, rfl, _, hC6⟩ := Kd.R_reads hR
          have B4 := Aside0.mk (below_then B3.out B3.out.size hB)
          rw [EF.out]
          have SB := Aside0.mk (same_calls (c := cF) (d := c6) (n := nF) (m := nF) (Kd.C_below HCF3.out hB) hC6 rfl EF.out.symm EF.out.symm)
          have HC5' := Aside0.mk (Kd.C_below HC5.out.1 hB)
          clear hR hB hC6
          go_wp2_with fail
          refine SB.out.mono ?_
          rintro en w5 ⟨rfl, hB⟩
          have B5 := Aside0.mk (below_then B4.out B4.out.size hB)
          have SS := laws_sameSubs.calls ((ps.map subP).length + 100000002) A5 c5 ((ps.map subP).map toI) AW cW ((ps.map subP).map toS) true w5 (by rw [List.length_map]; exact C_toI (Kd.C_below HC5'.out hB)) (by rw [List.length_map]; exact Nat.le_trans (Nat.le_of_eq LM.out) HC5.out.2) (by rw [List.length_map]; exact C_toS (Kd.C_below CW.out.1 B5.out)) (by rw [List.length_map]; exact CW.out.2) SF.out
          simp only [List.length_map] at SS
          rw [EM.out] at SS
          have SS' := Aside0.mk SS
          clear hB SS
          go_wp2_with fail
          refine SS'.out.mono ?_
          rintro en w6 ⟨rfl, hB⟩
          have B6 := Aside0.mk (below_then B2.out B2.out.size (below_then B5.out B5.out.size hB))
          clear hB
          go_wp2_with fail
          go_ret
          exact ⟨rfl, B6.out⟩
end Go.Proofs.YtfhefoaieefnkaaDoor.Rd
