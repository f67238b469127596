/- laws.FnReadOid. -/
import Derived.Test.YtfhefoaieefnkaaDoorRo
import Derived.Test.YtfhefoaieefnkaaDoorCut
import Derived.Test.YtfhefoaieefnkaaDoorPFnReadOidx1
set_option linter.unusedVariables false
set_option linter.unusedSimpArgs false
namespace Go.Proofs.YtfhefoaieefnkaaDoor.Rd
open Go.RowKit Go.Proofs.YtfhefoaieefnkaaDoorW.PrintWords Go.Proofs.YtfhefoaieefnkaaDoorW.PrintMore Go.Proofs.YtfhefoaieefnkaaDoor.Kit Go.Proofs.YtfhefoaieefnkaaDoor.PFnReadOid

theorem same_l0 (l : List Int) (hl : l.length ≤ 1048577) : ∀ (d i : Nat), i + d = l.length → spec_SameBytes.l0 (d + 1) l l (l.length : Int) (i : Int) = some true
  | 0, i, h => by rw [spec_SameBytes.l0, if_neg (by omega)]
  | d + 1, i, h => by
    have e : wrap64 ((i : Int) + 1) = ((i + 1 : Nat) : Int) := (wrap64_id (by omega) (by omega)).trans (by omega)
    rw [spec_SameBytes.l0, if_pos (by omega), if_pos (by omega), if_pos (by omega), if_pos (by omega), if_pos rfl, e]
    exact same_l0 l hl d (i + 1) (by omega)
theorem same_f (l : List Int) (hl : l.length ≤ 1048577) : spec_SameBytes.f (l.length + 1) l l = some true := by
  unfold spec_SameBytes.f
  rw [if_pos rfl]
  exact same_l0 l hl l.length 0 (by omega)
theorem leo_up {α : Type} {f : Nat → Option α} (h : ∀ k, LeO (f k) (f (k + 1))) {k : Nat} {r : α} (e : f k = some r) : ∀ d, f (k + d) = some r
  | 0 => e
  | d + 1 => h (k + d) r (leo_up h e d)
theorem field_f {m : Nat} {t : List Int} (hm : m ≤ 254) (hl : m = t.length) : ∃ k, laws_isField.f k t ((m : Int) * 8) ((m : Int) :: t) (1 + (m : Int)) t ((m : Int) * 8) ((m : Int) :: t) = some true := by
  refine ⟨t.length + 2, ?_⟩
  have h1 : spec_SameBytes.f (t.length + 2) t t = some true := leo_up (fun k => spec_SameBytes.mono t t k) (same_f t (by omega)) 1
  have h2 : spec_SameBytes.f (t.length + 2) ((m : Int) :: t) ((m : Int) :: t) = some true := same_f ((m : Int) :: t) (by simp; omega)
  unfold laws_isField.f
  have e : ((1 + (m : Int)) == ((((m : Int) :: t).length : Nat) : Int)) = true := beq_iff_eq.2 (by simp; omega)
  rw [h1, Option.bind_some, if_pos rfl, if_pos rfl, h2, Option.bind_some, if_pos rfl, e]
theorem sp_nil : spec_ReadOID.f 3 [] = some ([], 0, 1) := rfl
theorem sp_res {b : Int} {t : List Int} (hb : b = 0 ∨ b = 255) : spec_ReadOID.f 3 (b :: t) = some ([], 0, 2) := by
  have rb : wrap64 (rd (b :: t) 0) = b := wrap64_id (by show (_ : Int) ≤ b; omega) (by show b ≤ _; omega)
  have ln : ((b :: t).length : Int) = (t.length : Int) + 1 := by simp
  unfold spec_ReadOID.f
  rw [rb, if_neg (by omega), if_pos (by omega)]
  rcases hb with rfl | rfl
  · rw [if_pos rfl]; rfl
  · rw [if_neg (by omega)]; rfl
theorem sp_cut {m : Nat} {t : List Int} (h1 : 1 ≤ m) (h2 : m ≤ 254) (ht : t.length < m) : spec_ReadOID.f 3 ((m : Int) :: t) = some ([], 0, 1) := by
  have rb : wrap64 (rd ((m : Int) :: t) 0) = (m : Int) := wrap64_id (by show (_ : Int) ≤ (m : Int); omega) (by show (m : Int) ≤ _; omega)
  have ln : (((m : Int) :: t).length : Int) = (t.length : Int) + 1 := by simp
  have w1 : wrap64 (1 + (m : Int)) = 1 + (m : Int) := wrap64_id (by omega) (by omega)
  have n2 : ((m : Int) == 255) = false := beq_eq_false_iff_ne.2 (by omega)
  unfold spec_ReadOID.f
  rw [rb, if_neg (by omega), if_pos (by omega), if_neg (by omega), n2, spec_ReadOID.j0, w1, if_neg (by decide), if_pos (by omega)]
theorem sp_fine {m : Nat} {t : List Int} (h1 : 1 ≤ m) (h2 : m ≤ 254) (ht : m ≤ t.length) : spec_ReadOID.f 3 ((m : Int) :: t) = some (t.take m, 1 + (m : Int), 0) := by
  have rb : wrap64 (rd ((m : Int) :: t) 0) = (m : Int) := wrap64_id (by show (_ : Int) ≤ (m : Int); omega) (by show (m : Int) ≤ _; omega)
  have ln : (((m : Int) :: t).length : Int) = (t.length : Int) + 1 := by simp
  have w1 : wrap64 (1 + (m : Int)) = 1 + (m : Int) := wrap64_id (by omega) (by omega)
  have n2 : ((m : Int) == 255) = false := beq_eq_false_iff_ne.2 (by omega)
  have tk : (((m : Int) :: t).take (1 + (m : Int)).toNat).drop 1 = t.take m := by
    rw [show (1 + (m : Int)).toNat = m + 1 by omega]; rfl
  unfold spec_ReadOID.f
  rw [rb, if_neg (by omega), if_pos (by omega), if_neg (by omega), n2, spec_ReadOID.j0, w1, if_neg (by decide), if_neg (by omega), Option.bind_some, if_pos (by omega), if_pos (by omega), tk, if_pos (by rw [List.length_take, List.length_nil]; omega), List.nil_append]
set_option maxRecDepth 100000 in
theorem oid_big {w : World} {A : Option Addr} {c n : Nat} {split : Int} (hz : 2147483647 < n) :
    Calls Tryd.prog 4 #[.slice A n c, .int .i64 split] w fun e w' => e = .returned (.bool true) ∧ Below w.heap.size w w' := by
  go_enter Tryd.func4, Tryd.ntmps4
  go_wp2_with fail
  go_ret
  exact ⟨rfl, Below.refl _ _⟩
set_option maxRecDepth 100000 in
theorem oid_mid {w : World} {A : Option Addr} {c n : Nat} {split : Int} (hz : ¬ 2147483647 < n) (hy : 1048576 < n) :
    Calls Tryd.prog 4 #[.slice A n c, .int .i64 split] w fun e w' => e = .returned (.bool true) ∧ Below w.heap.size w w' := by
  go_enter Tryd.func4, Tryd.ntmps4
  go_wp2_with fail
  go_ret
  exact ⟨rfl, Below.refl _ _⟩
set_option maxHeartbeats 1600000 in
set_option maxRecDepth 100000 in
theorem oid_no {w : World} {A : Option Addr} {c n : Nat} {l : List Int} {split : Int} (hr : C8 w A l) (hc : l.length ≤ c) (hn : n = l.length) (hz : ¬ 2147483647 < n) (hy : ¬ 1048576 < n) {x hw : Int} (hx : x ≠ 0) (hh : hw ≠ 0) (hsp : spec_ReadOID.f 3 l = some ([], 0, hw))
    (hRO : Calls Tryd.prog 17 #[.slice A n c, .int .i64 split] w fun en w' => (∃ k, en = .returned (.tuple #[.agg #[.slice none 0 0, .int .i64 0, .slice none 0 0, .int .i64 0], .int .i64 k, .int .i64 x])) ∧ Below w.heap.size w w') :
    Calls Tryd.prog 4 #[.slice A n c, .int .i64 split] w fun e w' => e = .returned (.bool true) ∧ Below w.heap.size w w' := by
  have HO := Aside0.mk hRO
  have HR := Aside0.mk hr
  have HC := Aside0.mk hc
  have HN := Aside0.mk hn
  have HS := Aside0.mk hsp
  clear hr hc hn hRO hsp
  go_enter Tryd.func4, Tryd.ntmps4
  go_wp2_with (first | (go_at_call 17; (with_reducible refine HO.out.mono ?_); rintro en w1 ⟨⟨k, rfl⟩, hB⟩; have B1 := Aside0.mk hB; clear hB) | (go_at_call 18; rw [HN.out]; (refine (spec_ReadOID.calls 3 A c l _ _ _ (w1.alloc (.cells #[.slice none 0 0, .int .i64 0, .slice none 0 0, .int .i64 0] 29)) (Kd.C_below HR.out (below_then B1.out B1.out.size (below_alloc (Below.refl _ _) _))) HC.out HS.out).mono ?_); rintro en w2 ⟨v, rfl, hR, hB⟩; have B2 := Aside0.mk (below_then B1.out B1.out.size (below_then (below_alloc (Below.refl _ _) (.cells #[.slice none 0 0, .int .i64 0, .slice none 0 0, .int .i64 0] 29)) (by simp) hB)); clear hR hB))
  go_ret
  exact ⟨by simp [hx], B2.out⟩
theorem isf {w : World} {A1 A2 A3 A4 : Option Addr} {c1 c2 c3 c4 m m4 : Nat} {t : List Int} (hl : m = t.length) (hm : m ≤ 254) (h4 : m4 = m + 1) (h1 : C8 w A1 t) (d1 : m ≤ c1) (h2 : C8 w A2 ((m : Int) :: t)) (d2 : m + 1 ≤ c2) (h3 : C8 w A3 t) (d3 : m ≤ c3) (h5 : C8 w A4 ((m : Int) :: t)) (d5 : m + 1 ≤ c4) :
    Calls Tryd.prog 19 #[.agg #[.slice A1 m c1, .int .i64 ((m : Int) * 8), .slice A2 (m + 1) c2, .int .i64 (1 + (m : Int))], .slice A3 m c3, .int .i64 (8 * (m : Int)), .slice A4 m4 c4] w fun e w' => e = .returned (.bool true) ∧ Below w.heap.size w w' := by
  obtain ⟨k, hk⟩ := field_f hm hl
  have e2 : ((m : Int) :: t).length = m + 1 := by rw [List.length_cons, ← hl]
  have q := laws_isField.calls k A1 c1 t ((m : Int) * 8) A2 c2 ((m : Int) :: t) (1 + (m : Int)) A3 c3 t ((m : Int) * 8) A4 c4 ((m : Int) :: t) true w h1 (by omega) h2 (by omega) h3 (by omega) h5 (by omega) hk
  rw [e2, ← hl, Int.mul_comm (m : Int) 8] at q
  rw [h4, Int.mul_comm (m : Int) 8]
  exact q
set_option maxHeartbeats 3200000 in
set_option maxRecDepth 100000 in
theorem oid_ok {w : World} {A : Option Addr} {c n m : Nat} {tt : List Int} {split : Int} (hr : C8 w A ((m : Int) :: tt)) (hc : ((m : Int) :: tt).length ≤ c) (hn : n = ((m : Int) :: tt).length) (hz : ¬ 2147483647 < n) (hy : ¬ 1048576 < n) (m1 : 1 ≤ m) (m2 : m ≤ 254) (mt : m ≤ tt.length)
    (hRO : Calls Tryd.prog 17 #[.slice A n c, .int .i64 split] w fun en w' => ∃ A1 c1 A2 c2, en = .returned (.tuple #[.agg #[.slice A1 m c1, .int .i64 ((m : Int) * 8), .slice A2 (m + 1) c2, .int .i64 (1 + (m : Int))], .int .i64 (1 + (m : Int)), .int .i64 0]) ∧ (C8 w' A1 (tt.take m) ∧ m ≤ c1) ∧ (C8 w' A2 ((m : Int) :: tt.take m) ∧ m + 1 ≤ c2) ∧ Below w.heap.size w w') :
    Calls Tryd.prog 4 #[.slice A n c, .int .i64 split] w fun e w' => e = .returned (.bool true) ∧ Below w.heap.size w w' := by
  have HO := Aside0.mk hRO
  have HR := Aside0.mk hr
  have HC := Aside0.mk hc
  have HN := Aside0.mk hn
  have HS := Aside0.mk (sp_fine m1 m2 mt)
  have LT := Aside0.mk (show m = (tt.take m).length by rw [List.length_take]; omega)
  have nm : 1 + m ≤ n := by rw [hn]; simp; omega
  have nc : 1 + m ≤ c := by rw [← hn] at hc; omega
  have nmi : 1 + (m : Int) ≤ (n : Int) := by omega
  have NC := Aside0.mk (show m + 1 ≤ c by omega)
  have n0i : (0 : Int) ≤ 1 + (m : Int) := by omega
  have hw8 : IntKind.i64.wrap (8 * (m : Int)) = 8 * (m : Int) := IntWalk.i64_in _ (by omega)
  have hsl : ∀ W : World, (Instr.slice 22 (.slice A n c) none (some (.int .i64 (1 + (m : Int)))) none).run Tryd.prog W = .ok (.slice A (1 + m) c) W := by
    intro W
    have q := take8 (P := Tryd.prog) (t := 22) (e := 5) Tryd.underlying22 infoB A c ((m : Int) :: tt) (1 + m) (by rw [← hn]; exact nm) hc hn
    have q := q.1 W
    rw [show ((1 + m : Nat) : Int) = 1 + (m : Int) by omega] at q
    exact q
  have nci : 1 + (m : Int) ≤ (c : Int) := by omega
  have HX := Aside0.mk (show C8 w A ((m : Int) :: tt.take m) from Kd.C_take (m := m + 1) hr (by simp; omega))
  clear hr hc hn hRO
  go_enter Tryd.func4, Tryd.ntmps4
  go_wp2_with (first | (go_at_call 17; (with_reducible refine HO.out.mono ?_); rintro en w1 ⟨A1, c1, A2, c2, rfl, hX, hY, hB⟩; have X1 := Aside0.mk hX; have Y1 := Aside0.mk hY; have B1 := Aside0.mk hB; clear hX hY hB) | (go_at_call 18; rw [HN.out]; (refine (spec_ReadOID.calls 3 A c _ _ _ _ (w1.alloc (.cells #[.slice A1 m c1, .int .i64 ((m : Int) * 8), .slice A2 (m + 1) c2, .int .i64 (1 + (m : Int))] 29)) (Kd.C_below HR.out (below_then B1.out B1.out.size (below_alloc (Below.refl _ _) _))) HC.out HS.out).mono ?_); rw [← HN.out]; rintro en w2 ⟨v, rfl, hR, hB⟩; obtain ⟨A3, c3, e3, hc3, hC3⟩ := r8_reads hR; rw [← LT.out] at e3 hc3; subst e3; have C3 := Aside0.mk hC3; have D3 := Aside0.mk hc3; have p0 : w2.cell? ⟨w1.heap.size, 0, none⟩ = some (.slice A1 m c1) := (hB.cell (by simp)).trans (by simp [go_sem]); have p1 : w2.cell? ⟨w1.heap.size, 1, none⟩ = some (.int .i64 ((m : Int) * 8)) := (hB.cell (by simp)).trans (by simp [go_sem]); have p2 : w2.cell? ⟨w1.heap.size, 2, none⟩ = some (.slice A2 (m + 1) c2) := (hB.cell (by simp)).trans (by simp [go_sem]); have p3 : w2.cell? ⟨w1.heap.size, 3, none⟩ = some (.int .i64 (1 + (m : Int))) := (hB.cell (by simp)).trans (by simp [go_sem]); have BX := Aside0.mk (below_then (below_alloc (Below.refl _ _) (.cells #[.slice A1 m c1, .int .i64 ((m : Int) * 8), .slice A2 (m + 1) c2, .int .i64 (1 + (m : Int))] 29)) (by simp) hB); have B2 := Aside0.mk (below_then B1.out B1.out.size BX.out); clear hR hC3 hc3 hB))
  go_region_held3 (fun w' => w'.cell? ⟨w1.heap.size, 0, none⟩ = some (.slice A1 m c1) ∧ w'.cell? ⟨w1.heap.size, 1, none⟩ = some (.int .i64 ((m : Int) * 8)) ∧ w'.cell? ⟨w1.heap.size, 2, none⟩ = some (.slice A2 (m + 1) c2) ∧ w'.cell? ⟨w1.heap.size, 3, none⟩ = some (.int .i64 (1 + (m : Int)))) (first | (exact ⟨p0, p1, p2, p3⟩) | assumption | go_keep) ((go_at_call 19; go_loud ((with_reducible refine (isf (w := w2.drew) (m4 := 1 + m) LT.out m2 (Nat.add_comm 1 m) (Kd.C_below X1.out.1 (below_drew BX.out)) X1.out.2 (Kd.C_below Y1.out.1 (below_drew BX.out)) Y1.out.2 (Kd.C_below C3.out (below_drew (Below.refl _ _))) D3.out (Kd.C_below HX.out (below_drew B2.out)) NC.out).mono ?_); rintro en w3 ⟨rfl, hB⟩; have B3 := Aside0.mk (below_then B2.out B2.out.size (below_then (below_drew (Below.refl _ w2)) (Nat.le_refl _) hB)); have lt2 := World.block_lt_of_cell? w2 _ p0; have hS0 : w3.cell? ⟨w1.heap.size, 0, none⟩ = some (.slice A1 m c1) ∧ w3.cell? ⟨w1.heap.size, 1, none⟩ = some (.int .i64 ((m : Int) * 8)) ∧ w3.cell? ⟨w1.heap.size, 2, none⟩ = some (.slice A2 (m + 1) c2) ∧ w3.cell? ⟨w1.heap.size, 3, none⟩ = some (.int .i64 (1 + (m : Int))) := ⟨(hB.cell lt2).trans p0, (hB.cell (p := ⟨w1.heap.size, 1, none⟩) lt2).trans p1, (hB.cell (p := ⟨w1.heap.size, 2, none⟩) lt2).trans p2, (hB.cell (p := ⟨w1.heap.size, 3, none⟩) lt2).trans p3⟩; clear hB)))
  go_wp2_with fail
  go_ret
  exact ⟨rfl, B3.out⟩
theorem law_oid (A : Option Addr) (c : Nat) (l : List Int) (split : Int) (w : World) (hr : C8 w A l) (hc : l.length ≤ c) (hm : l.length ≤ maxLen) (hw : ∀ x ∈ l, (Lit.int .u8 x).wf = true) (hs : (Lit.int .i64 split).wf = true) {aE aU : Addr} (hE : Env w w.heap.size aE aU) :
    Calls Tryd.prog 4 #[.slice A l.length c, .int .i64 split] w fun e w' => e = .returned (.bool true) ∧ Below w.heap.size w w' := by
  by_cases hz : 2147483647 < l.length
  · exact oid_big hz
  by_cases hy : 1048576 < l.length
  · exact oid_mid hz hy
  have hb : Bytes l := bytes_of hw
  have L := laid3 split hr hc hb hE
  have d1 : w.heap.size + 1 ≠ w.heap.size + 2 := by omega
  match l, hr, hc, hb, hz, hy, L with
  | [], hr, hc, hb, hz, hy, L =>
    refine oid_no hr hc rfl hz hy (x := 2) (by decide) (hw := 1) (by decide) sp_nil (ro_cut L (by simp) ((rf_nil L.src L.env L.o0 L.oz (Nat.le_refl _) d1).mono (fun en w' ⟨e, t⟩ => ⟨⟨_, e⟩, t⟩)))
  | b :: tt, hr, hc, hb, hz, hy, L =>
    have ba : 0 ≤ b := (hb 0).1
    have bz : b ≤ 255 := (hb 0).2
    by_cases h0 : b = 0 ∨ b = 255
    · exact oid_no hr hc rfl hz hy (x := 4) (by decide) (hw := 2) (by decide) (sp_res h0) (ro_res L (by omega) (rf_res L.src L.env L.o0 L.oz (Nat.le_refl _) d1 h0))
    · obtain ⟨m, rfl⟩ := Int.eq_ofNat_of_zero_le ba
      have m1 : 1 ≤ m := by omega
      have m2 : m ≤ 254 := by omega
      by_cases mt : m ≤ tt.length
      · exact oid_ok hr hc rfl hz hy m1 m2 mt (ro_ok L (by omega) m2 (by rw [List.length_take]; omega) (rf_ok L.src L.env L.o0 L.oz (Nat.le_refl _) d1 m1 m2 mt))
      · by_cases t0 : tt = []
        · exact oid_no hr hc rfl hz hy (x := 2) (by decide) (hw := 1) (by decide) (sp_cut m1 m2 (by omega)) (ro_cut L (by omega) (rf_cut0 L.src L.env L.o0 L.oz (Nat.le_refl _) d1 m1 m2 t0))
        · exact oid_no hr hc rfl hz hy (x := 2) (by decide) (hw := 1) (by decide) (sp_cut m1 m2 (by omega)) (ro_cut L (by omega) (rf_cut1 L.src L.env L.o0 L.oz (Nat.le_refl _) d1 m1 m2 (List.length_pos_iff.2 t0) (by omega)))
end Go.Proofs.YtfhefoaieefnkaaDoor.Rd
