/- Uat, Psub, FUat in one text (join.py). -/
import Derived.Test.YtfhefoaieefnkaaDoorRall
import Derived.Test.YtfhefoaieefnkaaDoorSbs
import Derived.Test.YtfhefoaieefnkaaDoorMkr
import Derived.Test.YtfhefoaieefnkaaDoorOsp
import Derived.Test.YtfhefoaieefnkaaDoorRsubFnReadAttributeB
import Derived.Test.YtfhefoaieefnkaaDoorPFnReadAttributex2
/- packet.UserAttribute.parse, impl.ReadAttribute. -/
set_option linter.unusedVariables false
set_option linter.unusedSimpArgs false
namespace Go.Proofs.YtfhefoaieefnkaaDoor.Rd
open Go.RowKit Go.Proofs.YtfhefoaieefnkaaDoorW.PrintWords Go.Proofs.YtfhefoaieefnkaaDoorW.PrintMore Go.Proofs.YtfhefoaieefnkaaDoor.Kit

theorem Subs.far {Q : World → Prop} {w : World} {base u i : Nat} {v x : Value} {ss : List (Int × List Int × List Int)} (h : Subs Q w base v ss) (hu : u < base) : Subs Q (w.setCell ⟨u, i, none⟩ x) base v ss := by
  obtain ⟨bs, h1, h2, h3⟩ := h
  refine ⟨bs, Kd.R_mono (Kd.R_far (Kd.R_bound h1) (p := ⟨u, i, none⟩) (fun k q e => ?_) x) (fun _ _ => trivial), h2, fun i b s e1 e2 => ?_⟩
  · have h1 := q.2.1
    have h2 : k = u := e
    omega
  · obtain ⟨p1, p2, p3⟩ := h3 i b s e1 e2
    exact ⟨p1.kept (Below.heap_setCell w _ x b (fun e => by have h2 : b = u := e; omega)), p2, p3⟩
theorem Subs.lower {Q : World → Prop} {w : World} {base base' : Nat} {v : Value} {ss : List (Int × List Int × List Int)} (h : Subs Q w base v ss) (hu : base' ≤ base) : Subs Q w base' v ss := by
  obtain ⟨bs, h1, h2, h3⟩ := h
  exact ⟨bs, Kd.R_lower h1 hu, h2, fun i b s e1 e2 => ⟨(h3 i b s e1 e2).1, (h3 i b s e1 e2).2.1, Nat.le_trans hu (h3 i b s e1 e2).2.2⟩⟩
set_option maxHeartbeats 1600000 in
set_option maxRecDepth 100000 in
theorem uat_calls {w : World} {d s u : Nat} {A : Option Addr} {c : Nat} {l : List Int} {split : Int} {aE aU : Addr} {v0 : Value} (h : Src w d s A c l split) (hE : Env w d aE aU) (hl : l.length ≤ 100000000) (hu : w.cell? ⟨u, 0, none⟩ = some v0) (hz : w.frozen? ⟨u, 0, none⟩ = false) (us : u ≠ s) :
    Calls Tryd.prog 115 #[.pointer (some ⟨u, 0, none⟩), (.iface 94 (.pointer (some ⟨s, 0, none⟩)))] w fun en w' => ∃ v er Q, en = .returned er ∧ (((subsAll l.length l).2 = true ∧ er = .nilIface) ∨ ((subsAll l.length l).2 = false ∧ ∃ m, er = .iface 168 (.string m))) ∧ w'.cell? ⟨u, 0, none⟩ = some v ∧ Subs Q w' w.heap.size v (subsAll l.length l).1 ∧ Q w' ∧ Tch (fun j => j = s ∨ j = u) w w' := by
  have HC := Aside0.mk (rall_src (b := s) (rest := []) (ok := true) (.inl ⟨rfl, rfl, rfl, rfl, A, c, h⟩) hE hl)
  have HB := Aside0.mk h.by_
  have ul := World.block_lt_of_cell? w _ hu
  have UL := Aside0.mk ul
  have UV := Aside0.mk (And.intro hu hz)
  have us' := Aside0.mk us
  clear h hE hu hz us ul
  go_enter Tryd.func115, Tryd.ntmps115
  go_wp2_with fail
  refine HC.out.mono ?_
  rintro en w1 ⟨v', e1, hR, hS, hT⟩
  rw [if_pos rfl] at e1
  subst e1
  obtain ⟨Ab, cb, rfl, hcb, hCb⟩ := Kd.R_reads hR
  have C1 := Aside0.mk (osp_calls hCb hcb rfl HB.out hl)
  have HCb := Aside0.mk hCb
  have T1 := Aside0.mk hT
  have AB := Aside0.mk (show ∀ ad, Ab = some ad → w.heap.size ≤ ad.block from fun ad e => by subst e; exact Kd.R_base hR ad.block rfl)
  have u1 := Aside0.mk (hT.cell (p := ⟨u, 0, none⟩) UV.out.1 (fun q => by rcases q with q | q <;> exact us'.out q))
  have z1 := Aside0.mk ((hT.frozen (p := ⟨u, 0, none⟩) UL.out (fun q => by rcases q with q | q <;> exact us'.out q)).trans UV.out.2)
  clear hR hS hT hcb hCb
  obtain ⟨n, en⟩ : ∃ n, l.length = n := ⟨_, rfl⟩
  rw [en] at C1 ⊢
  have EN := Aside0.mk en
  clear en
  go_wp2_with fail
  refine C1.out.mono ?_
  rintro en w2 ⟨v, er, rfl, her, hSub, hB⟩
  have u1l := World.block_lt_of_cell? w1 _ u1.out
  have x0 := (hB.cell (p := ⟨u, 0, none⟩) u1l).trans u1.out
  have f0 := ((Tch.of_below (S := fun _ => False) hB).frozen (p := ⟨u, 0, none⟩) u1l (fun f => f)).trans z1.out
  obtain ⟨Av, nb, cv, rfl⟩ : ∃ A n c, v = .slice A n c := by
    obtain ⟨bs, hbs, _⟩ := hSub
    obtain ⟨Av, cv, e, _⟩ := Kd.R_reads hbs
    exact ⟨_, _, _, e⟩
  have S2 := Aside0.mk hSub
  have B2 := Aside0.mk hB
  have ER := Aside0.mk her
  clear hB her hSub u1l
  go_wp2_with fail
  go_ret
  have ul := UL.out
  have T2 : Tch (fun j => j = s ∨ j = u) w (w2.setCell ⟨u, 0, none⟩ (.slice Av nb cv)) := ((T1.out.mono (fun j q => by rcases q with q | q <;> exact .inl q)).trans (Tch.of_below B2.out)).setCell (p := ⟨u, 0, none⟩) (fun _ => .inr rfl) _
  have sz := T1.out.size
  have e1 := EN.out
  have gu : u < w1.heap.size := by omega
  rw [e1]
  refine ⟨_, _, _, rfl, ER.out, by simp [go_sem, *], (S2.out.far (i := 0) (x := .slice Av nb cv) gu).lower sz, ?_, T2⟩
  have hc := ((Tch.refl (fun j => j = u) w2).setCell (p := ⟨u, 0, none⟩) (fun _ => rfl) (.slice Av nb cv)).c8 (Kd.C_below HCb.out B2.out) (fun ad e _ q => by have := AB.out ad e; omega)
  exact hc
set_option maxHeartbeats 1600000 in
set_option maxRecDepth 100000 in
theorem zu_calls {w : World} {d s u : Nat} {A : Option Addr} {c : Nat} {l : List Int} {split : Int} {aE aU : Addr} {v0 : Value} (h : Src w d s A c l split) (hE : Env w d aE aU) (hl : l.length ≤ 100000000) (hu : w.cell? ⟨u, 0, none⟩ = some v0) (hz : w.frozen? ⟨u, 0, none⟩ = false) (us : u ≠ s) :
    Calls Tryd.prog 59 #[.iface 133 (.pointer (some ⟨u, 0, none⟩)), (.iface 94 (.pointer (some ⟨s, 0, none⟩)))] w fun en w' => ∃ v er Q, en = .returned er ∧ (((subsAll l.length l).2 = true ∧ er = .nilIface) ∨ ((subsAll l.length l).2 = false ∧ ∃ m, er = .iface 168 (.string m))) ∧ w'.cell? ⟨u, 0, none⟩ = some v ∧ Subs Q w' w.heap.size v (subsAll l.length l).1 ∧ Q w' ∧ Tch (fun j => j = s ∨ j = u) w w' := by
  have H := Aside0.mk (uat_calls h hE hl hu hz us)
  clear h hE hu hz us
  go_enter Tryd.func59, Tryd.ntmps59
  go_wp2_with fail
  refine H.out.mono ?_
  rintro en w1 ⟨v, er, Q, rfl, P⟩
  have PP := Aside0.mk P
  clear P
  go_wp2_with fail
  go_ret
  exact ⟨v, er, Q, rfl, PP.out⟩
theorem subsAll_few (n : Nat) (l : List Int) (hl : l.length ≤ 100000000) : (subsAll n l).1.length ≤ 100000000 ∧ ∀ s, s ∈ (subsAll n l).1 → s.2.1.length ≤ 100000000 ∧ s.2.2.length ≤ 100000000 := by
  have key : ∀ (n : Nat) (l : List Int), (subsAll n l).1.length ≤ l.length ∧ ∀ s, s ∈ (subsAll n l).1 → s.2.1.length ≤ l.length ∧ s.2.2.length ≤ l.length := by
    intro n
    induction n with
    | zero =>
      intro l
      match l with
      | [] => exact ⟨Nat.le_refl _, fun s h => by cases h⟩
      | a :: t => exact ⟨Nat.zero_le _, fun s h => by cases h⟩
    | succ n ih =>
      intro l
      by_cases h0 : l.length = 0
      · have e0 := List.eq_nil_of_length_eq_zero h0
        subst e0
        exact ⟨Nat.le_refl _, fun s h => by cases h⟩
      · rcases hso : subOne l with _ | ⟨s, r⟩
        · rw [subsAll_none (by omega) hso]
          exact ⟨Nat.zero_le _, fun s h => by cases h⟩
        · have lcat := congrArg List.length (subOne_cat hso)
          rw [List.length_append, List.length_cons, List.length_append] at lcat
          rw [subsAll_some hso]
          obtain ⟨i1, i2⟩ := ih r
          refine ⟨by rw [List.length_cons]; omega, fun s' h => ?_⟩
          rcases List.mem_cons.1 h with h | h
          · subst h; omega
          · have := i2 s' h; omega
  obtain ⟨k1, k2⟩ := key n l
  exact ⟨by omega, fun s h => by have := k2 s h; omega⟩
set_option maxHeartbeats 1600000 in
set_option maxRecDepth 100000 in
theorem ra_calls {w : World} {A : Option Addr} {c n : Nat} {l : List Int} {aE aU : Addr} (hr : C8 w A l) (hc : l.length ≤ c) (hn : n = l.length) (hb : Bytes l) (hE : Env w w.heap.size aE aU) (hl : l.length ≤ 100000000) :
    Calls Tryd.prog 31 #[.slice A n c] w fun en w' => ∃ v' e, en = .returned (.tuple #[v', .int .i64 e]) ∧ (((subsAll l.length l).2 = true ∧ e = 0) ∨ ((subsAll l.length l).2 = false ∧ e = 3)) ∧ kS.R 50 w' w.heap.size (fun _ => True) v' (subsAll l.length l).1 ∧ Below w.heap.size w w' := by
  have hB1 : Below w.heap.size w (w.alloc (.cells #[.slice none 0 0] 135)) := below_alloc (Below.refl _ _) _
  have hz1 : (w.alloc (.cells #[.slice none 0 0] 135)).heap.size = w.heap.size + 1 := by simp
  obtain ⟨W, eW, hS, hB3⟩ := src_new (w := w.alloc (.cells #[.slice none 0 0] 135)) 0 (Kd.C_below hr hB1) hc hb
  rw [hz1] at hS
  have hB := below_then hB1 hB1.size hB3
  have hfb : W.heap[w.heap.size]? = some (.cells #[.slice none 0 0] 135 (0, 0)) := (hB3.block _ (by rw [hz1]; omega)).trans (heap_alloc_new _ _)
  have hS1 : Src W w.heap.size (w.heap.size + 1) A c l 0 := { hS with
    lo := fun ad e hp => c8_lt hr e hp
    ds := by omega }
  have HC := Aside0.mk (zu_calls (u := w.heap.size) (v0 := .slice none 0 0) hS1 (hE.below hB) hl ((cell_of_row _ _ 0 _ _ _ hfb).trans rfl) (frozen_of_row _ _ 0 _ _ hfb) (by omega))
  have BB := Aside0.mk hB
  have WZ := Aside0.mk (show w.heap.size + 1 < W.heap.size from hS.lt)
  have HE := Aside0.mk (hE.below hB)
  have HL := Aside0.mk (And.intro hl hn)
  rw [← hn] at eW
  clear hr hc hb hE hl hn hB1 hz1 hS hB3 hB hfb hS1
  go_enter Tryd.func31, Tryd.ntmps31
  go_wp2_with fail
  clear eW
  obtain ⟨g, eg⟩ : ∃ g, w.heap.size = g := ⟨_, rfl⟩
  have EG := Aside0.mk eg
  rw [eg] at HC WZ HE ⊢
  clear eg
  refine HC.out.mono ?_
  rintro en w1 ⟨v, er, Q, rfl, her, hu, hs, hq, hT⟩
  have HE1 := Aside0.mk (HE.out.kept hT (fun j q => by rcases q with q | q <;> omega))
  have S1 := Aside0.mk (sbs_calls hs hq (subsAll_few _ _ HL.out.1).1 (subsAll_few _ _ HL.out.1).2)
  have T1 := Aside0.mk hT
  have ER := Aside0.mk her
  clear hs hq hT her
  go_wp2_with fail
  refine S1.out.mono ?_
  rintro en w2 ⟨v2, rfl, hR, hB2⟩
  have R2 := Aside0.mk hR
  have B2 := Aside0.mk hB2
  have HE2 := Aside0.mk (HE1.out.below hB2)
  clear hR hB2
  have fin : ∀ w3, w3 = w2 → kS.R 50 w3 g (fun _ => True) v2 (subsAll l.length l).1 ∧ Below g w w3 := by
    rintro w3 rfl
    have hb := BB.out
    have wz := WZ.out
    have t1 := T1.out.size
    have hB1 : Below g w w1 := T1.out.below (EG.out ▸ hb) (by omega) (fun k q => by rcases q with q | q <;> omega)
    exact ⟨Kd.R_lower R2.out (by omega), below_then hB1 (by omega) B2.out⟩
  have FIN := Aside0.mk fin
  clear fin
  rcases ER.out with ⟨o1, rfl⟩ | ⟨o1, m, rfl⟩
  · have O1 := Aside0.mk o1
    clear o1
    go_wp2_with fail
    refine (end_nil _).mono ?_
    rintro en w3 ⟨rfl, hw⟩
    have F := Aside0.mk (FIN.out w3 hw)
    clear hw
    go_wp2_with fail
    go_ret2
    rw [EG.out]
    exact ⟨_, _, rfl, .inl ⟨O1.out, rfl⟩, F.out⟩
  · have O1 := Aside0.mk o1
    clear o1
    go_wp2_with fail
    refine (end_form HE2.out m).mono ?_
    rintro en w3 ⟨rfl, hw⟩
    have F := Aside0.mk (FIN.out w3 hw)
    clear hw
    go_wp2_with fail
    go_ret2
    rw [EG.out]
    exact ⟨_, _, rfl, .inr ⟨O1.out, rfl⟩, F.out⟩
end Go.Proofs.YtfhefoaieefnkaaDoor.Rd

/- spec.Subs and laws.sameSubs in plain lists. -/
set_option linter.unusedVariables false
set_option linter.unusedSimpArgs false
namespace Go.Proofs.YtfhefoaieefnkaaDoor.Rd.Psub
open Go.RowKit Go.Proofs.YtfhefoaieefnkaaDoorW.PrintWords Go.Proofs.YtfhefoaieefnkaaDoorW.PrintMore Go.Proofs.YtfhefoaieefnkaaDoor.Kit Go.Proofs.YtfhefoaieefnkaaDoor.PFnReadAttribute

theorem number4 {b0 b1 b2 b3 : Int} (h0 : 0 ≤ b0) (h0' : b0 ≤ 255) (h1 : 0 ≤ b1) (h1' : b1 ≤ 255) (h2 : 0 ≤ b2) (h2' : b2 ≤ 255) (h3 : 0 ≤ b3) (h3' : b3 ≤ 255) :
    spec_Number.f 6 [b0, b1, b2, b3] = some (b0 * 16777216 + b1 * 65536 + b2 * 256 + b3) := by
  have s0 : Go.bits .or .i64 (wrap64 (0 * 256)) (wrap64 b0) = b0 := by
    rw [show wrap64 (0 * 256) = 0 from wrap64_id (by omega) (by omega), wrap64_id (by omega) (by omega), i64_join 8 0 b0 (by omega) (by omega) (by decide) (by omega) (by omega) (by omega)]; omega
  have s1 : Go.bits .or .i64 (wrap64 (b0 * 256)) (wrap64 b1) = b0 * 256 + b1 := by
    rw [wrap64_id (n := b0 * 256) (by omega) (by omega), wrap64_id (n := b1) (by omega) (by omega), i64_join 8 _ b1 (by omega) (by omega) (by omega) (by omega) (by omega) (by omega)]
  have s2 : Go.bits .or .i64 (wrap64 ((b0 * 256 + b1) * 256)) (wrap64 b2) = (b0 * 256 + b1) * 256 + b2 := by
    rw [wrap64_id (n := (b0 * 256 + b1) * 256) (by omega) (by omega), wrap64_id (n := b2) (by omega) (by omega), i64_join 8 _ b2 (by omega) (by omega) (by omega) (by omega) (by omega) (by omega)]
  have s3 : Go.bits .or .i64 (wrap64 (((b0 * 256 + b1) * 256 + b2) * 256)) (wrap64 b3) = ((b0 * 256 + b1) * 256 + b2) * 256 + b3 := by
    rw [wrap64_id (n := ((b0 * 256 + b1) * 256 + b2) * 256) (by omega) (by omega), wrap64_id (n := b3) (by omega) (by omega), i64_join 8 _ b3 (by omega) (by omega) (by omega) (by omega) (by omega) (by omega)]
  have i1 : wrap64 (0 + 1) = 1 := wrap64_id (by omega) (by omega)
  have i2 : wrap64 (1 + 1) = 2 := wrap64_id (by omega) (by omega)
  have i3 : wrap64 (2 + 1) = 3 := wrap64_id (by omega) (by omega)
  have i4 : wrap64 (3 + 1) = 4 := wrap64_id (by omega) (by omega)
  have r0 : rd [b0, b1, b2, b3] 0 = b0 := rfl
  have r1 : rd [b0, b1, b2, b3] 1 = b1 := rfl
  have r2 : rd [b0, b1, b2, b3] 2 = b2 := rfl
  have r3 : rd [b0, b1, b2, b3] 3 = b3 := rfl
  have ln : (([b0, b1, b2, b3] : List Int).length : Int) = 4 := rfl
  unfold spec_Number.f
  rw [ln, spec_Number.l0, if_pos (by decide), if_pos (by decide), if_pos (by rw [ln]; decide), r0, s0, i1,
    spec_Number.l0, if_pos (by decide), if_pos (by decide), if_pos (by rw [ln]; decide), r1, s1, i2,
    spec_Number.l0, if_pos (by decide), if_pos (by decide), if_pos (by rw [ln]; decide), r2, s2, i3,
    spec_Number.l0, if_pos (by decide), if_pos (by decide), if_pos (by rw [ln]; decide), r3, s3, i4,
    spec_Number.l0, if_neg (by decide)]
  congr 1; omega
theorem leoUp {α : Type} {f : Nat → Option α} (h : ∀ k, LeO (f k) (f (k + 1))) {k : Nat} {r : α} (e : f k = some r) : ∀ d, f (k + d) = some r
  | 0 => e
  | d + 1 => h (k + d) r (leoUp h e d)
theorem num_up {l : List Int} {r : Int} (h : spec_Number.f 6 l = some r) {k : Nat} (hk : 6 ≤ k) : spec_Number.f k l = some r := by
  obtain ⟨d, rfl⟩ : ∃ d, k = 6 + d := ⟨k - 6, by omega⟩
  exact leoUp (fun k => spec_Number.mono l k) h d
theorem j0_zero (k : Nat) (l : List Int) (own : Int) : spec_ReadSub.j0 (k + 1) l own 0 = some (0, [], [], 0, 2) := by
  rw [spec_ReadSub.j0, if_pos rfl]
theorem j0_big {l : List Int} {own n : Nat} (k : Nat) (hl : l.length ≤ 100000000) (h1 : 1 ≤ n) (h2 : l.length < own + n) (h3 : own ≤ 5) : spec_ReadSub.j0 (k + 1) l (own : Int) (n : Int) = some (0, [], [], 0, 1) := by
  have w1 : wrap64 ((l.length : Int) - (own : Int)) = (l.length : Int) - (own : Int) := wrap64_id (by omega) (by omega)
  rw [spec_ReadSub.j0, if_neg (by omega), w1, if_pos (by omega)]
theorem j0_ok {l : List Int} {own n : Nat} (k : Nat) (hl : l.length ≤ 100000000) (hb : Bytes l) (h1 : 1 ≤ n) (h2 : own + n ≤ l.length) (h3 : own ≤ 5) : spec_ReadSub.j0 (k + 1) l (own : Int) (n : Int) = some (l.getD own 0, l.take own, (l.take (own + n)).drop (own + 1), ((own + n : Nat) : Int), 0) := by
  have w1 : wrap64 ((l.length : Int) - (own : Int)) = (l.length : Int) - (own : Int) := wrap64_id (by omega) (by omega)
  have w2 : wrap64 ((own : Int) + 1) = ((own + 1 : Nat) : Int) := by rw [wrap64_id (by omega) (by omega)]; rfl
  have w3 : wrap64 ((own : Int) + (n : Int)) = ((own + n : Nat) : Int) := by rw [wrap64_id (by omega) (by omega), Int.natCast_add]
  have q := hb own
  have w4 : wrap64 (rd l (own : Int)) = l.getD own 0 := by
    have e : rd l (own : Int) = l.getD own 0 := by show l.getD (own : Int).toNat 0 = _; rw [Int.toNat_natCast]
    rw [e, wrap64_id (by omega) (by omega)]
  have l1 : (l.take own).length ≤ 5 := by rw [List.length_take]; omega
  have l2 : ((l.take (own + n)).drop (own + 1)).length ≤ 100000000 := by rw [List.length_drop, List.length_take]; omega
  rw [spec_ReadSub.j0, if_neg (by omega), w1, if_neg (by omega), if_pos (by omega), if_pos (by omega)]
  simp only [Option.bind_some, w2, w3, w4, Int.toNat_natCast]
  rw [if_pos (by omega), if_pos (by rw [List.length_nil]; omega), if_pos (by omega), if_pos (by omega), if_pos (by omega), if_pos (by rw [List.length_nil]; omega), List.nil_append, List.nil_append]
theorem f_one {a : Int} {t : List Int} (k : Nat) (h0 : 0 ≤ a) (h1 : a < 192) : spec_ReadSub.f k (a :: t) = spec_ReadSub.j0 k (a :: t) 1 a := by
  have r0 : rd (a :: t) 0 = a := rfl
  have w0 : wrap64 a = a := wrap64_id (by omega) (by omega)
  have ln : ((a :: t).length : Int) = (t.length : Int) + 1 := by simp
  rw [spec_ReadSub.f, ln, if_neg (by omega), if_pos (by omega), r0, w0, if_neg (by omega), if_neg (by omega)]
theorem f_two_cut {a : Int} (k : Nat) (h0 : 192 ≤ a) (h1 : a < 255) : spec_ReadSub.f k [a] = some (0, [], [], 0, 1) := by
  have r0 : rd [a] 0 = a := rfl
  have w0 : wrap64 a = a := wrap64_id (by omega) (by omega)
  have ln : ([a].length : Int) = 1 := rfl
  rw [spec_ReadSub.f, ln, if_neg (by omega), if_pos (by omega), r0, w0, if_neg (by omega), if_pos (by omega), if_pos (by omega)]
theorem f_two {a b : Int} {t : List Int} (k : Nat) (h0 : 192 ≤ a) (h1 : a < 255) (b0 : 0 ≤ b) (b1 : b ≤ 255) : spec_ReadSub.f k (a :: b :: t) = spec_ReadSub.j0 k (a :: b :: t) 2 ((a - 192) * 256 + b + 192) := by
  have r0 : rd (a :: b :: t) 0 = a := rfl
  have r1 : rd (a :: b :: t) 1 = b := rfl
  have w0 : wrap64 a = a := wrap64_id (by omega) (by omega)
  have w1 : wrap64 b = b := wrap64_id (by omega) (by omega)
  have w2 : wrap64 (a - 192) = a - 192 := wrap64_id (by omega) (by omega)
  have w3 : wrap64 ((a - 192) * 256) = (a - 192) * 256 := wrap64_id (by omega) (by omega)
  have w4 : wrap64 ((a - 192) * 256 + b) = (a - 192) * 256 + b := wrap64_id (by omega) (by omega)
  have w5 : wrap64 ((a - 192) * 256 + b + 192) = (a - 192) * 256 + b + 192 := wrap64_id (by omega) (by omega)
  have ln : ((a :: b :: t).length : Int) = (t.length : Int) + 2 := by simp; omega
  rw [spec_ReadSub.f, ln, if_neg (by omega), if_pos (by omega), r0, r1, w0, w1, w2, w3, w4, w5, if_neg (by omega), if_pos (by omega), if_neg (by omega), if_pos (by omega)]
theorem f_five_cut {t : List Int} (k : Nat) (h : t.length < 4) : spec_ReadSub.f k (255 :: t) = some (0, [], [], 0, 1) := by
  have r0 : rd (255 :: t) 0 = 255 := rfl
  have w0 : wrap64 255 = 255 := wrap64_id (by omega) (by omega)
  have ln : (((255 : Int) :: t).length : Int) = (t.length : Int) + 1 := by simp
  rw [spec_ReadSub.f, ln, if_neg (by omega), if_pos (by omega), r0, w0, if_pos rfl, if_pos (by omega)]
theorem f_five {b d e f : Int} {t : List Int} (k : Nat) (hk : 6 ≤ k) (h0 : 0 ≤ b) (h0' : b ≤ 255) (h1 : 0 ≤ d) (h1' : d ≤ 255) (h2 : 0 ≤ e) (h2' : e ≤ 255) (h3 : 0 ≤ f) (h3' : f ≤ 255) : spec_ReadSub.f k (255 :: b :: d :: e :: f :: t) = spec_ReadSub.j0 k (255 :: b :: d :: e :: f :: t) 5 (b * 16777216 + d * 65536 + e * 256 + f) := by
  have r0 : rd (255 :: b :: d :: e :: f :: t) 0 = 255 := rfl
  have w0 : wrap64 255 = 255 := wrap64_id (by omega) (by omega)
  have ln : (((255 : Int) :: b :: d :: e :: f :: t).length : Int) = (t.length : Int) + 5 := by simp; omega
  have nm : spec_Number.f k (((255 :: b :: d :: e :: f :: t).take 5).drop 1) = some (b * 16777216 + d * 65536 + e * 256 + f) := num_up (number4 h0 h0' h1 h1' h2 h2' h3 h3') hk
  rw [spec_ReadSub.f, ln, if_neg (by omega), if_pos (by omega), r0, w0, if_pos rfl, if_neg (by omega), if_pos (by omega), if_pos (by omega), nm, Option.bind_some]
theorem rs_some {l r : List Int} {s : Int × List Int × List Int} (hb : Bytes l) (hl : l.length ≤ 100000000) (h : subOne l = some (s, r)) (k : Nat) (hk : 6 ≤ k) : spec_ReadSub.f k l = some (s.1, s.2.1, s.2.2, ((l.length - r.length : Nat) : Int), 0) := by
  obtain ⟨k, rfl⟩ : ∃ j, k = j + 1 := ⟨k - 1, by omega⟩
  match l with
  | [] => cases h
  | a :: t =>
    have ha := by_head hb
    have hbt := by_tail hb
    simp only [subOne] at h
    split at h
    · rename_i a2
      match t with
      | [] => cases h
      | b :: t =>
        simp only at h
        split at h
        · rename_i q
          injection h with h; injection h with h1 h2; subst h1 h2
          obtain ⟨n, rfl⟩ := Int.eq_ofNat_of_zero_le ha.1
          rw [Int.toNat_natCast] at q ⊢
          obtain ⟨m, rfl⟩ : ∃ m, n = m + 1 := ⟨n - 1, by omega⟩
          rw [f_one _ ha.1 a2]
          have J := j0_ok (l := ((m + 1 : Nat) : Int) :: b :: t) (own := 1) (n := m + 1) k hl hb (by omega) (by rw [List.length_cons, List.length_cons]; omega) (by omega)
          refine J.trans ?_
          rw [show 1 + (m + 1) = m + 2 by omega, show m + 1 - 1 = m by omega]
          simp
          omega
        · cases h
    · rename_i a1
      split at h
      · rename_i a2
        match t with
        | [] => cases h
        | [_] => cases h
        | b :: x :: t =>
          have hb1 := by_head hbt
          simp only at h
          split at h
          · rename_i q
            injection h with h; injection h with h1 h2; subst h1 h2
            obtain ⟨n, en⟩ := Int.eq_ofNat_of_zero_le (show 0 ≤ (a - 192) * 256 + b + 192 by omega)
            rw [en, Int.toNat_natCast] at q
            rw [f_two _ (by omega) a2 hb1.1 hb1.2, en, Int.toNat_natCast]
            obtain ⟨m, rfl⟩ : ∃ m, n = m + 1 := ⟨n - 1, by omega⟩
            have J := j0_ok (l := a :: b :: x :: t) (own := 2) (n := m + 1) k hl hb (by omega) (by rw [List.length_cons, List.length_cons, List.length_cons]; omega) (by omega)
            refine J.trans ?_
            rw [show 2 + (m + 1) = m + 3 by omega, show m + 1 - 1 = m by omega]
            simp
            omega
          · cases h
      · rename_i a2
        obtain rfl : a = 255 := by omega
        match t with
        | [] => cases h
        | [_] => cases h
        | [_, _] => cases h
        | [_, _, _] => cases h
        | [_, _, _, _] => cases h
        | b :: d :: e :: f :: x :: t =>
          have hb1 := by_head hbt
          have hd1 := by_head (by_tail hbt)
          have he1 := by_head (by_tail (by_tail hbt))
          have hf1 := by_head (by_tail (by_tail (by_tail hbt)))
          simp only at h
          split at h
          · rename_i q
            injection h with h; injection h with h1 h2; subst h1 h2
            obtain ⟨n, en⟩ := Int.eq_ofNat_of_zero_le (show 0 ≤ b * 16777216 + d * 65536 + e * 256 + f by omega)
            rw [en, Int.toNat_natCast] at q
            rw [f_five _ hk hb1.1 hb1.2 hd1.1 hd1.2 he1.1 he1.2 hf1.1 hf1.2, en, Int.toNat_natCast]
            obtain ⟨m, rfl⟩ : ∃ m, n = m + 1 := ⟨n - 1, by omega⟩
            have J := j0_ok (l := 255 :: b :: d :: e :: f :: x :: t) (own := 5) (n := m + 1) k hl hb (by omega) (by simp only [List.length_cons]; omega) (by omega)
            refine J.trans ?_
            rw [show 5 + (m + 1) = m + 6 by omega, show m + 1 - 1 = m by omega]
            simp
            omega
          · cases h
theorem rs_none {l : List Int} (hb : Bytes l) (h0 : 0 < l.length) (hl : l.length ≤ 100000000) (h : subOne l = none) : ∃ e : Int, e ≠ 0 ∧ ∀ k : Nat, 6 ≤ k → spec_ReadSub.f k l = some (0, [], [], 0, e) := by
  match l with
  | [] => exact absurd h0 (Nat.lt_irrefl 0)
  | a :: t =>
    have ha := by_head hb
    have hbt := by_tail hb
    simp only [subOne] at h
    split at h
    · rename_i a2
      obtain ⟨n, rfl⟩ := Int.eq_ofNat_of_zero_le ha.1
      by_cases n0 : n = 0
      · subst n0
        exact ⟨2, by decide, fun k hk => by
          obtain ⟨k, rfl⟩ : ∃ j, k = j + 1 := ⟨k - 1, by omega⟩
          rw [f_one _ ha.1 a2]; exact j0_zero k _ _⟩
      · have big : t.length < n := by
          match t with
          | [] => show 0 < n; omega
          | b :: t =>
            simp only at h
            split at h
            · cases h
            · rename_i q
              rw [Int.toNat_natCast] at q
              rw [List.length_cons]; omega
        exact ⟨1, by decide, fun k hk => by
          obtain ⟨k, rfl⟩ : ∃ j, k = j + 1 := ⟨k - 1, by omega⟩
          rw [f_one _ ha.1 a2]; exact j0_big (l := (n : Int) :: t) (own := 1) (n := n) k hl (by omega) (by rw [List.length_cons]; omega) (by omega)⟩
    · rename_i a1
      split at h
      · rename_i a2
        match t with
        | [] => exact ⟨1, by decide, fun k hk => f_two_cut k (by omega) a2⟩
        | b :: t =>
          have hb1 := by_head hbt
          obtain ⟨n, en⟩ := Int.eq_ofNat_of_zero_le (show 0 ≤ (a - 192) * 256 + b + 192 by omega)
          have big : t.length < n := by
            match t with
            | [] => show 0 < n; omega
            | x :: t =>
              simp only at h
              split at h
              · cases h
              · rename_i q
                rw [en, Int.toNat_natCast] at q
                rw [List.length_cons]; omega
          exact ⟨1, by decide, fun k hk => by
            obtain ⟨k, rfl⟩ : ∃ j, k = j + 1 := ⟨k - 1, by omega⟩
            rw [f_two _ (by omega) a2 hb1.1 hb1.2, en]; exact j0_big (l := a :: b :: t) (own := 2) (n := n) k hl (by omega) (by rw [List.length_cons, List.length_cons]; omega) (by omega)⟩
      · rename_i a2
        obtain rfl : a = 255 := by omega
        by_cases t4 : t.length < 4
        · exact ⟨1, by decide, fun k hk => f_five_cut k t4⟩
        · match t with
          | [] => exact absurd (show ([] : List Int).length < 4 by decide) t4
          | [_] => exact absurd (by simp) t4
          | [_, _] => exact absurd (by simp) t4
          | [_, _, _] => exact absurd (by simp) t4
          | b :: d :: e :: f :: t =>
            have hb1 := by_head hbt
            have hd1 := by_head (by_tail hbt)
            have he1 := by_head (by_tail (by_tail hbt))
            have hf1 := by_head (by_tail (by_tail (by_tail hbt)))
            obtain ⟨n, en⟩ := Int.eq_ofNat_of_zero_le (show 0 ≤ b * 16777216 + d * 65536 + e * 256 + f by omega)
            by_cases n0 : n = 0
            · subst n0
              exact ⟨2, by decide, fun k hk => by
                obtain ⟨k, rfl⟩ : ∃ j, k = j + 1 := ⟨k - 1, by omega⟩
                rw [f_five _ hk hb1.1 hb1.2 hd1.1 hd1.2 he1.1 he1.2 hf1.1 hf1.2, en]; exact j0_zero k _ _⟩
            · have big : t.length < n := by
                match t with
                | [] => show 0 < n; omega
                | x :: t =>
                  simp only at h
                  split at h
                  · cases h
                  · rename_i q
                    rw [en, Int.toNat_natCast] at q
                    rw [List.length_cons]; omega
              exact ⟨1, by decide, fun k hk => by
                obtain ⟨k, rfl⟩ : ∃ j, k = j + 1 := ⟨k - 1, by omega⟩
                rw [f_five _ hk hb1.1 hb1.2 hd1.1 hd1.2 he1.1 he1.2 hf1.1 hf1.2, en]; exact j0_big (l := 255 :: b :: d :: e :: f :: t) (own := 5) (n := n) k hl (by omega) (by simp only [List.length_cons]; omega) (by omega)⟩
/-- A subpacket as spec has it. -/
def toS (s : Int × List Int × List Int) : S123 := ⟨s.1, s.2.1, s.2.2⟩
def toI (s : Int × List Int × List Int) : S50 := ⟨s.1, s.2.1, s.2.2⟩
theorem subs_l0 : ∀ (n : Nat) (l : List Int), l.length ≤ n → Bytes l → ∀ (k : Nat) (acc : List S123), n + 8 ≤ k → acc.length + l.length ≤ 100000000 →
    ((subsAll n l).2 = true → spec_Subs.l0 k l acc = some (acc ++ (subsAll n l).1.map toS, 0)) ∧ ((subsAll n l).2 = false → ∃ e : Int, e ≠ 0 ∧ spec_Subs.l0 k l acc = some ([], e)) := by
  intro n
  induction n with
  | zero =>
    intro l hn hb k acc hk ha
    obtain rfl := List.eq_nil_of_length_eq_zero (Nat.le_zero.1 hn)
    obtain ⟨k, rfl⟩ : ∃ j, k = j + 1 := ⟨k - 1, by omega⟩
    rw [subsAll_nil]
    refine ⟨fun _ => ?_, fun h => by cases h⟩
    rw [spec_Subs.l0, if_neg (by simp), List.map_nil, List.append_nil]
  | succ n ih =>
    intro l hn hb k acc hk ha
    obtain ⟨k, rfl⟩ : ∃ j, k = j + 1 := ⟨k - 1, by omega⟩
    by_cases h0 : l.length = 0
    · obtain rfl := List.eq_nil_of_length_eq_zero h0
      rw [subsAll_nil]
      refine ⟨fun _ => ?_, fun h => by cases h⟩
      rw [spec_Subs.l0, if_neg (by simp), List.map_nil, List.append_nil]
    · rcases hso : subOne l with _ | ⟨s, r⟩
      · rw [subsAll_none (by omega) hso]
        refine ⟨fun h => (by cases h), fun _ => ?_⟩
        obtain ⟨e, he, hf⟩ := rs_none hb (by omega) (by omega) hso
        refine ⟨e, he, ?_⟩
        rw [spec_Subs.l0, if_pos (by omega), hf k (by omega), Option.bind_some, if_neg he]
      · have cat := subOne_cat hso
        have lcat := congrArg List.length cat
        rw [List.length_append, List.length_cons, List.length_append] at lcat
        have erd : l.drop (l.length - r.length) = r := by
          have ez : l = (s.2.1 ++ s.1 :: s.2.2) ++ r := by rw [List.append_assoc]; exact cat
          conv => lhs; rw [ez]
          exact List.drop_left' (by simp only [List.length_append, List.length_cons]; omega)
        have hbr : Bytes r := by
          rw [← erd]; exact bytesC_drop hb _
        rw [subsAll_some hso]
        obtain ⟨i1, i2⟩ := ih r (by omega) hbr k (acc ++ [toS s]) (by omega) (by rw [List.length_append, List.length_singleton]; omega)
        have step : spec_Subs.l0 (k + 1) l acc = spec_Subs.l0 k r (acc ++ [toS s]) := by
          rw [spec_Subs.l0, if_pos (by omega), rs_some hb (by omega) hso k (by omega), Option.bind_some]
          simp only []
          rw [if_pos trivial, if_pos (by omega), if_pos (by omega), if_pos (by omega), Int.toNat_natCast, erd]
          rfl
        rw [step]
        refine ⟨fun h => ?_, fun h => i2 h⟩
        rw [i1 h, List.map_cons, List.append_assoc]
        rfl
theorem sb_l0 {l : List Int} (hl : l.length ≤ 100000000) : ∀ (k j : Nat), l.length < k + j → j ≤ l.length → spec_SameBytes.l0 k l l (l.length : Int) (j : Int) = some true := by
  intro k
  induction k with
  | zero => intro j h1 h2; omega
  | succ k ih =>
    intro j h1 h2
    by_cases h : j < l.length
    · have w : wrap64 ((j : Int) + 1) = ((j + 1 : Nat) : Int) := by rw [wrap64_id (by omega) (by omega)]; rfl
      rw [spec_SameBytes.l0, if_pos (by omega), if_pos (by omega), if_pos (by omega), if_pos (by omega), if_pos rfl, w]
      exact ih (j + 1) (by omega) (by omega)
    · rw [spec_SameBytes.l0, if_neg (by omega)]
theorem sb_f {l : List Int} (hl : l.length ≤ 100000000) {k : Nat} (hk : l.length < k) : spec_SameBytes.f k l l = some true := by
  rw [spec_SameBytes.f, if_pos rfl]
  exact sb_l0 hl k 0 (by omega) (Nat.zero_le _)
theorem ss_l0 {ss : List (Int × List Int × List Int)} (hl : ss.length ≤ 100000000) (hs : ∀ s, s ∈ ss → 0 ≤ s.1 ∧ s.1 ≤ 255 ∧ s.2.1.length ≤ 100000000 ∧ s.2.2.length ≤ 100000000) : ∀ (k j : Nat), ss.length + 100000001 < k + j → j ≤ ss.length → laws_sameSubs.l0 k (ss.map toS) (ss.map toI) (ss.length : Int) (j : Int) = some true := by
  intro k
  induction k with
  | zero => intro j h1 h2; omega
  | succ k ih =>
    intro j h1 h2
    by_cases h : j < ss.length
    · have w : wrap64 ((j : Int) + 1) = ((j + 1 : Nat) : Int) := by rw [wrap64_id (by omega) (by omega)]; rfl
      have li : ((ss.map toI).length : Int) = (ss.length : Int) := by rw [List.length_map]
      have ls : ((ss.map toS).length : Int) = (ss.length : Int) := by rw [List.length_map]
      have ei : rd_T50 (ss.map toI) (j : Int) = toI ss[j] := by
        show (ss.map toI).getD (j : Int).toNat z50 = _
        rw [Int.toNat_natCast, List.getD_eq_getElem?_getD, List.getElem?_map, List.getElem?_eq_getElem h]; rfl
      have es : rd_T123 (ss.map toS) (j : Int) = toS ss[j] := by
        show (ss.map toS).getD (j : Int).toNat z123 = _
        rw [Int.toNat_natCast, List.getD_eq_getElem?_getD, List.getElem?_map, List.getElem?_eq_getElem h]; rfl
      obtain ⟨q1, q2, q3, q4⟩ := hs ss[j] (List.getElem_mem h)
      have e0 : wrap64 (toI ss[j]).f0 = (toS ss[j]).f0 := wrap64_id (n := ss[j].1) (by omega) (by omega)
      have e1 : spec_SameBytes.f k (toI ss[j]).f1 (toS ss[j]).f1 = some true := sb_f (l := ss[j].2.1) q3 (by omega)
      have e2 : spec_SameBytes.f k (toI ss[j]).f2 (toS ss[j]).f2 = some true := sb_f (l := ss[j].2.2) q4 (by omega)
      rw [laws_sameSubs.l0, if_pos (by omega), if_pos (by omega), li, if_pos (by omega), ls, if_pos (by omega), ei, es, if_pos e0, e1, Option.bind_some, if_pos rfl, e2, Option.bind_some, if_pos rfl, w]
      exact ih (j + 1) (by omega) (by omega)
    · rw [laws_sameSubs.l0, if_neg (by omega)]
theorem ss_f {ss : List (Int × List Int × List Int)} (hl : ss.length ≤ 100000000) (hs : ∀ s, s ∈ ss → 0 ≤ s.1 ∧ s.1 ≤ 255 ∧ s.2.1.length ≤ 100000000 ∧ s.2.2.length ≤ 100000000) : laws_sameSubs.f (ss.length + 100000002) (ss.map toI) (ss.map toS) = some true := by
  rw [laws_sameSubs.f, if_pos (by rw [List.length_map, List.length_map]), List.length_map]
  exact ss_l0 hl hs _ 0 (by omega) (Nat.zero_le _)
theorem C_toI {w : World} {A : Option Addr} {n : Nat} {ss : List (Int × List Int × List Int)} (h : kS.C w A n ss) : Kd.C k50 w A n (ss.map toI) := by
  obtain ⟨h1, h2, h3⟩ := h
  refine ⟨by rw [List.length_map]; exact h1, h2, fun hp => ?_⟩
  obtain ⟨ad, e, hc⟩ := h3 hp
  refine ⟨ad, e, fun j p hj => ?_⟩
  rw [List.getElem?_map] at hj
  obtain ⟨s, es, rfl⟩ := Option.map_eq_some_iff.1 hj
  exact hc j s es
end Go.Proofs.YtfhefoaieefnkaaDoor.Rd.Psub

/- The law FnReadAttribute. -/
set_option linter.unusedVariables false
set_option linter.unusedSimpArgs false
namespace Go.Proofs.YtfhefoaieefnkaaDoor.Rd
open Go.RowKit Go.Proofs.YtfhefoaieefnkaaDoorW.PrintWords Go.Proofs.YtfhefoaieefnkaaDoorW.PrintMore Go.Proofs.YtfhefoaieefnkaaDoor.Kit Go.Proofs.YtfhefoaieefnkaaDoor.PFnReadAttribute Go.Proofs.YtfhefoaieefnkaaDoor.Rd.Psub

theorem subsAll_type (n : Nat) : ∀ (l : List Int), Bytes l → ∀ s, s ∈ (subsAll n l).1 → 0 ≤ s.1 ∧ s.1 ≤ 255 := by
  induction n with
  | zero =>
    intro l hb s h
    match l with
    | [] => cases h
    | a :: t => cases h
  | succ n ih =>
    intro l hb s h
    by_cases h0 : l.length = 0
    · obtain rfl := List.eq_nil_of_length_eq_zero h0
      cases h
    · rcases hso : subOne l with _ | ⟨s', r⟩
      · rw [subsAll_none (by omega) hso] at h; cases h
      · have cat := subOne_cat hso
        have lcat := congrArg List.length cat
        rw [List.length_append, List.length_cons, List.length_append] at lcat
        have erd : l.drop (l.length - r.length) = r := by
          have ez : l = (s'.2.1 ++ s'.1 :: s'.2.2) ++ r := by rw [List.append_assoc]; exact cat
          conv => lhs; rw [ez]
          exact List.drop_left' (by simp only [List.length_append, List.length_cons]; omega)
        rw [subsAll_some hso] at h
        rcases List.mem_cons.1 h with h | h
        · subst h
          have q := hb s.2.1.length
          rw [cat, List.getD_eq_getElem?_getD, List.getElem?_append_right (Nat.le_refl _), Nat.sub_self] at q
          exact q
        · exact ih r (by rw [← erd]; exact bytesC_drop hb _) s h
set_option maxHeartbeats 1600000 in
set_option maxRecDepth 100000 in
theorem rat_big {A : Option Addr} {c n : Nat} {w : World} (hz : 2147483647 < n) : Calls Tryd.prog 8 #[.slice A n c] w fun e w' => e = .returned (.bool true) ∧ Below w.heap.size w w' := by
  have i1 : (2147483647 : Int) < (n : Int) := by omega
  go_enter Tryd.func8, Tryd.ntmps8
  go_wp2_with fail
  go_ret
  exact ⟨rfl, Below.refl _ _⟩
set_option maxHeartbeats 1600000 in
set_option maxRecDepth 100000 in
theorem rat_mid {A : Option Addr} {c n : Nat} {w : World} (hz : ¬ 2147483647 < n) (hy : 1048576 < n) : Calls Tryd.prog 8 #[.slice A n c] w fun e w' => e = .returned (.bool true) ∧ Below w.heap.size w w' := by
  have i1 : ¬ (2147483647 : Int) < (n : Int) := by omega
  have i2 : (1048576 : Int) < (n : Int) := by omega
  go_enter Tryd.func8, Tryd.ntmps8
  go_wp2_with fail
  go_ret
  exact ⟨rfl, Below.refl _ _⟩
set_option maxHeartbeats 1600000 in
set_option maxRecDepth 100000 in
theorem law_rat (A : Option Addr) (c : Nat) (l : List Int) (w : World) (hr : C8 w A l) (hc : l.length ≤ c) (hm : l.length ≤ maxLen) (hw : ∀ x ∈ l, (Lit.int .u8 x).wf = true) {aE aU : Addr} (hE : Env w w.heap.size aE aU) :
    Calls Tryd.prog 8 #[.slice A l.length c] w fun e w' => e = .returned (.bool true) ∧ Below w.heap.size w w' := by
  by_cases hz : 2147483647 < l.length
  · exact rat_big hz
  by_cases hy : 1048576 < l.length
  · exact rat_mid hz hy
  have hb : Bytes l := bytes_of hw
  obtain ⟨n, en⟩ : ∃ n, l.length = n := ⟨_, rfl⟩
  have HA := Aside0.mk (ra_calls (n := n) hr hc en.symm hb hE (by omega))
  have SU := subs_l0 l.length l (Nat.le_refl _) hb (l.length + 8) [] (by omega) (by simp; omega)
  have few := subsAll_few l.length l (by omega)
  have HT := Aside0.mk (fun s h => And.intro (subsAll_type l.length l hb s h) (few.2 s h))
  have F1 := Aside0.mk few.1
  have SV := Aside0.mk (fun (W : World) (hB : Below w.heap.size w W) (r1 : List S123) (r2 : Int) (h : spec_Subs.f (l.length + 8) l = some (r1, r2)) => spec_Subs.calls (l.length + 8) (fun k => k < W.heap.size) A c l r1 r2 W ⟨A, c, rfl, hc, Kd.C_F (Kd.heap_int .u8) (Kd.C_below hr hB)⟩ h)
  rw [en] at SV hz hy
  have i1 : ¬ (2147483647 : Int) < (n : Int) := by omega
  have i2 : ¬ (1048576 : Int) < (n : Int) := by omega
  rw [en]
  generalize hss : (subsAll l.length l).1 = ss at HA SU HT F1
  generalize hok : (subsAll l.length l).2 = ok at HA SU
  have SU' := Aside0.mk SU
  have EN := Aside0.mk en
  clear hr hc hm hw hE hb SU few hss hok en
  go_enter Tryd.func8, Tryd.ntmps8
  go_wp2_with fail
  refine HA.out.mono ?_
  rintro en w1 ⟨v', e, rfl, he, hR, hB⟩
  obtain ⟨A1, c1, rfl, hc1, hC1⟩ := Kd.R_reads hR
  have R1 := Aside0.mk (And.intro hC1 hc1)
  have B1 := Aside0.mk hB
  clear hR hB hC1 hc1
  obtain ⟨m, em⟩ : ∃ m, ss.length = m := ⟨_, rfl⟩
  rcases he with ⟨rfl, rfl⟩ | ⟨rfl, rfl⟩
  · have fe := SU'.out.1 rfl
    rw [List.nil_append] at fe
    rw [EN.out] at fe
    have SC := Aside0.mk (SV.out w1 B1.out _ _ fe)
    rw [em]
    go_wp2_with fail
    refine SC.out.mono ?_
    rintro en w2 ⟨v2, rfl, hS, hB2⟩
    obtain ⟨A2, c2, rfl, hc2, hC2⟩ := Kd.R_reads (Kd.S_R hS)
    have CC := laws_sameSubs.calls (ss.length + 100000002) A1 c1 (ss.map toI) A2 c2 (ss.map toS) true w2 (by rw [List.length_map]; exact C_toI (Kd.C_below R1.out.1 hB2)) (by rw [List.length_map]; exact R1.out.2) hC2 hc2 (ss_f F1.out (fun s h => ⟨(HT.out s h).1.1, (HT.out s h).1.2, (HT.out s h).2.1, (HT.out s h).2.2⟩))
    rw [List.length_map, List.length_map, em] at CC
    rw [List.length_map, em]
    have C2 := Aside0.mk CC
    have B2 := Aside0.mk (below_then B1.out B1.out.size hB2)
    clear CC hS hB2 hC2 hc2 fe em
    go_wp2_with fail
    refine C2.out.mono ?_
    rintro en w3 ⟨rfl, hB3⟩
    have B3 := Aside0.mk (below_then B2.out B2.out.size hB3)
    clear hB3
    go_wp2_with fail
    go_ret
    exact ⟨rfl, B3.out⟩
  · obtain ⟨e', he', fe⟩ := SU'.out.2 rfl
    rw [EN.out] at fe
    have SC := Aside0.mk (SV.out w1 B1.out _ _ fe)
    rw [em]
    clear fe em
    go_wp2_with fail
    refine SC.out.mono ?_
    rintro en w2 ⟨v2, rfl, hS, hB2⟩
    have B2 := Aside0.mk (below_then B1.out B1.out.size hB2)
    clear hS hB2
    go_wp2_with fail
    go_ret
    exact ⟨rfl, B2.out⟩
end Go.Proofs.YtfhefoaieefnkaaDoor.Rd
