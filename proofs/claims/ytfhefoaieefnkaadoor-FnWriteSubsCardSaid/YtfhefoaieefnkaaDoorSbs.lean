/- impl.subs: subpackets as data. -/
import Derived.Test.YtfhefoaieefnkaaDoorOsp
import Derived.Great.BuildSlice
set_option linter.unusedVariables false
set_option linter.unusedSimpArgs false
namespace Go.Proofs.YtfhefoaieefnkaaDoor.Rd
open Go.RowKit Go.Proofs.YtfhefoaieefnkaaDoorW.PrintWords Go.Proofs.YtfhefoaieefnkaaDoorW.PrintMore Go.Proofs.YtfhefoaieefnkaaDoor.Kit

/-- A subpacket as data: three in line. -/
def kS : Kd (Int × List Int × List Int) := (Kd.pair (Kd.int .u8) (Kd.pair (Kd.slice 5 (Kd.int .u8)) (Kd.slice 5 (Kd.int .u8))))
theorem infoS3 : (Tryd.prog.info? 50).map (fun i => (i.zero, i.size, i.bytes)) = some (some (.agg #[.int .u8 0, .slice none 0 0, .slice none 0 0]), 3, 56) := by kernel_rfl
set_option maxHeartbeats 1600000 in
set_option maxRecDepth 100000 in
theorem sbs_calls {Q : World → Prop} {w : World} {base0 : Nat} {v : Value} {ss : List (Int × List Int × List Int)} (h : Subs Q w base0 v ss) (hB0 : Q w) (hl : ss.length ≤ 100000000) (hlen : ∀ s, s ∈ ss → s.2.1.length ≤ 100000000 ∧ s.2.2.length ≤ 100000000) :
    Calls Tryd.prog 58 #[v] w fun en w' => ∃ v', en = .returned v' ∧ kS.R 50 w' w.heap.size (fun _ => True) v' ss ∧ Below w.heap.size w w' := by
  obtain ⟨bs, hR, hbl, hbs⟩ := h
  obtain ⟨A, c, rfl, hcl, hC⟩ := Kd.R_reads hR
  obtain ⟨m, em⟩ : ∃ m, bs.length = m := ⟨_, rfl⟩
  rw [em] at hC hcl ⊢
  have HC := Aside0.mk hC
  have HS := Aside0.mk (show ∀ (i b : Nat) (s : Int × List Int × List Int), bs[i]? = some b → ss[i]? = some s → SbAt Q w b s.1 s.2.1 s.2.2 from fun i b s h1 h2 => (hbs i b s h1 h2).1)
  have HB := Aside0.mk hB0
  have ML := Aside0.mk (And.intro em (And.intro (show m = ss.length by omega) (And.intro hl hlen)))
  have m9 : m ≤ 9223372036854775807 := by omega
  clear hR hbl hbs hcl hC hB0 hl hlen em
  go_enter Tryd.func58, Tryd.ntmps58
  go_wp2_with fail
  go_loopw [3, 8] (fun ov iv wr => ∃ k : Nat, k ≤ m ∧ iv = .int .i64 (k : Int) ∧ Aside0 (kS.R 50 wr w.heap.size (fun _ => True) ov (ss.take k)) ∧ Aside0 (Below w.heap.size w wr)) (fun _ iv _ => m - (intOf iv).toNat)
  case atStart => exact ⟨0, Nat.zero_le _, rfl, ⟨Kd.R_nil _ _ _ _ _⟩, ⟨Below.refl _ _⟩⟩
  case round =>
    obtain ⟨k, hk, rfl, HR, HW⟩ := hrel
    by_cases hlt : k < m
    · obtain ⟨ad, cs, rfl, _, hK, hcc⟩ := Kd.C_get (Kd.C_below HC.out HW.out) 0 (k : Int) (by omega) (by omega)
      obtain ⟨b, eb⟩ : ∃ b, bs.getD k 0 = b := ⟨_, rfl⟩
      obtain ⟨⟨x, E, C⟩, es⟩ : ∃ s, ss[k]? = some s := ⟨ss[k]'(by have := ML.out.2.1; omega), List.getElem?_eq_getElem _⟩
      have eb' : bs[k]? = some b := by rw [← eb, List.getD_eq_getElem?_getD, List.getElem?_eq_getElem (by have := ML.out.1; omega)]; rfl
      have hx : wr.cell? (ad.add k) = some (.pointer (some ⟨b, 0, none⟩)) := by
        have e1 : cs = [.pointer (some ⟨bs.getD (k : Int).toNat 0, 0, none⟩)] := hK
        rw [Int.toNat_natCast, eb] at e1
        subst e1
        have q := hcc 0 _ rfl
        rw [Int.toNat_natCast, show k * kP.sz + 0 = k by show k * 1 + 0 = k; omega] at q
        exact q
      have hS := HS.out k b _ eb' es
      obtain ⟨A1, c1, A2, c2, y0, y1, l1, r1, y2, l2, r2⟩ := hS
      have lb := World.block_lt_of_cell? w _ y0
      obtain ⟨nE, eE⟩ : ∃ n, E.length = n := ⟨_, rfl⟩
      obtain ⟨nC, eC⟩ : ∃ n, C.length = n := ⟨_, rfl⟩
      have lens := ML.out.2.2.2 _ (List.mem_of_getElem? es)
      simp only [eE, eC] at y1 y2
      have Y0 : ∀ W, Below w.heap.size w W → W.cell? ⟨b, 0, none⟩ = some (.int .u8 x) := fun W hB => (hB.cell (p := ⟨b, 0, none⟩) lb).trans y0
      have Y1 : ∀ W, Below w.heap.size w W → W.cell? ⟨b, 1, none⟩ = some (.slice A1 nE c1) := fun W hB => (hB.cell (p := ⟨b, 1, none⟩) lb).trans y1
      have Y2 : ∀ W, Below w.heap.size w W → W.cell? ⟨b, 2, none⟩ = some (.slice A2 nC c2) := fun W hB => (hB.cell (p := ⟨b, 2, none⟩) lb).trans y2
      have RE := Aside0.mk (r1 w HB.out)
      have RC := Aside0.mk (r2 w HB.out)
      have LE := Aside0.mk (show nE = E.length ∧ E.length ≤ 140737488355328 from ⟨eE.symm, by have := lens.1; simp only at this; omega⟩)
      have LC := Aside0.mk (show nC = C.length ∧ C.length ≤ 140737488355328 from ⟨eC.symm, by have := lens.2; simp only at this; omega⟩)
      have ES := Aside0.mk es
      have BW := HW.out
      clear hK hcc eb eb' es y0 y1 y2 l1 l2 r1 r2 eE eC lens lb
      go_upto_region 5 with (fail)
      go_region_held3 (fun w' => Below w.heap.size w w') (first | assumption | (exact below_drew (by assumption)) | (exact Below.alloc (by assumption) (Below.size (by assumption)) _) | (focus (go_grown; done)) | go_keep) ((first | (go_at_call 57; (with_reducible refine (own_calls (Kd.C_below RE.out (by assumption)) LE.out.1 LE.out.2).mono ?_); rintro en w5 ⟨v5, rfl, hR, hB⟩; obtain ⟨A5, c5', e5, _, _⟩ := Kd.R_reads hR; rw [← LE.out.1] at e5; subst e5; have R5 := Aside0.mk (Kd.R_mono (Kd.R_lower (Kd.R_bound hR) (show w.heap.size ≤ _ from BW.size)) (ok' := fun j => wr.heap.size ≤ j) (fun j q => q.2.1)); have T5 := Aside0.mk hB; have hB0 : Below w.heap.size w w5 := below_then (by assumption) (Below.size (by assumption)) hB; clear hR hB) | (go_at_call 57; (with_reducible refine (own_calls (Kd.C_below RC.out (by assumption)) LC.out.1 LC.out.2).mono ?_); rintro en w6 ⟨v6, rfl, hR, hB⟩; obtain ⟨A6, c6', e6, _, _⟩ := Kd.R_reads hR; rw [← LC.out.1] at e6; subst e6; have R6 := Aside0.mk (Kd.R_mono (Kd.R_lower (Kd.R_bound hR) (show w.heap.size ≤ _ from Nat.le_trans BW.size T5.out.size)) (ok' := fun j => wr.heap.size ≤ j) (fun j q => Nat.le_trans T5.out.size q.2.1)); have T6 := Aside0.mk hB; have hB0 : Below w.heap.size w w6 := below_then (by assumption) (Below.size (by assumption)) hB; clear hR hB) | ((refine Kd.R_append_step kS (w0 := w) (W := w6) w.heap.size (by rfl) (.tmp 12) (.tmp 28) 45 50 (.agg #[.int .u8 0, .slice none 0 0, .slice none 0 0]) 56 rfl Tryd.underlying45 infoS3 rfl (by decide) (by decide) _ (ss.take k) (x, E, C) [.int .u8 x, .slice A5 nE c5', .slice A6 nC c6'] (fun _ => True) (fun j => wr.heap.size ≤ j) rfl rfl ?hp ?hk (fun _ _ => trivial) ?ho (by assumption) (Below.size (by assumption)) ?hl ?_; (case hp => exact ⟨[.int .u8 x], [.slice A5 nE c5', .slice A6 nC c6'], rfl, rfl, [.slice A5 nE c5'], [.slice A6 nC c6'], rfl, ⟨_, rfl, Kd.R_below R5.out T6.out⟩, ⟨_, rfl, R6.out⟩⟩); (case hk => intro j hj; exact ⟨trivial, fun e => by have := Kd.R_lt HR.out j e.symm; omega⟩); (case ho => exact Kd.R_below (Kd.R_below (Kd.R_drew HR.out) T5.out) T6.out); (case hl => have := ML.out.2.2.1; rw [List.length_take]; omega); intro v1 w1 hR hB _ _; have R9 := Aside0.mk hR; have hB0 : Below w.heap.size w w1 := hB; clear hR hB))))
      have B9 := Aside0.mk (show Below w.heap.size w w1 by assumption)
      go_wp2_with fail
      go_roundw
      case rel =>
        refine ⟨k + 1, hlt, by first | rfl | go_num, ⟨?_⟩, B9⟩
        rw [List.take_add_one, ES.out]
        exact R9.out
      case measure => simp [intOf]; omega
    · obtain rfl : k = m := by omega
      rw [List.take_of_length_le (by have := ML.out.2.1; omega)] at HR
      go_wp2_with fail
      go_ret
      exact ⟨_, rfl, HR.out, HW.out⟩
end Go.Proofs.YtfhefoaieefnkaaDoor.Rd
