/- impl.drained with buffers of 512, impl.all, over any reader of a body. -/
import Derived.Test.YtjdnnpfhlkgooaaDoorBdy
import Derived.Test.YtjdnnpfhlkgooaaDoorOwn
set_option linter.unusedVariables false
set_option linter.unusedSimpArgs false
namespace Go.Proofs.YtjdnnpfhlkgooaaDoor.Rd
open Go.RowKit Go.Proofs.YtjdnnpfhlkgooaaDoorW.PrintWords Go.Proofs.YtjdnnpfhlkgooaaDoorW.PrintMore Go.Proofs.YtjdnnpfhlkgooaaDoor.Kit

theorem lit512 (w : World) : ∃ W, w.alloc (.cells #[.int .i64 512] 3) = W ∧ W.cell? ⟨w.heap.size, 0, none⟩ = some (.int .i64 512) ∧ Below w.heap.size w W ∧ w.heap.size < W.heap.size :=
  ⟨_, rfl, (cell_of_row _ _ 0 _ _ _ (heap_alloc_new _ _)).trans rfl, below_alloc (Below.refl _ _) _, by simp⟩
set_option maxRecDepth 100000 in
theorem width512 (w : World) : Calls Tryd.prog 38 #[.int .i64 512, .int .i64 1] w fun en w' => en = .returned (.int .i64 512) ∧ w' = w := by
  go_enter Tryd.func38, Tryd.ntmps38
  go_wp2_with fail
  go_ret
  exact ⟨rfl, rfl⟩
def sliceLen : Value → Nat
  | .slice _ n _ => n
  | _ => 0
theorem r8_sliceLen {e base : Nat} {w : World} {v : Value} {l : List Int} (h : R8 e w base v l) : sliceLen v = l.length := by
  obtain ⟨A, c, rfl, _, _⟩ := r8_reads h
  rfl
/-- What a body that is drained comes to. -/
def DrnOut (w : World) (d s b : Nat) (split : Int) (v : Value) (bd : List Int) (ok : Bool) (rest : List Int) (en : Ending) (w' : World) : Prop :=
  ∃ vo, en = .returned (.tuple #[vo, .int .i64 (if ok = true then 1 else 2)]) ∧ R8 5 w' w.heap.size vo bd ∧ (∃ ok' rest', (ok = true → ok' = true ∧ rest' = rest) ∧ Bdy w' d s b split v [] ok' rest') ∧ (ok = true → ∃ A c, Src w' d s A c rest split) ∧ Tch (fun j => j = s ∨ j = b) w w'
set_option maxHeartbeats 3200000 in
set_option maxRecDepth 100000 in
theorem drained_src {w : World} {d s b : Nat} {split : Int} {bd rest : List Int} {ok : Bool} {aE aU : Addr} (h : Bdy w d s b split (.iface 88 (.pointer (some ⟨b, 0, none⟩))) bd ok rest) (hE : Env w d aE aU) (hl : bd.length ≤ 100000000) :
    Calls Tryd.prog 64 #[(.iface 88 (.pointer (some ⟨b, 0, none⟩))), .slice none 0 0] w (DrnOut w d s b split (.iface 88 (.pointer (some ⟨b, 0, none⟩))) bd ok rest) := by
  obtain ⟨W, eW, hC, hB, hZ⟩ := lit512 w
  have HE := Aside0.mk (hE.below hB)
  have H0 := Aside0.mk (h.below hB)
  have ds := h.ds
  have db := h.db
  have sw := h.lts
  have bw := h.ltb
  have C0 := Aside0.mk hC
  have B0 := Aside0.mk hB
  clear h hE hC hB
  go_enter Tryd.func64, Tryd.ntmps64
  go_upto_region 3 with (fail)
  clear eW
  obtain ⟨z, hz⟩ : ∃ z, w.heap.size = z := ⟨_, rfl⟩
  have Z := Aside0.mk hz
  rw [hz] at C0 hZ sw bw ⊢
  clear hz
  go_wp2_with fail
  go_loopw [6, 7] (fun ov iv wr => ∃ (k i : Nat), k ≤ bd.length ∧ i ≤ k ∧ iv = .int .i64 (i : Int) ∧ Aside0 (Bdy wr d s b split (.iface 88 (.pointer (some ⟨b, 0, none⟩))) (bd.drop k) ok rest) ∧ Aside0 (R8 5 wr W.heap.size ov (bd.take k)) ∧ Aside0 (Tch (fun j => j = s ∨ j = b) W wr)) (fun ov iv _ => bd.length - sliceLen ov)
  case atStart => exact ⟨0, 0, Nat.zero_le _, Nat.le_refl _, rfl, ⟨by rw [List.drop_zero]; exact H0.out⟩, ⟨by rw [List.take_zero]; exact Kd.R_nil _ _ _ _ _⟩, ⟨Tch.refl _ _⟩⟩
  case round =>
    clear H0
    obtain ⟨k, i, hk, hik, rfl, HS, HR, HT⟩ := hrel
    have HE1 := Aside0.mk (HE.out.kept HT.out (fun j q => by rcases q with q | q <;> subst q <;> assumption))
    have cz : wr.cell? ⟨z, 0, none⟩ = some (.int .i64 512) := HT.out.cell C0.out (fun q => by rcases q with q | q <;> have q : z = _ := q <;> omega)
    have ri : (i : Int) % 1 = 0 := by omega
    have wz := HT.out.size
    go_wp2_with fail
    refine (width512 wr).mono ?_
    rintro en w0 ⟨rfl, rfl⟩
    go_wp2_with ((with_reducible refine gate_dst (N := 25) rfl ?_); refine make8 w0.heap.size (w0 := w0) rfl (N := 25) rfl 22 5 (.tmp 24) (.tmp 24) rfl 512 rfl rfl rfl Tryd.underlying22 infoB (by omega) (Below.refl _ _) (Nat.le_refl _) ?_; intro g w1 hg1 _ hg2 hRb hB1 _; have H1 := Aside0.mk (HS.out.below hB1); have E1 := Aside0.mk (HE1.out.below hB1); have R1 := Aside0.mk (Kd.R_below HR.out hB1); have RB := Aside0.mk hRb; have T1 := Aside0.mk (Tch.of_below (S := fun j => j = s ∨ j = b) hB1); have G1 := Aside0.mk hg1; clear hB1 hRb hg1 cz)
    have gs : g ≠ s := by have := G1.out; omega
    have gb : g ≠ b := by have := G1.out; omega
    have gd : d ≤ g := by have := G1.out; omega
    by_cases hne : k < bd.length
    · have DL := Aside0.mk (show 0 < (bd.drop k).length by rw [List.length_drop]; omega)
      refine (bdy_src H1.out E1.out RB.out (off := 0) (m := 512) (by omega) (by omega) (by omega) gs gd gb).mono ?_
      rintro en w2 ⟨q, ok2, rest2, q1, q2, q3, q4, q5, q6, q7, q8⟩
      rw [if_pos DL.out] at q5
      subst q5
      obtain ⟨q30, rfl, rfl⟩ := q3 DL.out
      have qI : (q : Int) ≤ 512 := by omega
      have hT8 : Tch (fun j => j = s ∨ j = b) w0 w2 := T1.out.step q8 (fun j p hj => by have := G1.out; rcases p with p | p | p; omega; exact .inl p; exact .inr p)
      have ql : ((bd.drop k).take q).length = q := by rw [List.length_take]; omega
      obtain ⟨A3, c3, e3, hc3, hC3⟩ := r8_reads q7
      injection e3 with e31 e32 e33
      subst e31
      have hC4 : C8 w2 (some ⟨g, 0, none⟩) ((bd.drop k).take q) := by
        have := Kd.C_take (m := q) hC3 (by rw [← e32]; omega)
        rw [List.take_zero, List.nil_append, List.take_append_of_le_length (by omega), List.take_of_length_le (by omega)] at this
        exact this
      have R2 := Aside0.mk (q8.r8 R1.out (fun j e p => by have h1 := Kd.R_base R1.out j e; have h2 := Kd.R_lt HR.out j e; have := G1.out; omega))
      have X2 := Aside0.mk (And.intro q6 (And.intro hC4 hT8))
      have Q2 := Aside0.mk (And.intro q30 (And.intro q2 ql))
      clear q1 q2 q3 q4 q6 q7 q8 q30 hT8 hC3 hC4 e32 e33 hc3 ql
      go_wp2_with ((with_reducible refine gate_dst (N := 36) rfl ?_); refine append8 (w0 := w2) W.heap.size rfl (.tmp 32) (.tmp 35) 22 5 rfl Tryd.underlying22 infoB _ (bd.take k) ((bd.drop k).take q) (some ⟨g, 0, none⟩) 512 rfl rfl Q2.out.2.2.symm R2.out X2.out.2.1 (Below.refl _ _) (by have := X2.out.2.2.size; omega) (by rw [List.length_take]; have := Q2.out.2.2; omega) ?_; intro v1 w3 hR3 _ hG3 _; have R3 := Aside0.mk hR3; have T3 := Aside0.mk (Tch.of_grown hG3); clear hR3 hG3)
      obtain ⟨hq6, hC4, hT8⟩ := X2.out
      obtain ⟨q30, q2, ql⟩ := Q2.out
      rw [List.drop_drop] at hq6
      rw [List.length_drop] at q2
      have hR3 := R3.out
      rw [← List.take_add] at hR3
      have own : ∀ j, Value.ownBlock _ = some j → W.heap.size ≤ j := Kd.R_base R2.out
      have hT3 : Tch (fun j => j = s ∨ j = b) W w3 := (HT.out.trans hT8).step T3.out (fun j p hj => by have := own j p; omega)
      go_roundw
      case rel => exact ⟨k + q, i + 1, by omega, by omega, by first | rfl | go_num, ⟨hq6.kept T3.out (fun j p => by have := own j p; omega)⟩, ⟨hR3⟩, ⟨hT3⟩⟩
      case measure => rw [r8_sliceLen hR3, r8_sliceLen HR.out, List.length_take, List.length_take]; omega
    · obtain rfl : k = bd.length := by omega
      have DL := Aside0.mk (show ¬ 0 < (bd.drop bd.length).length by simp)
      cases ok
      · have RC := Aside0.mk True.intro
        refine (bdy_src H1.out E1.out RB.out (off := 0) (m := 512) (by omega) (by omega) (by omega) gs gd gb).mono ?_
        rintro en w2 ⟨q, ok2, rest2, q1, q2, q3, q4, q5, q6, q7, q8⟩
        rw [if_neg DL.out] at q5
        simp only [Bool.false_eq_true, if_false, if_true] at q5
        obtain rfl : q = 0 := by have := DL.out; omega
        subst q5
        have hT8 : Tch (fun j => j = s ∨ j = b) w0 w2 := T1.out.step q8 (fun j p hj => by have := G1.out; rcases p with p | p | p; omega; exact .inl p; exact .inr p)
        have R2 := Aside0.mk (q8.r8 R1.out (fun j e p => by have h1 := Kd.R_base R1.out j e; have h2 := Kd.R_lt HR.out j e; have := G1.out; omega))
        have E2 := Aside0.mk (E1.out.kept q8 (fun j p => by rcases p with p | p | p <;> subst p <;> assumption))
        obtain ⟨A3, c3, e3, hc3, hC3⟩ := r8_reads q7
        injection e3 with e31 e32 e33
        subst e31
        have hC4 : C8 w2 (some ⟨g, 0, none⟩) [] := by
          have := Kd.C_take (m := 0) hC3 (by omega)
          rwa [List.take_zero] at this
        have C4 := Aside0.mk hC4
        have X2 := Aside0.mk (And.intro (show (false = true) → ok2 = true ∧ rest2 = rest ∧ (bd.drop bd.length = [] → ∃ A c, Src w2 d s A c rest split) from fun h => absurd h (by decide)) (And.intro q6 hT8))
        clear q1 q2 q3 q4 q6 q7 q8 hT8 hC3 hC4 e32 e33 hc3
        go_wp2_with ((with_reducible refine gate_dst (N := 36) rfl ?_); refine append8 (w0 := w2) W.heap.size rfl (.tmp 32) (.tmp 35) 22 5 rfl Tryd.underlying22 infoB _ (bd.take bd.length) [] (some ⟨g, 0, none⟩) 512 rfl rfl rfl R2.out C4.out (Below.refl _ _) (by have := X2.out.2.2.size; omega) (by rw [List.length_take, List.length_nil]; omega) ?_; intro v1 w3 hR3 _ hG3 _; have R3 := Aside0.mk hR3; have T3 := Aside0.mk (Tch.of_grown hG3); clear hR3 hG3)
        have E3 := E2.out.kept T3.out (fun j p => by have := Kd.R_base R2.out j p; omega)
        refine (end_cut E3).mono ?_
        rintro en w4 ⟨rfl, rfl⟩
        go_wp2_with fail
        go_ret2
        obtain ⟨q4, q6, hT8⟩ := X2.out
        have hR3 := R3.out
        rw [List.append_nil, List.take_length] at hR3
        rw [List.drop_zero, List.drop_length] at q6
        have own : ∀ j, Value.ownBlock _ = some j → W.heap.size ≤ j := Kd.R_base R2.out
        have hT3 : Tch (fun j => j = s ∨ j = b) W w4 := (HT.out.trans hT8).step T3.out (fun j p hj => by have := own j p; omega)
        have zl := Z.out
        exact ⟨_, rfl, Kd.R_lower hR3 (by omega), ⟨ok2, rest2, fun h => have z := q4 (by first | exact h | trivial); ⟨z.1, z.2.1⟩, q6.kept T3.out (fun j p => by have := own j p; omega)⟩, fun h => (by obtain ⟨A9, c9, h9⟩ := (q4 (by first | exact h | trivial)).2.2 (List.drop_length); exact ⟨A9, c9, h9.kept T3.out (fun j p => by have := own j p; omega)⟩), (Tch.of_below B0.out).trans hT3⟩
      · have RC := Aside0.mk True.intro
        refine (bdy_src H1.out E1.out RB.out (off := 0) (m := 512) (by omega) (by omega) (by omega) gs gd gb).mono ?_
        rintro en w2 ⟨q, ok2, rest2, q1, q2, q3, q4, q5, q6, q7, q8⟩
        rw [if_neg DL.out] at q5
        simp only [Bool.false_eq_true, if_false, if_true] at q5
        obtain rfl : q = 0 := by have := DL.out; omega
        subst q5
        have hT8 : Tch (fun j => j = s ∨ j = b) w0 w2 := T1.out.step q8 (fun j p hj => by have := G1.out; rcases p with p | p | p; omega; exact .inl p; exact .inr p)
        have R2 := Aside0.mk (q8.r8 R1.out (fun j e p => by have h1 := Kd.R_base R1.out j e; have h2 := Kd.R_lt HR.out j e; have := G1.out; omega))
        have E2 := Aside0.mk (E1.out.kept q8 (fun j p => by rcases p with p | p | p <;> subst p <;> assumption))
        obtain ⟨A3, c3, e3, hc3, hC3⟩ := r8_reads q7
        injection e3 with e31 e32 e33
        subst e31
        have hC4 : C8 w2 (some ⟨g, 0, none⟩) [] := by
          have := Kd.C_take (m := 0) hC3 (by omega)
          rwa [List.take_zero] at this
        have C4 := Aside0.mk hC4
        have X2 := Aside0.mk (And.intro (show (true = true) → ok2 = true ∧ rest2 = rest ∧ (bd.drop bd.length = [] → ∃ A c, Src w2 d s A c rest split) from fun _ => q4 (by first | rfl | trivial)) (And.intro q6 hT8))
        clear q1 q2 q3 q4 q6 q7 q8 hT8 hC3 hC4 e32 e33 hc3
        go_wp2_with ((with_reducible refine gate_dst (N := 36) rfl ?_); refine append8 (w0 := w2) W.heap.size rfl (.tmp 32) (.tmp 35) 22 5 rfl Tryd.underlying22 infoB _ (bd.take bd.length) [] (some ⟨g, 0, none⟩) 512 rfl rfl rfl R2.out C4.out (Below.refl _ _) (by have := X2.out.2.2.size; omega) (by rw [List.length_take, List.length_nil]; omega) ?_; intro v1 w3 hR3 _ hG3 _; have R3 := Aside0.mk hR3; have T3 := Aside0.mk (Tch.of_grown hG3); clear hR3 hG3)
        have E3 := E2.out.kept T3.out (fun j p => by have := Kd.R_base R2.out j p; omega)
        refine (end_eof E3).mono ?_
        rintro en w4 ⟨rfl, rfl⟩
        go_wp2_with fail
        go_ret2
        obtain ⟨q4, q6, hT8⟩ := X2.out
        have hR3 := R3.out
        rw [List.append_nil, List.take_length] at hR3
        rw [List.drop_zero, List.drop_length] at q6
        have own : ∀ j, Value.ownBlock _ = some j → W.heap.size ≤ j := Kd.R_base R2.out
        have hT3 : Tch (fun j => j = s ∨ j = b) W w4 := (HT.out.trans hT8).step T3.out (fun j p hj => by have := own j p; omega)
        have zl := Z.out
        exact ⟨_, rfl, Kd.R_lower hR3 (by omega), ⟨ok2, rest2, fun h => have z := q4 (by first | exact h | trivial); ⟨z.1, z.2.1⟩, q6.kept T3.out (fun j p => by have := own j p; omega)⟩, fun h => (by obtain ⟨A9, c9, h9⟩ := (q4 (by first | exact h | trivial)).2.2 (List.drop_length); exact ⟨A9, c9, h9.kept T3.out (fun j p => by have := own j p; omega)⟩), (Tch.of_below B0.out).trans hT3⟩
set_option maxHeartbeats 3200000 in
set_option maxRecDepth 100000 in
theorem drained_spn {w : World} {d s b : Nat} {split : Int} {bd rest : List Int} {ok : Bool} {aE aU : Addr} (h : Bdy w d s b split (.iface 157 (.pointer (some ⟨b, 0, none⟩))) bd ok rest) (hE : Env w d aE aU) (hl : bd.length ≤ 100000000) :
    Calls Tryd.prog 64 #[(.iface 157 (.pointer (some ⟨b, 0, none⟩))), .slice none 0 0] w (DrnOut w d s b split (.iface 157 (.pointer (some ⟨b, 0, none⟩))) bd ok rest) := by
  obtain ⟨W, eW, hC, hB, hZ⟩ := lit512 w
  have HE := Aside0.mk (hE.below hB)
  have H0 := Aside0.mk (h.below hB)
  have ds := h.ds
  have db := h.db
  have sw := h.lts
  have bw := h.ltb
  have C0 := Aside0.mk hC
  have B0 := Aside0.mk hB
  clear h hE hC hB
  go_enter Tryd.func64, Tryd.ntmps64
  go_upto_region 3 with (fail)
  clear eW
  obtain ⟨z, hz⟩ : ∃ z, w.heap.size = z := ⟨_, rfl⟩
  have Z := Aside0.mk hz
  rw [hz] at C0 hZ sw bw ⊢
  clear hz
  go_wp2_with fail
  go_loopw [6, 7] (fun ov iv wr => ∃ (k i : Nat), k ≤ bd.length ∧ i ≤ k ∧ iv = .int .i64 (i : Int) ∧ Aside0 (Bdy wr d s b split (.iface 157 (.pointer (some ⟨b, 0, none⟩))) (bd.drop k) ok rest) ∧ Aside0 (R8 5 wr W.heap.size ov (bd.take k)) ∧ Aside0 (Tch (fun j => j = s ∨ j = b) W wr)) (fun ov iv _ => bd.length - sliceLen ov)
  case atStart => exact ⟨0, 0, Nat.zero_le _, Nat.le_refl _, rfl, ⟨by rw [List.drop_zero]; exact H0.out⟩, ⟨by rw [List.take_zero]; exact Kd.R_nil _ _ _ _ _⟩, ⟨Tch.refl _ _⟩⟩
  case round =>
    clear H0
    obtain ⟨k, i, hk, hik, rfl, HS, HR, HT⟩ := hrel
    have HE1 := Aside0.mk (HE.out.kept HT.out (fun j q => by rcases q with q | q <;> subst q <;> assumption))
    have cz : wr.cell? ⟨z, 0, none⟩ = some (.int .i64 512) := HT.out.cell C0.out (fun q => by rcases q with q | q <;> have q : z = _ := q <;> omega)
    have ri : (i : Int) % 1 = 0 := by omega
    have wz := HT.out.size
    go_wp2_with fail
    refine (width512 wr).mono ?_
    rintro en w0 ⟨rfl, rfl⟩
    go_wp2_with ((with_reducible refine gate_dst (N := 25) rfl ?_); refine make8 w0.heap.size (w0 := w0) rfl (N := 25) rfl 22 5 (.tmp 24) (.tmp 24) rfl 512 rfl rfl rfl Tryd.underlying22 infoB (by omega) (Below.refl _ _) (Nat.le_refl _) ?_; intro g w1 hg1 _ hg2 hRb hB1 _; have H1 := Aside0.mk (HS.out.below hB1); have E1 := Aside0.mk (HE1.out.below hB1); have R1 := Aside0.mk (Kd.R_below HR.out hB1); have RB := Aside0.mk hRb; have T1 := Aside0.mk (Tch.of_below (S := fun j => j = s ∨ j = b) hB1); have G1 := Aside0.mk hg1; clear hB1 hRb hg1 cz)
    have gs : g ≠ s := by have := G1.out; omega
    have gb : g ≠ b := by have := G1.out; omega
    have gd : d ≤ g := by have := G1.out; omega
    by_cases hne : k < bd.length
    · have DL := Aside0.mk (show 0 < (bd.drop k).length by rw [List.length_drop]; omega)
      refine (bdy_spn H1.out E1.out RB.out (off := 0) (m := 512) (by omega) (by omega) (by omega) gs gd gb).mono ?_
      rintro en w2 ⟨q, ok2, rest2, q1, q2, q3, q4, q5, q6, q7, q8⟩
      rw [if_pos DL.out] at q5
      subst q5
      obtain ⟨q30, rfl, rfl⟩ := q3 DL.out
      have qI : (q : Int) ≤ 512 := by omega
      have hT8 : Tch (fun j => j = s ∨ j = b) w0 w2 := T1.out.step q8 (fun j p hj => by have := G1.out; rcases p with p | p | p; omega; exact .inl p; exact .inr p)
      have ql : ((bd.drop k).take q).length = q := by rw [List.length_take]; omega
      obtain ⟨A3, c3, e3, hc3, hC3⟩ := r8_reads q7
      injection e3 with e31 e32 e33
      subst e31
      have hC4 : C8 w2 (some ⟨g, 0, none⟩) ((bd.drop k).take q) := by
        have := Kd.C_take (m := q) hC3 (by rw [← e32]; omega)
        rw [List.take_zero, List.nil_append, List.take_append_of_le_length (by omega), List.take_of_length_le (by omega)] at this
        exact this
      have R2 := Aside0.mk (q8.r8 R1.out (fun j e p => by have h1 := Kd.R_base R1.out j e; have h2 := Kd.R_lt HR.out j e; have := G1.out; omega))
      have X2 := Aside0.mk (And.intro q6 (And.intro hC4 hT8))
      have Q2 := Aside0.mk (And.intro q30 (And.intro q2 ql))
      clear q1 q2 q3 q4 q6 q7 q8 q30 hT8 hC3 hC4 e32 e33 hc3 ql
      go_wp2_with ((with_reducible refine gate_dst (N := 36) rfl ?_); refine append8 (w0 := w2) W.heap.size rfl (.tmp 32) (.tmp 35) 22 5 rfl Tryd.underlying22 infoB _ (bd.take k) ((bd.drop k).take q) (some ⟨g, 0, none⟩) 512 rfl rfl Q2.out.2.2.symm R2.out X2.out.2.1 (Below.refl _ _) (by have := X2.out.2.2.size; omega) (by rw [List.length_take]; have := Q2.out.2.2; omega) ?_; intro v1 w3 hR3 _ hG3 _; have R3 := Aside0.mk hR3; have T3 := Aside0.mk (Tch.of_grown hG3); clear hR3 hG3)
      obtain ⟨hq6, hC4, hT8⟩ := X2.out
      obtain ⟨q30, q2, ql⟩ := Q2.out
      rw [List.drop_drop] at hq6
      rw [List.length_drop] at q2
      have hR3 := R3.out
      rw [← List.take_add] at hR3
      have own : ∀ j, Value.ownBlock _ = some j → W.heap.size ≤ j := Kd.R_base R2.out
      have hT3 : Tch (fun j => j = s ∨ j = b) W w3 := (HT.out.trans hT8).step T3.out (fun j p hj => by have := own j p; omega)
      go_roundw
      case rel => exact ⟨k + q, i + 1, by omega, by omega, by first | rfl | go_num, ⟨hq6.kept T3.out (fun j p => by have := own j p; omega)⟩, ⟨hR3⟩, ⟨hT3⟩⟩
      case measure => rw [r8_sliceLen hR3, r8_sliceLen HR.out, List.length_take, List.length_take]; omega
    · obtain rfl : k = bd.length := by omega
      have DL := Aside0.mk (show ¬ 0 < (bd.drop bd.length).length by simp)
      cases ok
      · have RC := Aside0.mk True.intro
        refine (bdy_spn H1.out E1.out RB.out (off := 0) (m := 512) (by omega) (by omega) (by omega) gs gd gb).mono ?_
        rintro en w2 ⟨q, ok2, rest2, q1, q2, q3, q4, q5, q6, q7, q8⟩
        rw [if_neg DL.out] at q5
        simp only [Bool.false_eq_true, if_false, if_true] at q5
        obtain rfl : q = 0 := by have := DL.out; omega
        subst q5
        have hT8 : Tch (fun j => j = s ∨ j = b) w0 w2 := T1.out.step q8 (fun j p hj => by have := G1.out; rcases p with p | p | p; omega; exact .inl p; exact .inr p)
        have R2 := Aside0.mk (q8.r8 R1.out (fun j e p => by have h1 := Kd.R_base R1.out j e; have h2 := Kd.R_lt HR.out j e; have := G1.out; omega))
        have E2 := Aside0.mk (E1.out.kept q8 (fun j p => by rcases p with p | p | p <;> subst p <;> assumption))
        obtain ⟨A3, c3, e3, hc3, hC3⟩ := r8_reads q7
        injection e3 with e31 e32 e33
        subst e31
        have hC4 : C8 w2 (some ⟨g, 0, none⟩) [] := by
          have := Kd.C_take (m := 0) hC3 (by omega)
          rwa [List.take_zero] at this
        have C4 := Aside0.mk hC4
        have X2 := Aside0.mk (And.intro (show (false = true) → ok2 = true ∧ rest2 = rest ∧ (bd.drop bd.length = [] → ∃ A c, Src w2 d s A c rest split) from fun h => absurd h (by decide)) (And.intro q6 hT8))
        clear q1 q2 q3 q4 q6 q7 q8 hT8 hC3 hC4 e32 e33 hc3
        go_wp2_with ((with_reducible refine gate_dst (N := 36) rfl ?_); refine append8 (w0 := w2) W.heap.size rfl (.tmp 32) (.tmp 35) 22 5 rfl Tryd.underlying22 infoB _ (bd.take bd.length) [] (some ⟨g, 0, none⟩) 512 rfl rfl rfl R2.out C4.out (Below.refl _ _) (by have := X2.out.2.2.size; omega) (by rw [List.length_take, List.length_nil]; omega) ?_; intro v1 w3 hR3 _ hG3 _; have R3 := Aside0.mk hR3; have T3 := Aside0.mk (Tch.of_grown hG3); clear hR3 hG3)
        have E3 := E2.out.kept T3.out (fun j p => by have := Kd.R_base R2.out j p; omega)
        refine (end_cut E3).mono ?_
        rintro en w4 ⟨rfl, rfl⟩
        go_wp2_with fail
        go_ret2
        obtain ⟨q4, q6, hT8⟩ := X2.out
        have hR3 := R3.out
        rw [List.append_nil, List.take_length] at hR3
        rw [List.drop_zero, List.drop_length] at q6
        have own : ∀ j, Value.ownBlock _ = some j → W.heap.size ≤ j := Kd.R_base R2.out
        have hT3 : Tch (fun j => j = s ∨ j = b) W w4 := (HT.out.trans hT8).step T3.out (fun j p hj => by have := own j p; omega)
        have zl := Z.out
        exact ⟨_, rfl, Kd.R_lower hR3 (by omega), ⟨ok2, rest2, fun h => have z := q4 (by first | exact h | trivial); ⟨z.1, z.2.1⟩, q6.kept T3.out (fun j p => by have := own j p; omega)⟩, fun h => (by obtain ⟨A9, c9, h9⟩ := (q4 (by first | exact h | trivial)).2.2 (List.drop_length); exact ⟨A9, c9, h9.kept T3.out (fun j p => by have := own j p; omega)⟩), (Tch.of_below B0.out).trans hT3⟩
      · have RC := Aside0.mk True.intro
        refine (bdy_spn H1.out E1.out RB.out (off := 0) (m := 512) (by omega) (by omega) (by omega) gs gd gb).mono ?_
        rintro en w2 ⟨q, ok2, rest2, q1, q2, q3, q4, q5, q6, q7, q8⟩
        rw [if_neg DL.out] at q5
        simp only [Bool.false_eq_true, if_false, if_true] at q5
        obtain rfl : q = 0 := by have := DL.out; omega
        subst q5
        have hT8 : Tch (fun j => j = s ∨ j = b) w0 w2 := T1.out.step q8 (fun j p hj => by have := G1.out; rcases p with p | p | p; omega; exact .inl p; exact .inr p)
        have R2 := Aside0.mk (q8.r8 R1.out (fun j e p => by have h1 := Kd.R_base R1.out j e; have h2 := Kd.R_lt HR.out j e; have := G1.out; omega))
        have E2 := Aside0.mk (E1.out.kept q8 (fun j p => by rcases p with p | p | p <;> subst p <;> assumption))
        obtain ⟨A3, c3, e3, hc3, hC3⟩ := r8_reads q7
        injection e3 with e31 e32 e33
        subst e31
        have hC4 : C8 w2 (some ⟨g, 0, none⟩) [] := by
          have := Kd.C_take (m := 0) hC3 (by omega)
          rwa [List.take_zero] at this
        have C4 := Aside0.mk hC4
        have X2 := Aside0.mk (And.intro (show (true = true) → ok2 = true ∧ rest2 = rest ∧ (bd.drop bd.length = [] → ∃ A c, Src w2 d s A c rest split) from fun _ => q4 (by first | rfl | trivial)) (And.intro q6 hT8))
        clear q1 q2 q3 q4 q6 q7 q8 hT8 hC3 hC4 e32 e33 hc3
        go_wp2_with ((with_reducible refine gate_dst (N := 36) rfl ?_); refine append8 (w0 := w2) W.heap.size rfl (.tmp 32) (.tmp 35) 22 5 rfl Tryd.underlying22 infoB _ (bd.take bd.length) [] (some ⟨g, 0, none⟩) 512 rfl rfl rfl R2.out C4.out (Below.refl _ _) (by have := X2.out.2.2.size; omega) (by rw [List.length_take, List.length_nil]; omega) ?_; intro v1 w3 hR3 _ hG3 _; have R3 := Aside0.mk hR3; have T3 := Aside0.mk (Tch.of_grown hG3); clear hR3 hG3)
        have E3 := E2.out.kept T3.out (fun j p => by have := Kd.R_base R2.out j p; omega)
        refine (end_eof E3).mono ?_
        rintro en w4 ⟨rfl, rfl⟩
        go_wp2_with fail
        go_ret2
        obtain ⟨q4, q6, hT8⟩ := X2.out
        have hR3 := R3.out
        rw [List.append_nil, List.take_length] at hR3
        rw [List.drop_zero, List.drop_length] at q6
        have own : ∀ j, Value.ownBlock _ = some j → W.heap.size ≤ j := Kd.R_base R2.out
        have hT3 : Tch (fun j => j = s ∨ j = b) W w4 := (HT.out.trans hT8).step T3.out (fun j p hj => by have := own j p; omega)
        have zl := Z.out
        exact ⟨_, rfl, Kd.R_lower hR3 (by omega), ⟨ok2, rest2, fun h => have z := q4 (by first | exact h | trivial); ⟨z.1, z.2.1⟩, q6.kept T3.out (fun j p => by have := own j p; omega)⟩, fun h => (by obtain ⟨A9, c9, h9⟩ := (q4 (by first | exact h | trivial)).2.2 (List.drop_length); exact ⟨A9, c9, h9.kept T3.out (fun j p => by have := own j p; omega)⟩), (Tch.of_below B0.out).trans hT3⟩
set_option maxHeartbeats 3200000 in
set_option maxRecDepth 100000 in
theorem drained_prt {w : World} {d s b : Nat} {split : Int} {bd rest : List Int} {ok : Bool} {aE aU : Addr} (h : Bdy w d s b split (.iface 162 (.pointer (some ⟨b, 0, none⟩))) bd ok rest) (hE : Env w d aE aU) (hl : bd.length ≤ 100000000) :
    Calls Tryd.prog 64 #[(.iface 162 (.pointer (some ⟨b, 0, none⟩))), .slice none 0 0] w (DrnOut w d s b split (.iface 162 (.pointer (some ⟨b, 0, none⟩))) bd ok rest) := by
  obtain ⟨W, eW, hC, hB, hZ⟩ := lit512 w
  have HE := Aside0.mk (hE.below hB)
  have H0 := Aside0.mk (h.below hB)
  have ds := h.ds
  have db := h.db
  have sw := h.lts
  have bw := h.ltb
  have C0 := Aside0.mk hC
  have B0 := Aside0.mk hB
  clear h hE hC hB
  go_enter Tryd.func64, Tryd.ntmps64
  go_upto_region 3 with (fail)
  clear eW
  obtain ⟨z, hz⟩ : ∃ z, w.heap.size = z := ⟨_, rfl⟩
  have Z := Aside0.mk hz
  rw [hz] at C0 hZ sw bw ⊢
  clear hz
  go_wp2_with fail
  go_loopw [6, 7] (fun ov iv wr => ∃ (k i : Nat), k ≤ bd.length ∧ i ≤ k ∧ iv = .int .i64 (i : Int) ∧ Aside0 (Bdy wr d s b split (.iface 162 (.pointer (some ⟨b, 0, none⟩))) (bd.drop k) ok rest) ∧ Aside0 (R8 5 wr W.heap.size ov (bd.take k)) ∧ Aside0 (Tch (fun j => j = s ∨ j = b) W wr)) (fun ov iv _ => bd.length - sliceLen ov)
  case atStart => exact ⟨0, 0, Nat.zero_le _, Nat.le_refl _, rfl, ⟨by rw [List.drop_zero]; exact H0.out⟩, ⟨by rw [List.take_zero]; exact Kd.R_nil _ _ _ _ _⟩, ⟨Tch.refl _ _⟩⟩
  case round =>
    clear H0
    obtain ⟨k, i, hk, hik, rfl, HS, HR, HT⟩ := hrel
    have HE1 := Aside0.mk (HE.out.kept HT.out (fun j q => by rcases q with q | q <;> subst q <;> assumption))
    have cz : wr.cell? ⟨z, 0, none⟩ = some (.int .i64 512) := HT.out.cell C0.out (fun q => by rcases q with q | q <;> have q : z = _ := q <;> omega)
    have ri : (i : Int) % 1 = 0 := by omega
    have wz := HT.out.size
    go_wp2_with fail
    refine (width512 wr).mono ?_
    rintro en w0 ⟨rfl, rfl⟩
    go_wp2_with ((with_reducible refine gate_dst (N := 25) rfl ?_); refine make8 w0.heap.size (w0 := w0) rfl (N := 25) rfl 22 5 (.tmp 24) (.tmp 24) rfl 512 rfl rfl rfl Tryd.underlying22 infoB (by omega) (Below.refl _ _) (Nat.le_refl _) ?_; intro g w1 hg1 _ hg2 hRb hB1 _; have H1 := Aside0.mk (HS.out.below hB1); have E1 := Aside0.mk (HE1.out.below hB1); have R1 := Aside0.mk (Kd.R_below HR.out hB1); have RB := Aside0.mk hRb; have T1 := Aside0.mk (Tch.of_below (S := fun j => j = s ∨ j = b) hB1); have G1 := Aside0.mk hg1; clear hB1 hRb hg1 cz)
    have gs : g ≠ s := by have := G1.out; omega
    have gb : g ≠ b := by have := G1.out; omega
    have gd : d ≤ g := by have := G1.out; omega
    by_cases hne : k < bd.length
    · have DL := Aside0.mk (show 0 < (bd.drop k).length by rw [List.length_drop]; omega)
      refine (bdy_prt H1.out E1.out RB.out (off := 0) (m := 512) (by omega) (by omega) (by omega) gs gd gb).mono ?_
      rintro en w2 ⟨q, ok2, rest2, q1, q2, q3, q4, q5, q6, q7, q8⟩
      rw [if_pos DL.out] at q5
      subst q5
      obtain ⟨q30, rfl, rfl⟩ := q3 DL.out
      have qI : (q : Int) ≤ 512 := by omega
      have hT8 : Tch (fun j => j = s ∨ j = b) w0 w2 := T1.out.step q8 (fun j p hj => by have := G1.out; rcases p with p | p | p; omega; exact .inl p; exact .inr p)
      have ql : ((bd.drop k).take q).length = q := by rw [List.length_take]; omega
      obtain ⟨A3, c3, e3, hc3, hC3⟩ := r8_reads q7
      injection e3 with e31 e32 e33
      subst e31
      have hC4 : C8 w2 (some ⟨g, 0, none⟩) ((bd.drop k).take q) := by
        have := Kd.C_take (m := q) hC3 (by rw [← e32]; omega)
        rw [List.take_zero, List.nil_append, List.take_append_of_le_length (by omega), List.take_of_length_le (by omega)] at this
        exact this
      have R2 := Aside0.mk (q8.r8 R1.out (fun j e p => by have h1 := Kd.R_base R1.out j e; have h2 := Kd.R_lt HR.out j e; have := G1.out; omega))
      have X2 := Aside0.mk (And.intro q6 (And.intro hC4 hT8))
      have Q2 := Aside0.mk (And.intro q30 (And.intro q2 ql))
      clear q1 q2 q3 q4 q6 q7 q8 q30 hT8 hC3 hC4 e32 e33 hc3 ql
      go_wp2_with ((with_reducible refine gate_dst (N := 36) rfl ?_); refine append8 (w0 := w2) W.heap.size rfl (.tmp 32) (.tmp 35) 22 5 rfl Tryd.underlying22 infoB _ (bd.take k) ((bd.drop k).take q) (some ⟨g, 0, none⟩) 512 rfl rfl Q2.out.2.2.symm R2.out X2.out.2.1 (Below.refl _ _) (by have := X2.out.2.2.size; omega) (by rw [List.length_take]; have := Q2.out.2.2; omega) ?_; intro v1 w3 hR3 _ hG3 _; have R3 := Aside0.mk hR3; have T3 := Aside0.mk (Tch.of_grown hG3); clear hR3 hG3)
      obtain ⟨hq6, hC4, hT8⟩ := X2.out
      obtain ⟨q30, q2, ql⟩ := Q2.out
      rw [List.drop_drop] at hq6
      rw [List.length_drop] at q2
      have hR3 := R3.out
      rw [← List.take_add] at hR3
      have own : ∀ j, Value.ownBlock _ = some j → W.heap.size ≤ j := Kd.R_base R2.out
      have hT3 : Tch (fun j => j = s ∨ j = b) W w3 := (HT.out.trans hT8).step T3.out (fun j p hj => by have := own j p; omega)
      go_roundw
      case rel => exact ⟨k + q, i + 1, by omega, by omega, by first | rfl | go_num, ⟨hq6.kept T3.out (fun j p => by have := own j p; omega)⟩, ⟨hR3⟩, ⟨hT3⟩⟩
      case measure => rw [r8_sliceLen hR3, r8_sliceLen HR.out, List.length_take, List.length_take]; omega
    · obtain rfl : k = bd.length := by omega
      have DL := Aside0.mk (show ¬ 0 < (bd.drop bd.length).length by simp)
      cases ok
      · have RC := Aside0.mk True.intro
        refine (bdy_prt H1.out E1.out RB.out (off := 0) (m := 512) (by omega) (by omega) (by omega) gs gd gb).mono ?_
        rintro en w2 ⟨q, ok2, rest2, q1, q2, q3, q4, q5, q6, q7, q8⟩
        rw [if_neg DL.out] at q5
        simp only [Bool.false_eq_true, if_false, if_true] at q5
        obtain rfl : q = 0 := by have := DL.out; omega
        subst q5
        have hT8 : Tch (fun j => j = s ∨ j = b) w0 w2 := T1.out.step q8 (fun j p hj => by have := G1.out; rcases p with p | p | p; omega; exact .inl p; exact .inr p)
        have R2 := Aside0.mk (q8.r8 R1.out (fun j e p => by have h1 := Kd.R_base R1.out j e; have h2 := Kd.R_lt HR.out j e; have := G1.out; omega))
        have E2 := Aside0.mk (E1.out.kept q8 (fun j p => by rcases p with p | p | p <;> subst p <;> assumption))
        obtain ⟨A3, c3, e3, hc3, hC3⟩ := r8_reads q7
        injection e3 with e31 e32 e33
        subst e31
        have hC4 : C8 w2 (some ⟨g, 0, none⟩) [] := by
          have := Kd.C_take (m := 0) hC3 (by omega)
          rwa [List.take_zero] at this
        have C4 := Aside0.mk hC4
        have X2 := Aside0.mk (And.intro (show (false = true) → ok2 = true ∧ rest2 = rest ∧ (bd.drop bd.length = [] → ∃ A c, Src w2 d s A c rest split) from fun h => absurd h (by decide)) (And.intro q6 hT8))
        clear q1 q2 q3 q4 q6 q7 q8 hT8 hC3 hC4 e32 e33 hc3
        go_wp2_with ((with_reducible refine gate_dst (N := 36) rfl ?_); refine append8 (w0 := w2) W.heap.size rfl (.tmp 32) (.tmp 35) 22 5 rfl Tryd.underlying22 infoB _ (bd.take bd.length) [] (some ⟨g, 0, none⟩) 512 rfl rfl rfl R2.out C4.out (Below.refl _ _) (by have := X2.out.2.2.size; omega) (by rw [List.length_take, List.length_nil]; omega) ?_; intro v1 w3 hR3 _ hG3 _; have R3 := Aside0.mk hR3; have T3 := Aside0.mk (Tch.of_grown hG3); clear hR3 hG3)
        have E3 := E2.out.kept T3.out (fun j p => by have := Kd.R_base R2.out j p; omega)
        refine (end_cut E3).mono ?_
        rintro en w4 ⟨rfl, rfl⟩
        go_wp2_with fail
        go_ret2
        obtain ⟨q4, q6, hT8⟩ := X2.out
        have hR3 := R3.out
        rw [List.append_nil, List.take_length] at hR3
        rw [List.drop_zero, List.drop_length] at q6
        have own : ∀ j, Value.ownBlock _ = some j → W.heap.size ≤ j := Kd.R_base R2.out
        have hT3 : Tch (fun j => j = s ∨ j = b) W w4 := (HT.out.trans hT8).step T3.out (fun j p hj => by have := own j p; omega)
        have zl := Z.out
        exact ⟨_, rfl, Kd.R_lower hR3 (by omega), ⟨ok2, rest2, fun h => have z := q4 (by first | exact h | trivial); ⟨z.1, z.2.1⟩, q6.kept T3.out (fun j p => by have := own j p; omega)⟩, fun h => (by obtain ⟨A9, c9, h9⟩ := (q4 (by first | exact h | trivial)).2.2 (List.drop_length); exact ⟨A9, c9, h9.kept T3.out (fun j p => by have := own j p; omega)⟩), (Tch.of_below B0.out).trans hT3⟩
      · have RC := Aside0.mk True.intro
        refine (bdy_prt H1.out E1.out RB.out (off := 0) (m := 512) (by omega) (by omega) (by omega) gs gd gb).mono ?_
        rintro en w2 ⟨q, ok2, rest2, q1, q2, q3, q4, q5, q6, q7, q8⟩
        rw [if_neg DL.out] at q5
        simp only [Bool.false_eq_true, if_false, if_true] at q5
        obtain rfl : q = 0 := by have := DL.out; omega
        subst q5
        have hT8 : Tch (fun j => j = s ∨ j = b) w0 w2 := T1.out.step q8 (fun j p hj => by have := G1.out; rcases p with p | p | p; omega; exact .inl p; exact .inr p)
        have R2 := Aside0.mk (q8.r8 R1.out (fun j e p => by have h1 := Kd.R_base R1.out j e; have h2 := Kd.R_lt HR.out j e; have := G1.out; omega))
        have E2 := Aside0.mk (E1.out.kept q8 (fun j p => by rcases p with p | p | p <;> subst p <;> assumption))
        obtain ⟨A3, c3, e3, hc3, hC3⟩ := r8_reads q7
        injection e3 with e31 e32 e33
        subst e31
        have hC4 : C8 w2 (some ⟨g, 0, none⟩) [] := by
          have := Kd.C_take (m := 0) hC3 (by omega)
          rwa [List.take_zero] at this
        have C4 := Aside0.mk hC4
        have X2 := Aside0.mk (And.intro (show (true = true) → ok2 = true ∧ rest2 = rest ∧ (bd.drop bd.length = [] → ∃ A c, Src w2 d s A c rest split) from fun _ => q4 (by first | rfl | trivial)) (And.intro q6 hT8))
        clear q1 q2 q3 q4 q6 q7 q8 hT8 hC3 hC4 e32 e33 hc3
        go_wp2_with ((with_reducible refine gate_dst (N := 36) rfl ?_); refine append8 (w0 := w2) W.heap.size rfl (.tmp 32) (.tmp 35) 22 5 rfl Tryd.underlying22 infoB _ (bd.take bd.length) [] (some ⟨g, 0, none⟩) 512 rfl rfl rfl R2.out C4.out (Below.refl _ _) (by have := X2.out.2.2.size; omega) (by rw [List.length_take, List.length_nil]; omega) ?_; intro v1 w3 hR3 _ hG3 _; have R3 := Aside0.mk hR3; have T3 := Aside0.mk (Tch.of_grown hG3); clear hR3 hG3)
        have E3 := E2.out.kept T3.out (fun j p => by have := Kd.R_base R2.out j p; omega)
        refine (end_eof E3).mono ?_
        rintro en w4 ⟨rfl, rfl⟩
        go_wp2_with fail
        go_ret2
        obtain ⟨q4, q6, hT8⟩ := X2.out
        have hR3 := R3.out
        rw [List.append_nil, List.take_length] at hR3
        rw [List.drop_zero, List.drop_length] at q6
        have own : ∀ j, Value.ownBlock _ = some j → W.heap.size ≤ j := Kd.R_base R2.out
        have hT3 : Tch (fun j => j = s ∨ j = b) W w4 := (HT.out.trans hT8).step T3.out (fun j p hj => by have := own j p; omega)
        have zl := Z.out
        exact ⟨_, rfl, Kd.R_lower hR3 (by omega), ⟨ok2, rest2, fun h => have z := q4 (by first | exact h | trivial); ⟨z.1, z.2.1⟩, q6.kept T3.out (fun j p => by have := own j p; omega)⟩, fun h => (by obtain ⟨A9, c9, h9⟩ := (q4 (by first | exact h | trivial)).2.2 (List.drop_length); exact ⟨A9, c9, h9.kept T3.out (fun j p => by have := own j p; omega)⟩), (Tch.of_below B0.out).trans hT3⟩
theorem drained_calls {w : World} {d s b : Nat} {split : Int} {v : Value} {bd rest : List Int} {ok : Bool} {aE aU : Addr} (h : Bdy w d s b split v bd ok rest) (hE : Env w d aE aU) (hl : bd.length ≤ 100000000) : Calls Tryd.prog 64 #[v, .slice none 0 0] w (DrnOut w d s b split v bd ok rest) := by
  have h2 := h
  rcases h2 with ⟨rfl, rfl, _⟩ | ⟨rfl, _⟩ | ⟨rfl, _⟩
  · exact drained_src h hE hl
  · exact drained_spn h hE hl
  · exact drained_prt h hE hl
def AllOut (w : World) (d s b : Nat) (split : Int) (v : Value) (bd : List Int) (ok : Bool) (rest : List Int) (en : Ending) (w' : World) : Prop :=
  ∃ vo, en = .returned (.tuple #[vo, .int .i64 (if ok = true then 0 else 2)]) ∧ R8 5 w' w.heap.size vo bd ∧ (∃ ok' rest', (ok = true → ok' = true ∧ rest' = rest) ∧ Bdy w' d s b split v [] ok' rest') ∧ (ok = true → ∃ A c, Src w' d s A c rest split) ∧ Tch (fun j => j = s ∨ j = b) w w'
set_option maxRecDepth 100000 in
theorem all_calls {w : World} {d s b : Nat} {split : Int} {v : Value} {bd rest : List Int} {ok : Bool} {aE aU : Addr} (h : Bdy w d s b split v bd ok rest) (hE : Env w d aE aU) (hl : bd.length ≤ 100000000) : Calls Tryd.prog 48 #[v] w (AllOut w d s b split v bd ok rest) := by
  have H := Aside0.mk (drained_calls h hE hl)
  clear h hE
  go_enter Tryd.func48, Tryd.ntmps48
  go_wp2_with fail
  refine H.out.mono ?_
  rintro en w1 ⟨vo, rfl, hX⟩
  have X := Aside0.mk hX
  clear hX
  cases ok
  all_goals
    simp only [Bool.false_eq_true, if_false, if_true]
    go_wp2_with fail
    go_ret2
    exact ⟨vo, rfl, by simpa using X.out⟩
end Go.Proofs.YtjdnnpfhlkgooaaDoor.Rd
