/- Lemmas on the seat's program, in order (3 texts in one). -/
import Derived.Test.YtjdnnpfhlkgooaaDoorMOne1
import Derived.Test.YtjdnnpfhlkgooaaDoorRlen
/- OnePassSignature.Serialize. -/
set_option linter.unusedVariables false
set_option linter.unusedSimpArgs false
namespace Go.Proofs.YtjdnnpfhlkgooaaDoor.Rd
open Go.RowKit Go.Proofs.YtjdnnpfhlkgooaaDoorW.PrintWords Go.Proofs.YtjdnnpfhlkgooaaDoorW.PrintMore Go.Proofs.YtjdnnpfhlkgooaaDoor.Kit

theorem keepR {w w1 : World} {s g base n c : Nat} {l : List Int} (h : R8 135 w base (.slice (some ⟨g, 0, none⟩) n c) l) (hK : Keep s w w1) (hs : g ≠ s) : R8 135 w1 base (.slice (some ⟨g, 0, none⟩) n c) l := by
  obtain ⟨cells, e⟩ := Kd.R_typed h g rfl
  have e1 := hK g _ _ e (by decide) hs
  exact Kd.R_mono (Kd.R_step (Kd.R_tight rfl h) (fun k hk hlt => by
    have : k = g := by simp [Value.ownBlock] at hk; exact hk
    subst this
    rw [e, e1])) (fun _ _ => trivial)
theorem arr_c8 {w : World} {e base g n c k : Nat} {xs : List Int} (h : R8 e w base (.slice (some ⟨g, 0, none⟩) n c) xs) (hk : k ≤ n) {ys : List Int} (hy : xs.take k = ys) : C8 w (some ⟨g, 0, none⟩) ys ∧ k = ys.length := by
  have h1 := (Kd.R_reads' h).1
  have q := Kd.R_take (m := k) h (by omega)
  rw [hy] at q
  obtain ⟨a, _, b⟩ := Kd.R_reads' q
  exact ⟨b, a⟩
/-- A one-pass signature's body of the version 3; of 6. -/
def op3 (kind id algo key : Int) (last : Bool) : List Int := [3, kind, id, algo] ++ (be8 key ++ [if last = true then 1 else 0])
def op6 (kind id algo : Int) (last : Bool) (S P : List Int) : List Int := [6, kind, id, algo] ++ ((S.length : Int) :: (S ++ (P ++ [if last = true then 1 else 0])))
theorem cat6 (X S P : List Int) (h a b c d n t : Int) : ((((([] ++ (h :: X)) ++ [a, b, c, d]) ++ [n]) ++ S) ++ P) ++ [t] = h :: (X ++ ([a, b, c, d] ++ (n :: (S ++ (P ++ [t]))))) := by simp
set_option maxHeartbeats 3200000 in
set_option maxRecDepth 100000 in
theorem ser3 {base : Nat} {w : World} {s q : Nat} {kind hash algo key id : Int} {last : Bool} {As Ap : Option Addr} {ns cs np cp : Nat} (h : SnkL base w s []) (rq : w.heap[q]? = some (.cells #[.int .i64 3, .int .u8 kind, .int .u64 hash, .int .u8 algo, .int .u64 key, .bool last, .slice As ns cs, .slice Ap np cp] 107 (0, 0))) (hq : q ≠ s) (hid : ∀ W, Calls Tryd.prog 56 #[.int .u64 hash] W fun e w' => e = .returned (.tuple #[.int .u8 id, .bool true]) ∧ Below W.heap.size W w') :
    Calls Tryd.prog 40 #[.pointer (some ⟨q, 0, none⟩), (.iface 98 (.pointer (some ⟨s, 0, none⟩)))] w fun en w' => en = .returned .nilIface ∧ SnkL base w' s (tagB 4 :: (lenB 13 ++ op3 kind id algo key last)) ∧ Tch (fun j => base ≤ j) w w' := by
  have H := Aside0.mk h
  have HQ := Aside0.mk rq
  have HS := Aside0.mk hq
  have HI := Aside0.mk hid
  have x0 := (cell_of_row _ _ 0 _ _ _ rq).trans rfl
  clear h rq hq hid
  go_enter Tryd.func40, Tryd.ntmps40
  go_wp2_with fail
  refine (shk_calls H.out (by simp) 4 13 (by decide) (by decide)).mono ?_
  rintro en w1 ⟨rfl, hS, hK, hT⟩
  have SH := Aside0.mk hS
  have KH := Aside0.mk hK
  have TH := Aside0.mk hT
  clear hS hK hT
  obtain ⟨W, eW, hR0, hB0⟩ : ∃ W, w1.alloc (.cells #[.int .u8 0, .int .u8 0, .int .u8 0, .int .u8 0, .int .u8 0, .int .u8 0, .int .u8 0, .int .u8 0] 135) = W ∧ R8 135 W w1.heap.size (.slice (some ⟨w1.heap.size, 0, none⟩) 8 8) [0, 0, 0, 0, 0, 0, 0, 0] ∧ Below w1.heap.size w1 W := ⟨_, rfl, Kd.R_of_own (own_lit w1 w1.heap.size 135 .u8 [0, 0, 0, 0, 0, 0, 0, 0] (Nat.le_refl _) (by simp)) (fun _ _ => trivial), below_alloc (Below.refl _ _) _⟩
  have rq1 := KH.out q _ _ HQ.out (by decide) HS.out
  have NQ := Aside0.mk (show w1.heap.size ≠ q from by have := blk_lt rq1; omega)
  have GS := Aside0.mk (show w1.heap.size ≠ s from by obtain ⟨v, hv⟩ := SH.out; have := hv.lt; omega)
  have GB := Aside0.mk (show base ≤ w1.heap.size from by obtain ⟨v, hv⟩ := SH.out; exact Nat.le_trans hv.hs (Nat.le_of_lt hv.lt))
  have R0 := Aside0.mk hR0
  have B0 := Aside0.mk hB0
  have HQ0 := Aside0.mk ((hB0.block q (blk_lt rq1)).trans rq1)
  clear hR0 hB0 rq1 x0
  go_upto_region 8 with (fail)
  clear eW
  obtain ⟨g, eg⟩ : ∃ g, w1.heap.size = g := ⟨_, rfl⟩
  have EG := Aside0.mk eg
  rw [eg] at NQ GS GB R0 B0 ⊢
  clear eg
  have y := (cell_of_row _ _ 0 _ _ _ HQ0.out).trans rfl
  go_wp2_with (first | ((with_reducible refine gate_store (t := 5) (p := 38) rfl ?_); refine store8 g (w0 := w1) rfl rfl 5 (.tmp 38) (.tmp 37) rfl 135 g 8 8 0 _ _ rfl rfl infoB1 R0.out (by omega) B0.out ?_; intro W1 hR hB hG; have R1 := Aside0.mk hR; have B1 := Aside0.mk hB; have HQ1 := Aside0.mk ((hG.block q (blk_lt HQ0.out) (fun e => NQ.out (Option.some.inj e).symm)).trans HQ0.out); clear hR hB hG; have y := (cell_of_row _ _ 1 _ _ _ HQ1.out).trans rfl;) | ((with_reducible refine gate_store (t := 5) (p := 43) rfl ?_); refine store8 g (w0 := w1) rfl rfl 5 (.tmp 43) (.tmp 42) rfl 135 g 8 8 1 _ _ rfl rfl infoB1 R1.out (by omega) B1.out ?_; intro W2 hR hB hG; have R2 := Aside0.mk hR; have B2 := Aside0.mk hB; have HQ2 := Aside0.mk ((hG.block q (blk_lt HQ1.out) (fun e => NQ.out (Option.some.inj e).symm)).trans HQ1.out); clear hR hB hG; have y := (cell_of_row _ _ 2 _ _ _ HQ2.out).trans rfl;) | (go_at_call 56; (with_reducible refine (HI.out _).mono ?_); rintro en W3 ⟨rfl, hB⟩; have R3 := Aside0.mk (Kd.R_below R2.out hB); have B3 := Aside0.mk (below_then B2.out (Kd.R_lt R2.out _ rfl |> Nat.le_of_lt) hB); have HQ3 := Aside0.mk ((hB.block q (blk_lt HQ2.out)).trans HQ2.out); clear hB) | ((with_reducible refine gate_store (t := 5) (p := 52) rfl ?_); refine store8 g (w0 := w1) rfl rfl 5 (.tmp 52) (.tmp 50) rfl 135 g 8 8 2 _ _ rfl rfl infoB1 R3.out (by omega) B3.out ?_; intro W4 hR hB hG; have R4 := Aside0.mk hR; have B4 := Aside0.mk hB; have HQ4 := Aside0.mk ((hG.block q (blk_lt HQ3.out) (fun e => NQ.out (Option.some.inj e).symm)).trans HQ3.out); clear hR hB hG; have y := (cell_of_row _ _ 3 _ _ _ HQ4.out).trans rfl;) | ((with_reducible refine gate_store (t := 5) (p := 67) rfl ?_); refine store8 g (w0 := w1) rfl rfl 5 (.tmp 67) (.tmp 66) rfl 135 g 8 8 3 _ _ rfl rfl infoB1 R4.out (by omega) B4.out ?_; intro W5 hR hB hG; have R5 := Aside0.mk hR; have B5 := Aside0.mk hB; have HQ5 := Aside0.mk ((hG.block q (blk_lt HQ4.out) (fun e => NQ.out (Option.some.inj e).symm)).trans HQ4.out); clear hR hB hG;))
  have hc := arr_c8 (k := 4) (ys := [3, kind, id, algo]) (Kd.R_drew R5.out) (by omega) rfl
  have HC := Aside0.mk hc.1
  have HK := Aside0.mk hc.2
  have HD := Aside0.mk (SH.out.below (w1 := W5.drew) (by rw [EG.out]; exact below_drew B5.out))
  have TD := Aside0.mk (show Tch (fun j => base ≤ j) w1 W5.drew from Tch.of_below (by rw [EG.out]; exact below_drew B5.out))
  have RD := Aside0.mk (Kd.R_drew R5.out)
  have HQD := Aside0.mk (show W5.drew.heap[q]? = some (.cells #[.int .i64 3, .int .u8 kind, .int .u64 hash, .int .u8 algo, .int .u64 key, .bool last, .slice As ns cs, .slice Ap np cp] 107 (0, 0)) from HQ5.out)
  clear hc
  have ni := nil_write s
  go_wp2_with fail
  go_region_held3 (fun _ => True) (trivial) ((go_at_call 115; (with_reducible refine (w_calls HD.out HC.out HK.out (by have q := (lenB_length 13).2; simp only [List.nil_append, List.length_cons, List.length_nil, List.length_append, be8]; omega)).mono ?_); rintro en V1 ⟨rfl, hS, hK, hT⟩; have SV1 := Aside0.mk hS; have KV1 := Aside0.mk hK; have TV1 := Aside0.mk hT; clear hS hK hT))
  clear ni
  have HQV1 := Aside0.mk (KV1.out q _ _ HQD.out (by decide) HS.out)
  have RV1 := Aside0.mk (keepR RD.out KV1.out GS.out)
  have y0 := (cell_of_row _ _ 0 _ _ _ HQV1.out).trans rfl
  have y4 := (cell_of_row _ _ 4 _ _ _ HQV1.out).trans rfl
  have PC := Aside0.mk (put_calls (w := V1.drew) (k := key) (Kd.R_drew RV1.out) (Kd.R_lt RV1.out g rfl))
  go_wp2_with fail
  go_region_held3 (fun w' => w'.cell? ⟨q, 4, none⟩ = some (.int .u64 key)) (first | exact y4 | assumption | go_keep) ((go_at_call 58; (with_reducible refine PC.out.mono ?_); rintro en V2 ⟨rfl, hR, hB, hT⟩; have hT1 : Tch (fun j => j = g) V1 V2 := ((Tch.refl (fun j => j = g) V1).drew).trans hT; have hB0 := hT1.cell (p := ⟨q, 4, none⟩) y4 (fun e => NQ.out e.symm); have RV2 := Aside0.mk hR; have TV2 := Aside0.mk hT1; clear hR hB hT hT1))
  clear y0 y4
  have SV2 : Aside0 (SnkL base V2 s _) := ⟨by obtain ⟨cg, eg2⟩ := Kd.R_typed RV1.out g rfl; exact SnkL.off SV1.out eg2 (by decide) GS.out TV2.out⟩
  have HQV2 := Aside0.mk ((TV2.out.block q (blk_lt HQV1.out) (fun e => NQ.out e.symm)).trans HQV1.out)
  have hc := arr_c8 (k := 8) (ys := be8 key) (Kd.R_drew RV2.out) (by omega) rfl
  have HC := Aside0.mk hc.1
  have HK := Aside0.mk hc.2
  have HD := Aside0.mk (SV2.out.below (w1 := V2.drew) (below_drew (Below.refl _ _)))
  have HQD := Aside0.mk (show V2.drew.heap[q]? = some (.cells #[.int .i64 3, .int .u8 kind, .int .u64 hash, .int .u8 algo, .int .u64 key, .bool last, .slice As ns cs, .slice Ap np cp] 107 (0, 0)) from HQV2.out)
  clear hc
  have ni := nil_write s
  go_wp2_with fail
  go_region_held3 (fun _ => True) (trivial) ((go_at_call 115; (with_reducible refine (w_calls HD.out HC.out HK.out (by have q := (lenB_length 13).2; simp only [List.nil_append, List.length_cons, List.length_nil, List.length_append, be8]; omega)).mono ?_); rintro en V3 ⟨rfl, hS, hK, hT⟩; have SV3 := Aside0.mk hS; have KV3 := Aside0.mk hK; have TV3 := Aside0.mk hT; clear hS hK hT))
  clear ni
  have HQV3 := Aside0.mk (KV3.out q _ _ HQD.out (by decide) HS.out)
  obtain ⟨WL, eL, hRL, hBL⟩ : ∃ W, V3.alloc (.cells #[.int .u8 0] 5) = W ∧ R8 5 W V3.heap.size (.slice (some ⟨V3.heap.size, 0, none⟩) 1 1) [0] ∧ Below V3.heap.size V3 W := ⟨_, rfl, Kd.R_of_own (own_lit V3 V3.heap.size 5 .u8 [0] (Nat.le_refl _) (by simp)) (fun _ _ => trivial), below_alloc (Below.refl _ _) _⟩
  have HQL := Aside0.mk ((hBL.block q (blk_lt HQV3.out)).trans HQV3.out)
  have RL := Aside0.mk hRL
  have BL := Aside0.mk hBL
  have yl := (cell_of_row _ _ 5 _ _ _ HQL.out).trans rfl
  clear hRL hBL
  go_upto_region 33 with (fail)
  clear eL
  obtain ⟨hh, ehh⟩ : ∃ hh, V3.heap.size = hh := ⟨_, rfl⟩
  have EH := Aside0.mk ehh
  rw [ehh] at RL BL ⊢
  clear ehh
  have ni := nil_write s
  cases last
  · have HC := Aside0.mk (arr_c8 (k := 1) (ys := [0]) RL.out (by omega) rfl)
    have SD := Aside0.mk (SV3.out.below (w1 := WL) (by rw [EH.out]; exact BL.out))
    go_wp2_with (go_at_call 115; (with_reducible refine (w_calls SD.out HC.out.1 HC.out.2 (by have q := (lenB_length 13).2; simp only [List.nil_append, List.length_cons, List.length_nil, List.length_append, be8]; omega)).mono ?_); rintro en w9 ⟨rfl, hS, hK, hT⟩; have S9 := Aside0.mk hS; have T9 := Aside0.mk hT; clear hS hK hT)
    go_ret
    exact ⟨rfl, by have z := S9.out; simp only [op3, List.append_assoc, List.nil_append, List.cons_append] at z ⊢; simpa using z, (TH.out.trans (TD.out.trans (TV1.out.trans ((TV2.out.mono (fun j e => by subst e; exact GB.out)).trans ((Tch.refl (fun j => base ≤ j) V2).drew.trans TV3.out))))).trans ((Tch.of_below (by rw [EH.out]; exact BL.out)).trans T9.out)⟩
  · go_wp2_with ((with_reducible refine gate_store (t := 5) (p := 158) rfl ?_); refine store8 hh (w0 := V3) rfl rfl 5 (.tmp 158) (.const (.int .u8 1)) rfl 5 hh 1 1 0 _ _ rfl rfl infoB1 RL.out (by omega) BL.out ?_; intro WM hR hB hG; have BM := Aside0.mk hB; have HC := Aside0.mk (arr_c8 (k := 1) (ys := [1]) hR (by omega) rfl); have SD := Aside0.mk (SV3.out.below (w1 := WM) (by rw [EH.out]; exact hB)); clear hR hB hG)
    refine (w_calls SD.out HC.out.1 HC.out.2 (by have q := (lenB_length 13).2; simp only [List.nil_append, List.length_cons, List.length_nil, List.length_append, be8]; omega)).mono ?_
    rintro en w9 ⟨rfl, hS, hK, hT⟩
    have S9 := Aside0.mk hS
    have T9 := Aside0.mk hT
    clear hS hK hT
    go_wp2_with fail
    go_ret
    exact ⟨rfl, by have z := S9.out; simp only [op3, List.append_assoc, List.nil_append, List.cons_append] at z ⊢; simpa using z, (TH.out.trans (TD.out.trans (TV1.out.trans ((TV2.out.mono (fun j e => by subst e; exact GB.out)).trans ((Tch.refl (fun j => base ≤ j) V2).drew.trans TV3.out))))).trans ((Tch.of_below (by rw [EH.out]; exact BM.out)).trans T9.out)⟩
set_option maxHeartbeats 3200000 in
set_option maxRecDepth 100000 in
theorem ser6 {base : Nat} {S P : List Int} {w : World} {s q : Nat} {kind hash algo key id : Int} {last : Bool} {As Ap : Option Addr} {ns cs np cp : Nat} (h : SnkL base w s []) (rq : w.heap[q]? = some (.cells #[.int .i64 6, .int .u8 kind, .int .u64 hash, .int .u8 algo, .int .u64 key, .bool last, .slice As ns cs, .slice Ap np cp] 107 (0, 0))) (hq : q ≠ s) (hid : ∀ W, Calls Tryd.prog 56 #[.int .u64 hash] W fun e w' => e = .returned (.tuple #[.int .u8 id, .bool true]) ∧ Below W.heap.size W w') (hsp : ((∀ W, Tch (fun j => base ≤ j) w W → C8 W As S) ∧ ns = S.length) ∧ ((∀ W, Tch (fun j => base ≤ j) w W → C8 W Ap P) ∧ np = P.length) ∧ ns ≤ 255 ∧ np ≤ 1000) :
    Calls Tryd.prog 40 #[.pointer (some ⟨q, 0, none⟩), (.iface 98 (.pointer (some ⟨s, 0, none⟩)))] w fun en w' => en = .returned .nilIface ∧ SnkL base w' s (tagB 4 :: (lenB (38 + (ns : Int)) ++ op6 kind id algo last S P)) ∧ Tch (fun j => base ≤ j) w w' := by
  have H := Aside0.mk h
  have HQ := Aside0.mk rq
  have HS := Aside0.mk hq
  have HI := Aside0.mk hid
  have x0 := (cell_of_row _ _ 0 _ _ _ rq).trans rfl
  have x6 := (cell_of_row _ _ 6 _ _ _ rq).trans rfl
  have SP := Aside0.mk hsp
  have wn : IntKind.i64.wrap (38 + (ns : Int)) = 38 + (ns : Int) := IntWalk.i64_in _ (by have := hsp.2.2.1; omega)
  clear h rq hq hid hsp
  go_enter Tryd.func40, Tryd.ntmps40
  go_wp2_with fail
  refine (shk_calls H.out (by simp) 4 (38 + (ns : Int)) (by omega) (by have := SP.out.2.2.1; omega)).mono ?_
  rintro en w1 ⟨rfl, hS, hK, hT⟩
  have SH := Aside0.mk hS
  have KH := Aside0.mk hK
  have TH := Aside0.mk hT
  clear hS hK hT x6 wn
  obtain ⟨W, eW, hR0, hB0⟩ : ∃ W, w1.alloc (.cells #[.int .u8 0, .int .u8 0, .int .u8 0, .int .u8 0, .int .u8 0, .int .u8 0, .int .u8 0, .int .u8 0] 135) = W ∧ R8 135 W w1.heap.size (.slice (some ⟨w1.heap.size, 0, none⟩) 8 8) [0, 0, 0, 0, 0, 0, 0, 0] ∧ Below w1.heap.size w1 W := ⟨_, rfl, Kd.R_of_own (own_lit w1 w1.heap.size 135 .u8 [0, 0, 0, 0, 0, 0, 0, 0] (Nat.le_refl _) (by simp)) (fun _ _ => trivial), below_alloc (Below.refl _ _) _⟩
  have rq1 := KH.out q _ _ HQ.out (by decide) HS.out
  have NQ := Aside0.mk (show w1.heap.size ≠ q from by have := blk_lt rq1; omega)
  have GS := Aside0.mk (show w1.heap.size ≠ s from by obtain ⟨v, hv⟩ := SH.out; have := hv.lt; omega)
  have GB := Aside0.mk (show base ≤ w1.heap.size from by obtain ⟨v, hv⟩ := SH.out; exact Nat.le_trans hv.hs (Nat.le_of_lt hv.lt))
  have R0 := Aside0.mk hR0
  have B0 := Aside0.mk hB0
  have HQ0 := Aside0.mk ((hB0.block q (blk_lt rq1)).trans rq1)
  clear hR0 hB0 rq1 x0
  go_upto_region 8 with (fail)
  clear eW
  obtain ⟨g, eg⟩ : ∃ g, w1.heap.size = g := ⟨_, rfl⟩
  have EG := Aside0.mk eg
  rw [eg] at NQ GS GB R0 B0 ⊢
  clear eg
  have y := (cell_of_row _ _ 0 _ _ _ HQ0.out).trans rfl
  go_wp2_with (first | ((with_reducible refine gate_store (t := 5) (p := 38) rfl ?_); refine store8 g (w0 := w1) rfl rfl 5 (.tmp 38) (.tmp 37) rfl 135 g 8 8 0 _ _ rfl rfl infoB1 R0.out (by omega) B0.out ?_; intro W1 hR hB hG; have R1 := Aside0.mk hR; have B1 := Aside0.mk hB; have HQ1 := Aside0.mk ((hG.block q (blk_lt HQ0.out) (fun e => NQ.out (Option.some.inj e).symm)).trans HQ0.out); clear hR hB hG; have y := (cell_of_row _ _ 1 _ _ _ HQ1.out).trans rfl;) | ((with_reducible refine gate_store (t := 5) (p := 43) rfl ?_); refine store8 g (w0 := w1) rfl rfl 5 (.tmp 43) (.tmp 42) rfl 135 g 8 8 1 _ _ rfl rfl infoB1 R1.out (by omega) B1.out ?_; intro W2 hR hB hG; have R2 := Aside0.mk hR; have B2 := Aside0.mk hB; have HQ2 := Aside0.mk ((hG.block q (blk_lt HQ1.out) (fun e => NQ.out (Option.some.inj e).symm)).trans HQ1.out); clear hR hB hG; have y := (cell_of_row _ _ 2 _ _ _ HQ2.out).trans rfl;) | (go_at_call 56; (with_reducible refine (HI.out _).mono ?_); rintro en W3 ⟨rfl, hB⟩; have R3 := Aside0.mk (Kd.R_below R2.out hB); have B3 := Aside0.mk (below_then B2.out (Kd.R_lt R2.out _ rfl |> Nat.le_of_lt) hB); have HQ3 := Aside0.mk ((hB.block q (blk_lt HQ2.out)).trans HQ2.out); clear hB) | ((with_reducible refine gate_store (t := 5) (p := 52) rfl ?_); refine store8 g (w0 := w1) rfl rfl 5 (.tmp 52) (.tmp 50) rfl 135 g 8 8 2 _ _ rfl rfl infoB1 R3.out (by omega) B3.out ?_; intro W4 hR hB hG; have R4 := Aside0.mk hR; have B4 := Aside0.mk hB; have HQ4 := Aside0.mk ((hG.block q (blk_lt HQ3.out) (fun e => NQ.out (Option.some.inj e).symm)).trans HQ3.out); clear hR hB hG; have y := (cell_of_row _ _ 3 _ _ _ HQ4.out).trans rfl;) | ((with_reducible refine gate_store (t := 5) (p := 67) rfl ?_); refine store8 g (w0 := w1) rfl rfl 5 (.tmp 67) (.tmp 66) rfl 135 g 8 8 3 _ _ rfl rfl infoB1 R4.out (by omega) B4.out ?_; intro W5 hR hB hG; have R5 := Aside0.mk hR; have B5 := Aside0.mk hB; have HQ5 := Aside0.mk ((hG.block q (blk_lt HQ4.out) (fun e => NQ.out (Option.some.inj e).symm)).trans HQ4.out); clear hR hB hG;))
  have hc := arr_c8 (k := 4) (ys := [6, kind, id, algo]) (Kd.R_drew R5.out) (by omega) rfl
  have HC := Aside0.mk hc.1
  have HK := Aside0.mk hc.2
  have HD := Aside0.mk (SH.out.below (w1 := W5.drew) (by rw [EG.out]; exact below_drew B5.out))
  have TD := Aside0.mk (show Tch (fun j => base ≤ j) w1 W5.drew from Tch.of_below (by rw [EG.out]; exact below_drew B5.out))
  have RD := Aside0.mk (Kd.R_drew R5.out)
  have HQD := Aside0.mk (show W5.drew.heap[q]? = some (.cells #[.int .i64 6, .int .u8 kind, .int .u64 hash, .int .u8 algo, .int .u64 key, .bool last, .slice As ns cs, .slice Ap np cp] 107 (0, 0)) from HQ5.out)
  clear hc
  have ni := nil_write s
  go_wp2_with fail
  go_region_held3 (fun _ => True) (trivial) ((go_at_call 115; (with_reducible refine (w_calls HD.out HC.out HK.out (by have q := (lenB_length (38 + (ns : Int))).2; have q2 := SP.out; simp only [List.nil_append, List.length_cons, List.length_nil, List.length_append]; omega)).mono ?_); rintro en V1 ⟨rfl, hS, hK, hT⟩; have SV1 := Aside0.mk hS; have KV1 := Aside0.mk hK; have TV1 := Aside0.mk hT; clear hS hK hT))
  clear ni
  have HQV1 := Aside0.mk (KV1.out q _ _ HQD.out (by decide) HS.out)
  have RV1 := Aside0.mk (keepR RD.out KV1.out GS.out)
  have T6V1 := Aside0.mk (TH.out.trans (TD.out.trans TV1.out))
  have yv := (cell_of_row _ _ 0 _ _ _ HQV1.out).trans rfl
  have yy := (cell_of_row _ _ 6 _ _ _ HQV1.out).trans rfl
  have wns : IntKind.u8.wrap (ns : Int) = (ns : Int) := IntWalk.u8_in _ (by have := SP.out.2.2.1; omega)
  obtain ⟨WA, eA, hRA, hBA⟩ : ∃ W, V1.drew.alloc (.cells #[.int .u8 (ns : Int)] 5) = W ∧ R8 5 W V1.heap.size (.slice (some ⟨V1.heap.size, 0, none⟩) 1 1) [(ns : Int)] ∧ Below V1.heap.size V1 W := ⟨_, rfl, Kd.R_of_own (own_lit V1.drew V1.heap.size 5 .u8 [(ns : Int)] (Nat.le_refl _) (by simp)) (fun _ _ => trivial), (below_drew (Below.refl V1.heap.size V1)).alloc (Nat.le_refl _) _⟩
  have HCA := arr_c8 (k := 1) (ys := [(ns : Int)]) hRA (by omega) rfl
  have HQA := Aside0.mk ((hBA.block q (blk_lt HQV1.out)).trans HQV1.out)
  have WC := Aside0.mk (w_calls (A := some ⟨V1.heap.size, 0, none⟩) (c := 1) (m := 1) (SV1.out.below hBA) HCA.1 HCA.2 (by have q := (lenB_length (38 + (ns : Int))).2; have q2 := SP.out; simp only [List.nil_append, List.length_cons, List.length_nil, List.length_append]; omega))
  have TA := Aside0.mk (show Tch (fun j => base ≤ j) V1 WA from Tch.of_below hBA)
  have yA := (cell_of_row _ _ 6 _ _ _ HQA.out).trans rfl
  have ni := nil_write s
  clear hRA HCA hBA
  go_wp2_with fail
  go_region_held3 (fun w' => w'.cell? ⟨q, 6, none⟩ = some (.slice As ns cs)) (first | exact yy | exact yA | assumption | go_keep) ((go_at_call 115; (with_reducible refine WC.out.mono ?_); rintro en V2 ⟨rfl, hS, hK, hT⟩; have HQV2 := Aside0.mk (hK q _ _ HQA.out (by decide) HS.out); have hB0 := (cell_of_row _ _ 6 _ _ _ HQV2.out).trans rfl; have SV2 := Aside0.mk hS; have T6V2 := Aside0.mk (T6V1.out.trans (TA.out.trans hT)); clear hS hK hT))
  all_goals (
    clear yv yy wns eA yA ni hB0
    have yy := (cell_of_row _ _ 6 _ _ _ HQV2.out).trans rfl
    have HD := Aside0.mk (SV2.out.below (w1 := V2.drew) (below_drew (Below.refl _ _)))
    have HQD := Aside0.mk (show V2.drew.heap[q]? = some (.cells #[.int .i64 6, .int .u8 kind, .int .u64 hash, .int .u8 algo, .int .u64 key, .bool last, .slice As ns cs, .slice Ap np cp] 107 (0, 0)) from HQV2.out)
    have WC := Aside0.mk (w_calls (A := As) (c := cs) (m := ns) HD.out (SP.out.1.1 V2.drew ((T6V2.out).drew)) SP.out.1.2 (by have q := (lenB_length (38 + (ns : Int))).2; have q2 := SP.out; simp only [List.nil_append, List.length_cons, List.length_nil, List.length_append]; omega))
    have ni := nil_write s
    go_wp2_with fail
    go_region_held3 (fun w' => w'.cell? ⟨q, 6, none⟩ = some (.slice As ns cs)) (first | exact yy | assumption | go_keep) ((go_at_call 115; (with_reducible refine WC.out.mono ?_); rintro en V3 ⟨rfl, hS, hK, hT⟩; have HQV3 := Aside0.mk (hK q _ _ HQD.out (by decide) HS.out); have hB0 := (cell_of_row _ _ 6 _ _ _ HQV3.out).trans rfl; have SV3 := Aside0.mk hS; have T6V3 := Aside0.mk ((T6V2.out).drew.trans hT); clear hS hK hT))
    clear yy ni hB0
    have yy := (cell_of_row _ _ 7 _ _ _ HQV3.out).trans rfl
    have HD := Aside0.mk (SV3.out.below (w1 := V3.drew) (below_drew (Below.refl _ _)))
    have HQD := Aside0.mk (show V3.drew.heap[q]? = some (.cells #[.int .i64 6, .int .u8 kind, .int .u64 hash, .int .u8 algo, .int .u64 key, .bool last, .slice As ns cs, .slice Ap np cp] 107 (0, 0)) from HQV3.out)
    have WC := Aside0.mk (w_calls (A := Ap) (c := cp) (m := np) HD.out (SP.out.2.1.1 V3.drew ((T6V3.out).drew)) SP.out.2.1.2 (by have q := (lenB_length (38 + (ns : Int))).2; have q2 := SP.out; simp only [List.nil_append, List.length_cons, List.length_nil, List.length_append]; omega))
    have ni := nil_write s
    go_wp2_with fail
    go_region_held3 (fun w' => w'.cell? ⟨q, 7, none⟩ = some (.slice Ap np cp)) (first | exact yy | assumption | go_keep) ((go_at_call 115; (with_reducible refine WC.out.mono ?_); rintro en V4 ⟨rfl, hS, hK, hT⟩; have HQV4 := Aside0.mk (hK q _ _ HQD.out (by decide) HS.out); have hB0 := (cell_of_row _ _ 7 _ _ _ HQV4.out).trans rfl; have SV4 := Aside0.mk hS; have T6V4 := Aside0.mk ((T6V3.out).drew.trans hT); clear hS hK hT))
    clear yy ni hB0
    obtain ⟨WL, eL, hRL, hBL⟩ : ∃ W, V4.alloc (.cells #[.int .u8 0] 5) = W ∧ R8 5 W V4.heap.size (.slice (some ⟨V4.heap.size, 0, none⟩) 1 1) [0] ∧ Below V4.heap.size V4 W := ⟨_, rfl, Kd.R_of_own (own_lit V4 V4.heap.size 5 .u8 [0] (Nat.le_refl _) (by simp)) (fun _ _ => trivial), below_alloc (Below.refl _ _) _⟩
    have HQL := Aside0.mk ((hBL.block q (blk_lt HQV4.out)).trans HQV4.out)
    have RL := Aside0.mk hRL
    have BL := Aside0.mk hBL
    have yl := (cell_of_row _ _ 5 _ _ _ HQL.out).trans rfl
    clear hRL hBL
    go_upto_region 33 with (fail)
    clear eL
    obtain ⟨hh, ehh⟩ : ∃ hh, V4.heap.size = hh := ⟨_, rfl⟩
    have EH := Aside0.mk ehh
    rw [ehh] at RL BL ⊢
    clear ehh
    have ni := nil_write s
    cases last
    · have HC := Aside0.mk (arr_c8 (k := 1) (ys := [0]) RL.out (by omega) rfl)
      have SD := Aside0.mk (SV4.out.below (w1 := WL) (by rw [EH.out]; exact BL.out))
      go_wp2_with (go_at_call 115; (with_reducible refine (w_calls SD.out HC.out.1 HC.out.2 (by have q := (lenB_length (38 + (ns : Int))).2; have q2 := SP.out; simp only [List.nil_append, List.length_cons, List.length_nil, List.length_append]; omega)).mono ?_); rintro en w9 ⟨rfl, hS, hK, hT⟩; have S9 := Aside0.mk hS; have T9 := Aside0.mk hT; clear hS hK hT)
      go_ret
      exact ⟨rfl, by have z := S9.out; rw [cat6] at z; unfold op6; rw [← SP.out.1.2]; exact z, (T6V4.out).trans ((Tch.of_below (by rw [EH.out]; exact BL.out)).trans T9.out)⟩
    · go_wp2_with ((with_reducible refine gate_store (t := 5) (p := 158) rfl ?_); refine store8 hh (w0 := V4) rfl rfl 5 (.tmp 158) (.const (.int .u8 1)) rfl 5 hh 1 1 0 _ _ rfl rfl infoB1 RL.out (by omega) BL.out ?_; intro WM hR hB hG; have BM := Aside0.mk hB; have HC := Aside0.mk (arr_c8 (k := 1) (ys := [1]) hR (by omega) rfl); have SD := Aside0.mk (SV4.out.below (w1 := WM) (by rw [EH.out]; exact hB)); clear hR hB hG)
      refine (w_calls SD.out HC.out.1 HC.out.2 (by have q := (lenB_length (38 + (ns : Int))).2; have q2 := SP.out; simp only [List.nil_append, List.length_cons, List.length_nil, List.length_append]; omega)).mono ?_
      rintro en w9 ⟨rfl, hS, hK, hT⟩
      have S9 := Aside0.mk hS
      have T9 := Aside0.mk hT
      clear hS hK hT
      go_wp2_with fail
      go_ret
      exact ⟨rfl, by have z := S9.out; rw [cat6] at z; unfold op6; rw [← SP.out.1.2]; exact z, (T6V4.out).trans ((Tch.of_below (by rw [EH.out]; exact BM.out)).trans T9.out)⟩
  )
end Go.Proofs.YtjdnnpfhlkgooaaDoor.Rd

/- impl.WriteOnePass. -/
set_option linter.unusedVariables false
set_option linter.unusedSimpArgs false
namespace Go.Proofs.YtjdnnpfhlkgooaaDoor.Rd
open Go.RowKit Go.Proofs.YtjdnnpfhlkgooaaDoorW.PrintWords Go.Proofs.YtjdnnpfhlkgooaaDoorW.PrintMore Go.Proofs.YtjdnnpfhlkgooaaDoor.Kit Go.Proofs.YtjdnnpfhlkgooaaDoor.Hash

set_option maxHeartbeats 3200000 in
set_option maxRecDepth 100000 in
theorem wop3 {w : World} {kind hash algo key id : Int} {last : Bool} {As Ap : Option Addr} {ns cs np cp : Nat}  (hi : iOf hash true = (id, true)) (h0 : 0 ≤ hash) (h1 : hash ≤ 100) :
    Calls Tryd.prog 15 #[.agg #[.int .i64 3, .int .u8 kind, .int .i64 hash, .int .u8 algo, .int .u64 key, .bool last, .slice As ns cs, .slice Ap np cp]] w fun en w' => ∃ vv, en = .returned (.tuple #[vv, .int .i64 0]) ∧ R8 5 w' w.heap.size vv (tagB 4 :: (lenB 13 ++ op3 kind id algo key last)) ∧ Below w.heap.size w w' := by
  have wh : IntKind.u64.wrap hash = hash := IntWalk.u64_in _ (by omega)
  obtain ⟨W1, e1, r1, b1⟩ : ∃ W, w.alloc (.cells #[.int .i64 3, .int .u8 kind, .int .i64 hash, .int .u8 algo, .int .u64 key, .bool last, .slice As ns cs, .slice Ap np cp] 37) = W ∧ W.heap[w.heap.size]? = some (.cells #[.int .i64 3, .int .u8 kind, .int .i64 hash, .int .u8 algo, .int .u64 key, .bool last, .slice As ns cs, .slice Ap np cp] 37 (0, 0)) ∧ Below w.heap.size w W := ⟨_, rfl, heap_alloc_new _ _, below_alloc (Below.refl _ _) _⟩
  obtain ⟨W2, e2, hS, b2⟩ := snk_new w.heap.size W1 b1.size
  obtain ⟨W3, e3, r3, b3⟩ : ∃ W, W2.alloc (.cells #[.int .i64 3, .int .u8 kind, .int .u64 hash, .int .u8 algo, .int .u64 key, .bool last, .slice As ns cs, .slice Ap np cp] 107) = W ∧ W.heap[W2.heap.size]? = some (.cells #[.int .i64 3, .int .u8 kind, .int .u64 hash, .int .u8 algo, .int .u64 key, .bool last, .slice As ns cs, .slice Ap np cp] 107 (0, 0)) ∧ Below W2.heap.size W2 W := ⟨_, rfl, heap_alloc_new _ _, below_alloc (Below.refl _ _) _⟩
  have hq : W2.heap.size ≠ W1.heap.size := by have := hS.lt; omega
  have c12 : ∀ i u, #[.int .i64 3, .int .u8 kind, .int .i64 hash, .int .u8 algo, .int .u64 key, .bool last, .slice As ns cs, .slice Ap np cp][i]? = some u → W2.cell? ⟨w.heap.size, i, none⟩ = some u := fun i u hu => by
    have q := cell_of_row _ _ i _ _ _ r1
    rw [hu] at q
    exact (b2.cell (p := ⟨w.heap.size, i, none⟩) (blk_lt r1)).trans q
  have y0 := c12 0 _ rfl
  have y1 := c12 1 _ rfl
  have y2 := c12 2 _ rfl
  have y3 := c12 3 _ rfl
  have y4 := c12 4 _ rfl
  have y5 := c12 5 _ rfl
  have y6 := c12 6 _ rfl
  have y7 := c12 7 _ rfl
  have B3 := Aside0.mk (below_then (below_then b1 b1.size b2) (Nat.le_trans b1.size b2.size) b3)
  have BZ := Aside0.mk (show w.heap.size ≤ W3.heap.size from Nat.le_trans b1.size (Nat.le_trans b2.size b3.size))
  have SC := Aside0.mk (ser3 (base := w.heap.size) (s := W1.heap.size) (q := W2.heap.size) (w := W3) (id := id) ⟨_, hS.below b3⟩ r3 hq (fun W => by have q := iiofs hash W; rw [hi] at q; exact q))
  have HI := Aside0.mk hi
  clear hi h0 h1 c12 r1 r3 b1 b2 b3 hq hS
  go_enter Tryd.func15, Tryd.ntmps15
  go_wp2_with fail
  clear e1 e2 e3 y0 y1 y2 y3 y4 y5 y6 y7 wh
  refine SC.out.mono ?_
  rintro en w4 ⟨rfl, ⟨vv, hv⟩, hT⟩
  have f0 := hv.c0
  have HV := Aside0.mk hv
  have HT := Aside0.mk (hT.below B3.out BZ.out (fun k q => q))
  clear hv hT
  obtain ⟨s, es⟩ : ∃ s, W1.heap.size = s := ⟨_, rfl⟩
  rw [es] at f0 HV ⊢
  clear es
  have EC : Aside0 (Calls Tryd.prog 37 #[.nilIface] w4.drew fun en w' => en = .returned (.int .i64 0) ∧ w' = w4.drew) := ⟨end_nil _⟩
  go_wp2_with fail
  go_region_held3 (fun w' => w'.cell? ⟨s, 0, none⟩ = some vv) (first | exact f0 | assumption | go_keep) ((first | (go_at_call 37; (with_reducible refine EC.out.mono ?_); rintro en w5 ⟨rfl, rfl⟩; have hB0 : w4.drew.cell? ⟨s, 0, none⟩ = some vv := f0)))
  go_wp2_with fail
  go_ret2
  exact ⟨vv, rfl, Kd.R_drew HV.out.rd, below_drew HT.out⟩

end Go.Proofs.YtjdnnpfhlkgooaaDoor.Rd

/- impl.WriteOnePass, version 6. -/
set_option linter.unusedVariables false
set_option linter.unusedSimpArgs false
namespace Go.Proofs.YtjdnnpfhlkgooaaDoor.Rd
open Go.RowKit Go.Proofs.YtjdnnpfhlkgooaaDoorW.PrintWords Go.Proofs.YtjdnnpfhlkgooaaDoorW.PrintMore Go.Proofs.YtjdnnpfhlkgooaaDoor.Kit Go.Proofs.YtjdnnpfhlkgooaaDoor.Hash

set_option maxHeartbeats 3200000 in
set_option maxRecDepth 100000 in
theorem wop6 {w : World} {kind hash algo key id : Int} {last : Bool} {As Ap : Option Addr} {ns cs np cp : Nat} {S P : List Int} (hi : iOf hash true = (id, true)) (h0 : 0 ≤ hash) (h1 : hash ≤ 100) (hs : C8 w As S) (es : ns = S.length) (hp : C8 w Ap P) (ep : np = P.length) (l1 : ns ≤ 255) (l2 : np ≤ 1000) :
    Calls Tryd.prog 15 #[.agg #[.int .i64 6, .int .u8 kind, .int .i64 hash, .int .u8 algo, .int .u64 key, .bool last, .slice As ns cs, .slice Ap np cp]] w fun en w' => ∃ vv, en = .returned (.tuple #[vv, .int .i64 0]) ∧ R8 5 w' w.heap.size vv (tagB 4 :: (lenB (38 + (ns : Int)) ++ op6 kind id algo last S P)) ∧ Below w.heap.size w w' := by
  have wh : IntKind.u64.wrap hash = hash := IntWalk.u64_in _ (by omega)
  obtain ⟨W1, e1, r1, b1⟩ : ∃ W, w.alloc (.cells #[.int .i64 6, .int .u8 kind, .int .i64 hash, .int .u8 algo, .int .u64 key, .bool last, .slice As ns cs, .slice Ap np cp] 37) = W ∧ W.heap[w.heap.size]? = some (.cells #[.int .i64 6, .int .u8 kind, .int .i64 hash, .int .u8 algo, .int .u64 key, .bool last, .slice As ns cs, .slice Ap np cp] 37 (0, 0)) ∧ Below w.heap.size w W := ⟨_, rfl, heap_alloc_new _ _, below_alloc (Below.refl _ _) _⟩
  obtain ⟨W2, e2, hS, b2⟩ := snk_new w.heap.size W1 b1.size
  obtain ⟨W3, e3, r3, b3⟩ : ∃ W, W2.alloc (.cells #[.int .i64 6, .int .u8 kind, .int .u64 hash, .int .u8 algo, .int .u64 key, .bool last, .slice As ns cs, .slice Ap np cp] 107) = W ∧ W.heap[W2.heap.size]? = some (.cells #[.int .i64 6, .int .u8 kind, .int .u64 hash, .int .u8 algo, .int .u64 key, .bool last, .slice As ns cs, .slice Ap np cp] 107 (0, 0)) ∧ Below W2.heap.size W2 W := ⟨_, rfl, heap_alloc_new _ _, below_alloc (Below.refl _ _) _⟩
  have hq : W2.heap.size ≠ W1.heap.size := by have := hS.lt; omega
  have c12 : ∀ i u, #[.int .i64 6, .int .u8 kind, .int .i64 hash, .int .u8 algo, .int .u64 key, .bool last, .slice As ns cs, .slice Ap np cp][i]? = some u → W2.cell? ⟨w.heap.size, i, none⟩ = some u := fun i u hu => by
    have q := cell_of_row _ _ i _ _ _ r1
    rw [hu] at q
    exact (b2.cell (p := ⟨w.heap.size, i, none⟩) (blk_lt r1)).trans q
  have y0 := c12 0 _ rfl
  have y1 := c12 1 _ rfl
  have y2 := c12 2 _ rfl
  have y3 := c12 3 _ rfl
  have y4 := c12 4 _ rfl
  have y5 := c12 5 _ rfl
  have y6 := c12 6 _ rfl
  have y7 := c12 7 _ rfl
  have B3 := Aside0.mk (below_then (below_then b1 b1.size b2) (Nat.le_trans b1.size b2.size) b3)
  have BZ := Aside0.mk (show w.heap.size ≤ W3.heap.size from Nat.le_trans b1.size (Nat.le_trans b2.size b3.size))
  have hsp : ((∀ W, Tch (fun j => w.heap.size ≤ j) W3 W → C8 W As S) ∧ ns = S.length) ∧ ((∀ W, Tch (fun j => w.heap.size ≤ j) W3 W → C8 W Ap P) ∧ np = P.length) ∧ ns ≤ 255 ∧ np ≤ 1000 := by
    refine ⟨⟨fun W hT => ?_, es⟩, ⟨fun W hT => ?_, ep⟩, l1, l2⟩
    · exact Kd.C_below hs (hT.below B3.out BZ.out (fun k q => q))
    · exact Kd.C_below hp (hT.below B3.out BZ.out (fun k q => q))
  have SC := Aside0.mk (ser6 (base := w.heap.size) (s := W1.heap.size) (q := W2.heap.size) (w := W3) (id := id) ⟨_, hS.below b3⟩ r3 hq (fun W => by have q := iiofs hash W; rw [hi] at q; exact q) hsp)
  have HI := Aside0.mk hi
  clear hi h0 h1 c12 r1 r3 b1 b2 b3 hq hS hs es hp ep l1 l2 hsp
  go_enter Tryd.func15, Tryd.ntmps15
  go_wp2_with fail
  clear e1 e2 e3 y0 y1 y2 y3 y4 y5 y6 y7 wh
  refine SC.out.mono ?_
  rintro en w4 ⟨rfl, ⟨vv, hv⟩, hT⟩
  have f0 := hv.c0
  have HV := Aside0.mk hv
  have HT := Aside0.mk (hT.below B3.out BZ.out (fun k q => q))
  clear hv hT
  obtain ⟨s, es⟩ : ∃ s, W1.heap.size = s := ⟨_, rfl⟩
  rw [es] at f0 HV ⊢
  clear es
  have EC : Aside0 (Calls Tryd.prog 37 #[.nilIface] w4.drew fun en w' => en = .returned (.int .i64 0) ∧ w' = w4.drew) := ⟨end_nil _⟩
  go_wp2_with fail
  go_region_held3 (fun w' => w'.cell? ⟨s, 0, none⟩ = some vv) (first | exact f0 | assumption | go_keep) ((first | (go_at_call 37; (with_reducible refine EC.out.mono ?_); rintro en w5 ⟨rfl, rfl⟩; have hB0 : w4.drew.cell? ⟨s, 0, none⟩ = some vv := f0)))
  go_wp2_with fail
  go_ret2
  exact ⟨vv, rfl, Kd.R_drew HV.out.rd, below_drew HT.out⟩

end Go.Proofs.YtjdnnpfhlkgooaaDoor.Rd
