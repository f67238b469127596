/- laws.FnHeadBack. -/
import Derived.Test.YtfhefoaieefnkaaDoorRhd
import Derived.Test.YtfhefoaieefnkaaDoorHdr
import Derived.Test.YtfhefoaieefnkaaDoorSame
import Derived.Test.YtfhefoaieefnkaaDoorPFnHeadBackx1
set_option linter.unusedVariables false
set_option linter.unusedSimpArgs false
namespace Go.Proofs.YtfhefoaieefnkaaDoor.Rd
open Go.RowKit Go.Proofs.YtfhefoaieefnkaaDoorW.PrintWords Go.Proofs.YtfhefoaieefnkaaDoorW.PrintMore Go.Proofs.YtfhefoaieefnkaaDoor.Kit Go.Proofs.YtfhefoaieefnkaaDoor.PFnHeadBack

theorem rdl_lenB (n : Int) (h0 : 0 ≤ n) (h1 : n ≤ 4294967295) (m : List Int) : rdl (lenB n ++ m) = some (n, false, m) := by
  unfold lenB
  split
  · rename_i a; simp only [List.cons_append, List.nil_append, rdl, if_pos a]
  · rename_i a
    split
    · rename_i b
      have e : (192 + (n - 192) / 256 - 192) * 256 + ((n - 192) % 256 + 192) = n := by omega
      simp only [List.cons_append, List.nil_append, rdl]
      rw [if_neg (by omega), if_pos (by omega), e]
    · rename_i b
      have e : n / 16777216 * 16777216 + n / 65536 % 256 * 65536 + n / 256 % 256 * 256 + n % 256 = n := by omega
      simp only [List.cons_append, List.nil_append, rdl]
      rw [if_neg (by omega), if_neg (by omega), if_neg (by omega), e]
theorem lenB_bytes (n : Int) (h0 : 0 ≤ n) (h1 : n ≤ 4294967295) : ∀ x ∈ lenB n, 0 ≤ x ∧ x ≤ 255 := by
  intro x hx
  unfold lenB at hx
  split at hx
  · simp at hx; omega
  · split at hx
    · simp at hx; omega
    · simp at hx; omega
theorem bytes_all {l : List Int} (h : ∀ x ∈ l, 0 ≤ x ∧ x ≤ 255) : Bytes l := by
  intro i
  by_cases hi : i < l.length
  · rw [List.getD_eq_getElem?_getD, List.getElem?_eq_getElem hi]; exact h _ (List.getElem_mem hi)
  · rw [List.getD_eq_getElem?_getD, List.getElem?_eq_none (by omega)]; simp
/-- Two rows of bytes in a row. -/
theorem rows2 (w : World) {A B : Option Addr} {c d : Nat} {x y : List Int} (hx : C8 w A x) (hy : C8 w B y) (hc : x.length ≤ c) (hd : y.length ≤ d) :
    Kd.C (Kd.slice 5 (Kd.int .u8)) (w.alloc (.cells #[.slice A x.length c, .slice B y.length d] 22)) (some ⟨w.heap.size, 0, none⟩) [x, y].length [x, y] ∧ Below w.heap.size w (w.alloc (.cells #[.slice A x.length c, .slice B y.length d] 22)) := by
  have hB : Below w.heap.size w (w.alloc (.cells #[.slice A x.length c, .slice B y.length d] 22)) := below_alloc (Below.refl _ _) _
  refine ⟨⟨rfl, by simp, fun _ => ⟨_, rfl, fun j p hj => ?_⟩⟩, hB⟩
  match j, hj with
  | 0, hj =>
    injection hj with hj
    subst hj
    refine ⟨_, rfl, ⟨A, c, rfl, hc, Kd.C_below hx hB⟩, fun i u hu => ?_⟩
    match i, hu with
    | 0, hu =>
      injection hu with hu
      subst hu
      simp [go_sem, Addr.add]
  | 1, hj =>
    injection hj with hj
    subst hj
    refine ⟨_, rfl, ⟨B, d, rfl, hd, Kd.C_below hy hB⟩, fun i u hu => ?_⟩
    match i, hu with
    | 0, hu =>
      injection hu with hu
      subst hu
      have : 1 * (Kd.slice 5 (Kd.int IntKind.u8)).sz + 0 = 1 := rfl
      rw [this]
      simp [go_sem, Addr.add]
/-- Three rows of bytes in a row. -/
theorem rows3 (w : World) {A B D : Option Addr} {c d e : Nat} {x y z : List Int} (hx : C8 w A x) (hy : C8 w B y) (hz : C8 w D z) (hc : x.length ≤ c) (hd : y.length ≤ d) (he : z.length ≤ e) :
    Kd.C (Kd.slice 5 (Kd.int .u8)) (w.alloc (.cells #[.slice A x.length c, .slice B y.length d, .slice D z.length e] 22)) (some ⟨w.heap.size, 0, none⟩) [x, y, z].length [x, y, z] ∧ Below w.heap.size w (w.alloc (.cells #[.slice A x.length c, .slice B y.length d, .slice D z.length e] 22)) := by
  have hB : Below w.heap.size w (w.alloc (.cells #[.slice A x.length c, .slice B y.length d, .slice D z.length e] 22)) := below_alloc (Below.refl _ _) _
  refine ⟨⟨rfl, by simp, fun _ => ⟨_, rfl, fun j p hj => ?_⟩⟩, hB⟩
  match j, hj with
  | 0, hj =>
    injection hj with hj
    subst hj
    refine ⟨_, rfl, ⟨A, c, rfl, hc, Kd.C_below hx hB⟩, fun i u hu => ?_⟩
    match i, hu with
    | 0, hu =>
      injection hu with hu
      subst hu
      have : 0 * (Kd.slice 5 (Kd.int IntKind.u8)).sz + 0 = 0 := rfl
      rw [this]
      simp [go_sem, Addr.add]
  | 1, hj =>
    injection hj with hj
    subst hj
    refine ⟨_, rfl, ⟨B, d, rfl, hd, Kd.C_below hy hB⟩, fun i u hu => ?_⟩
    match i, hu with
    | 0, hu =>
      injection hu with hu
      subst hu
      have : 1 * (Kd.slice 5 (Kd.int IntKind.u8)).sz + 0 = 1 := rfl
      rw [this]
      simp [go_sem, Addr.add]
  | 2, hj =>
    injection hj with hj
    subst hj
    refine ⟨_, rfl, ⟨D, e, rfl, he, Kd.C_below hz hB⟩, fun i u hu => ?_⟩
    match i, hu with
    | 0, hu =>
      injection hu with hu
      subst hu
      have : 2 * (Kd.slice 5 (Kd.int IntKind.u8)).sz + 0 = 2 := rfl
      rw [this]
      simp [go_sem, Addr.add]
theorem tog3 {x y z : List Int} (h : x.length + y.length + z.length < 140737488355328) : laws_together.f 4 [x, y, z] = some (x ++ y ++ z) := by
  have i1 : wrap64 (0 + 1) = 1 := wrap64_id (by omega) (by omega)
  have i2 : wrap64 (1 + 1) = 2 := wrap64_id (by omega) (by omega)
  have i3 : wrap64 (2 + 1) = 3 := wrap64_id (by omega) (by omega)
  have ln : (([x, y, z] : List (List Int)).length : Int) = 3 := rfl
  have r0 : rd_L1 [x, y, z] 0 = x := rfl
  have r1 : rd_L1 [x, y, z] 1 = y := rfl
  have r2 : rd_L1 [x, y, z] 2 = z := rfl
  unfold laws_together.f
  rw [ln, laws_together.l0, if_pos (by decide), if_pos (by decide), if_pos (by rw [ln]; decide), r0, if_pos (by simp; omega), i1,
    laws_together.l0, if_pos (by decide), if_pos (by decide), if_pos (by rw [ln]; decide), r1, if_pos (by simp; omega), i2,
    laws_together.l0, if_pos (by decide), if_pos (by decide), if_pos (by rw [ln]; decide), r2, if_pos (by simp; omega), i3,
    laws_together.l0, if_neg (by decide), List.nil_append]
theorem tagB_val : ∀ n : Nat, n < 64 → tagB (n : Int) = 192 + (n : Int) := by decide +kernel
/-- Behind a header that is written stands the body. -/
theorem hdr_back {p : Nat} (hp : p < 64) {l l2 : List Int} {split : Int} (hn : l.length ≤ 4294967295) {aE aU : Addr} (W : World) (d s : Nat) (A : Option Addr) (c : Nat) (hS : Src W d s A c ((tagB (p : Int) :: lenB (l.length : Int)) ++ l ++ l2) split) (hE : Env W d aE aU) :
    Calls Tryd.prog 79 #[(.iface 94 (.pointer (some ⟨s, 0, none⟩)))] W (HdOk W d s split (p : Int) (l.length : Int) l true l2) := by
  have hr : rdl (lenB (l.length : Int) ++ (l ++ l2)) = some ((l.length : Int), false, l ++ l2) := rdl_lenB _ (by omega) (by omega) _
  rw [List.append_assoc, List.cons_append] at hS
  have h := rh_span hS hE (by rw [tagB_val p hp]; omega) hr
  rw [Int.toNat_natCast, List.take_left, List.drop_left, decide_eq_true (by simp), show tagB (p : Int) % 64 = (p : Int) by rw [tagB_val p hp]; omega] at h
  exact h
set_option maxRecDepth 100000 in
theorem zsh_calls {base : Nat} {w : World} {s : Nat} {v : Value} {l : List Int} (h : Snk base w s v l) (hl : l.length ≤ 140737488354000) (p : Int) (n : Int) (h0 : 0 ≤ n) (h1 : n ≤ 4294967295) :
    Calls Tryd.prog 71 #[(.iface 113 (.pointer (some ⟨s, 0, none⟩))), .int .u8 p, .int .i64 n] w fun en w' => en = .returned .nilIface ∧ (∃ v', Snk base w' s v' (l ++ (tagB p :: lenB n))) ∧ Tch (fun j => base ≤ j) w w' := by
  have H := Aside0.mk (shd_calls h hl p n h0 h1)
  clear h
  go_enter Tryd.func71, Tryd.ntmps71
  go_wp2_with fail
  refine H.out.mono ?_
  rintro en w1 ⟨rfl, hX⟩
  have X := Aside0.mk hX
  clear hX
  go_wp2_with fail
  go_ret
  exact ⟨rfl, X.out⟩
set_option maxRecDepth 100000 in
theorem whd_calls (w : World) (p n : Int) (h0 : 0 ≤ n) (h1 : n ≤ 4294967295) : Calls Tryd.prog 44 #[.int .u8 p, .int .i64 n] w fun en w' => ∃ v, en = .returned v ∧ R8 5 w' w.heap.size v (tagB p :: lenB n) ∧ Below w.heap.size w w' := by
  obtain ⟨W, eW, hS0, hB0⟩ := snk_new w.heap.size w (Nat.le_refl _)
  have H0 := Aside0.mk (zsh_calls hS0 (by simp) p n h0 h1)
  have B0 := Aside0.mk hB0
  clear hS0 hB0
  go_enter Tryd.func44, Tryd.ntmps44
  go_upto_region 2 with (fail)
  clear eW
  obtain ⟨g, eg⟩ : ∃ g, w.heap.size = g := ⟨_, rfl⟩
  have EG := Aside0.mk eg
  rw [eg] at H0 B0 ⊢
  clear eg
  go_wp2_with fail
  refine H0.out.mono ?_
  rintro en w1 ⟨rfl, ⟨v1, hs⟩, hT⟩
  have f0 := hs.c0
  have S1 := Aside0.mk hs
  have T1 := Aside0.mk hT
  clear hs hT
  go_wp2_with fail
  go_ret
  have hB : Below g w w1 := by
    have b0 := B0.out
    have sz := b0.size
    exact T1.out.below b0 (by rw [← EG.out]; exact sz) (fun k q => q)
  exact ⟨v1, rfl, by rw [EG.out]; have q := S1.out.rd; rw [List.nil_append] at q; exact q, by rw [EG.out]; exact hB⟩
set_option maxRecDepth 100000 in
theorem hb_g1 (tg : Int) (A : Option Addr) (c : Nat) (l : List Int) (B : Option Addr) (c2 : Nat) (l2 : List Int) (split : Int) (w : World) (h1 : 2147483647 < l.length) : Calls Tryd.prog 13 #[.int .u8 tg, .slice A l.length c, .slice B l2.length c2, .int .i64 split] w fun e w' => e = .returned (.bool true) ∧ Below w.heap.size w w' := by
  go_enter Tryd.func13, Tryd.ntmps13
  go_wp2_with fail
  go_ret
  exact ⟨rfl, Below.refl _ _⟩
set_option maxRecDepth 100000 in
theorem hb_g2 (tg : Int) (A : Option Addr) (c : Nat) (l : List Int) (B : Option Addr) (c2 : Nat) (l2 : List Int) (split : Int) (w : World) (h1 : ¬ 2147483647 < l.length) (h2 : 2147483647 < l2.length) : Calls Tryd.prog 13 #[.int .u8 tg, .slice A l.length c, .slice B l2.length c2, .int .i64 split] w fun e w' => e = .returned (.bool true) ∧ Below w.heap.size w w' := by
  go_enter Tryd.func13, Tryd.ntmps13
  go_wp2_with fail
  go_ret
  exact ⟨rfl, Below.refl _ _⟩
set_option maxRecDepth 100000 in
theorem hb_g3 (tg : Int) (A : Option Addr) (c : Nat) (l : List Int) (B : Option Addr) (c2 : Nat) (l2 : List Int) (split : Int) (w : World) (h1 : ¬ 2147483647 < l.length) (h2 : ¬ 2147483647 < l2.length) (h3 : 1048576 < l.length) : Calls Tryd.prog 13 #[.int .u8 tg, .slice A l.length c, .slice B l2.length c2, .int .i64 split] w fun e w' => e = .returned (.bool true) ∧ Below w.heap.size w w' := by
  go_enter Tryd.func13, Tryd.ntmps13
  go_wp2_with fail
  go_ret
  exact ⟨rfl, Below.refl _ _⟩
set_option maxRecDepth 100000 in
theorem hb_g4 (tg : Int) (A : Option Addr) (c : Nat) (l : List Int) (B : Option Addr) (c2 : Nat) (l2 : List Int) (split : Int) (w : World) (h1 : ¬ 2147483647 < l.length) (h2 : ¬ 2147483647 < l2.length) (h3 : ¬ 1048576 < l.length) (h4 : 1048576 < l2.length) : Calls Tryd.prog 13 #[.int .u8 tg, .slice A l.length c, .slice B l2.length c2, .int .i64 split] w fun e w' => e = .returned (.bool true) ∧ Below w.heap.size w w' := by
  go_enter Tryd.func13, Tryd.ntmps13
  go_wp2_with fail
  go_ret
  exact ⟨rfl, Below.refl _ _⟩
set_option maxHeartbeats 3200000 in
set_option maxRecDepth 100000 in
theorem hb_ok (tg : Int) (A : Option Addr) (c : Nat) (l : List Int) (B : Option Addr) (c2 : Nat) (l2 : List Int) (split : Int) (w : World) (ht0 : 0 ≤ tg) (ht1 : tg ≤ 255) (hr : C8 w A l) (hc : l.length ≤ c) (hr2 : C8 w B l2) (hc2 : l2.length ≤ c2) (hy : Bytes l) (hy2 : Bytes l2) (h1 : ¬ 2147483647 < l.length) (h2 : ¬ 2147483647 < l2.length) (h3 : ¬ 1048576 < l.length) (h4 : ¬ 1048576 < l2.length) {aE aU : Addr} (hE : Env w w.heap.size aE aU) : Calls Tryd.prog 13 #[.int .u8 tg, .slice A l.length c, .slice B l2.length c2, .int .i64 split] w fun e w' => e = .returned (.bool true) ∧ Below w.heap.size w w' := by
  obtain ⟨t, rfl⟩ := Int.eq_ofNat_of_zero_le ht0
  have a3 : Go.bits .and .u8 (t : Int) 63 = ((t % 64 : Nat) : Int) := and63 t (by omega)
  obtain ⟨p, ep⟩ : ∃ p, t % 64 = p := ⟨_, rfl⟩
  have p64 : p < 64 := by omega
  rw [ep] at a3
  clear ep
  obtain ⟨T, eT⟩ : ∃ T, (tagB (p : Int) :: lenB (l.length : Int)) ++ l ++ l2 = T := ⟨_, rfl⟩
  have LB := lenB_length (l.length : Int)
  have bT : Bytes T := by
    rw [← eT]
    refine bytes_all (fun x hx => ?_)
    rcases List.mem_append.1 hx with q | q
    · rcases List.mem_append.1 q with q | q
      · rcases List.mem_cons.1 q with rfl | q
        · rw [tagB_val p p64]; omega
        · exact lenB_bytes _ (by omega) (by omega) x q
      · exact bytes_mem hy x q
    · exact bytes_mem hy2 x q
  have lT : T.length ≤ 2097160 := by rw [← eT]; simp; omega
  have HB := Aside0.mk (fun (W : World) (d s : Nat) (A : Option Addr) (c : Nat) (hS : Src W d s A c T split) (hE : Env W d aE aU) => hdr_back (l := l) (l2 := l2) (split := split) p64 (by omega) W d s A c (by rw [eT]; exact hS) hE)
  have BT := Aside0.mk bT
  have ET := Aside0.mk eT
  have LBB := Aside0.mk LB
  have HE := Aside0.mk hE
  have HR := Aside0.mk hr
  have HR2 := Aside0.mk hr2
  have HC := Aside0.mk hc
  have HC2 := Aside0.mk hc2
  have WHc := Aside0.mk (whd_calls w (p : Int) (l.length : Int) (by omega) (by omega))
  have BL := Aside0.mk (show l.length ≤ 100000000 by omega)
  have BL3 := Aside0.mk (show (tagB (p : Int) :: lenB (l.length : Int)).length + l.length + l2.length < 140737488355328 by simp; omega)
  clear hE hr hr2 hc hc2 hy hy2 bT eT LB lT ht0 ht1
  go_enter Tryd.func13, Tryd.ntmps13
  go_wp2_with fail
  refine WHc.out.mono ?_
  rintro en w1 ⟨v1, rfl, hR1, hB1⟩
  obtain ⟨A1, c1, e1, hc1, hC1⟩ := r8_reads hR1
  obtain ⟨H, eH⟩ : ∃ H, tagB (p : Int) :: lenB (l.length : Int) = H := ⟨_, rfl⟩
  rw [eH] at e1 hc1 hC1 ET BL3
  subst e1
  have EH := Aside0.mk eH
  have X1 := Aside0.mk (And.intro hC1 hc1)
  have B1 := Aside0.mk hB1
  clear hR1 hB1 hc1 hC1 eH
  have RW := Aside0.mk (rows3 w1 X1.out.1 (Kd.C_below HR.out B1.out) (Kd.C_below HR2.out B1.out) X1.out.2 HC.out HC2.out)
  go_wp2_with fail
  refine (laws_together.calls 4 (some ⟨w1.heap.size, 0, none⟩) 3 [H, l, l2] (H ++ l ++ l2) _ RW.out.1 (Nat.le_refl _) (tog3 BL3.out)).mono ?_
  rintro en w2 ⟨v2, rfl, hR2, hB2⟩
  rw [ET.out] at hR2
  obtain ⟨A2, c2', e2, hc2, hC2⟩ := r8_reads hR2
  subst e2
  have X2 := Aside0.mk (And.intro hC2 hc2)
  have B2 := Aside0.mk (below_then B1.out B1.out.size (below_then RW.out.2 RW.out.2.size hB2))
  clear hR2 hB2 hc2 hC2
  go_wp2_with fail
  refine (rhd_ok X2.out.1 X2.out.2 BT.out ((HE.out.below B2.out).up B2.out.size) BL.out HB.out).mono ?_
  rintro en w3 ⟨vo, L, rfl, hL, hRo, hB3⟩
  obtain rfl := hL rfl
  obtain ⟨A3, c3, e3, hc3, hC3⟩ := r8_reads hRo
  subst e3
  rw [if_pos rfl]
  have X3 := Aside0.mk hC3
  have B3 := Aside0.mk (below_then B2.out B2.out.size hB3)
  clear hRo hB3 hc3 hC3 hL
  go_wp2_with fail
  refine (same_calls (Kd.C_alloc X3.out _) (Kd.C_alloc (Kd.C_below HR.out B3.out) _) rfl rfl rfl).mono ?_
  rintro en w4 ⟨rfl, hB4⟩
  have f4 : w4.cell? ⟨w3.heap.size, 4, none⟩ = some (.int .i64 (L.length : Int)) := (hB4.cell (by simp)).trans (by simp [go_sem])
  have B4 := Aside0.mk (below_then B3.out B3.out.size (below_then (below_alloc (Below.refl _ _) (.cells #[.int .u8 (p : Int), .int .i64 (l.length : Int), .slice A3 l.length c3, .int .i64 0, .int .i64 (L.length : Int), .int .i64 0] 90)) (by simp) hB4))
  clear hB4
  go_wp2_with fail
  go_ret
  exact ⟨rfl, B4.out⟩
theorem law_hb (tg : Int) (A : Option Addr) (c : Nat) (l : List Int) (B : Option Addr) (c2 : Nat) (l2 : List Int) (split : Int) (w : World) (ht : (Lit.int .u8 tg).wf = true) (hr : C8 w A l) (hc : l.length ≤ c) (hm : l.length ≤ maxLen) (hw : ∀ x ∈ l, (Lit.int .u8 x).wf = true) (hr2 : C8 w B l2) (hc2 : l2.length ≤ c2) (hm2 : l2.length ≤ maxLen) (hw2 : ∀ x ∈ l2, (Lit.int .u8 x).wf = true) (hs : (Lit.int .i64 split).wf = true) {aE aU : Addr} (hE : Env w w.heap.size aE aU) : Calls Tryd.prog 13 #[.int .u8 tg, .slice A l.length c, .slice B l2.length c2, .int .i64 split] w fun e w' => e = .returned (.bool true) ∧ Below w.heap.size w w' := by
  obtain ⟨ht0, ht1⟩ := wf_u8 ht
  by_cases h1 : 2147483647 < l.length
  · exact hb_g1 tg A c l B c2 l2 split w h1
  by_cases h2 : 2147483647 < l2.length
  · exact hb_g2 tg A c l B c2 l2 split w h1 h2
  by_cases h3 : 1048576 < l.length
  · exact hb_g3 tg A c l B c2 l2 split w h1 h2 h3
  by_cases h4 : 1048576 < l2.length
  · exact hb_g4 tg A c l B c2 l2 split w h1 h2 h3 h4
  exact hb_ok tg A c l B c2 l2 split w ht0 ht1 hr hc hr2 hc2 (bytes_of hw) (bytes_of hw2) h1 h2 h3 h4 hE
end Go.Proofs.YtfhefoaieefnkaaDoor.Rd
