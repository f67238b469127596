/- laws.FnLengthBack. -/
import Derived.Test.YtfhefoaieefnkaaDoorRlen
import Derived.Test.YtfhefoaieefnkaaDoorSl
import Derived.Test.YtfhefoaieefnkaaDoorPFnLengthBackx1
set_option linter.unusedVariables false
set_option linter.unusedSimpArgs false
namespace Go.Proofs.YtfhefoaieefnkaaDoor.Rd
open Go.RowKit Go.Proofs.YtfhefoaieefnkaaDoorW.PrintWords Go.Proofs.YtfhefoaieefnkaaDoorW.PrintMore Go.Proofs.YtfhefoaieefnkaaDoor.Kit Go.Proofs.YtfhefoaieefnkaaDoor.PFnLengthBack

theorem Env.up {w : World} {d d' : Nat} {aE aU : Addr} (h : Env w d aE aU) (hd : d ≤ d') : Env w d' aE aU :=
  { h with
    de := Nat.lt_of_lt_of_le h.de hd
    du := Nat.lt_of_lt_of_le h.du hd
    ge := Nat.lt_of_lt_of_le h.ge hd
    gu := Nat.lt_of_lt_of_le h.gu hd }
theorem rdl_lenB (n : Int) (h0 : 0 ≤ n) (h1 : n ≤ 4294967295) (m : List Int) : rdl (lenB n ++ m) = some (n, false, m) := by
  unfold lenB
  split
  · rename_i a; simp only [List.cons_append, List.nil_append, rdl, if_pos a]
  · rename_i a
    split
    · rename_i b
      have e : (192 + (n - 192) / 256 - 192) * 256 + ((n - 192) % 256 + 192) = n := by omega
      simp only [List.cons_append, List.nil_append, rdl]
      rw [if_neg (by omega), if_pos (by omega), e]
    · rename_i b
      have e : n / 16777216 * 16777216 + n / 65536 % 256 * 65536 + n / 256 % 256 * 256 + n % 256 = n := by omega
      simp only [List.cons_append, List.nil_append, rdl]
      rw [if_neg (by omega), if_neg (by omega), if_neg (by omega), e]
theorem lenB_bytes (n : Int) (h0 : 0 ≤ n) (h1 : n ≤ 4294967295) : ∀ x ∈ lenB n, 0 ≤ x ∧ x ≤ 255 := by
  intro x hx
  unfold lenB at hx
  split at hx
  · simp at hx; omega
  · split at hx
    · simp at hx; omega
    · simp at hx; omega
theorem bytes_all {l : List Int} (h : ∀ x ∈ l, 0 ≤ x ∧ x ≤ 255) : Bytes l := by
  intro i
  by_cases hi : i < l.length
  · rw [List.getD_eq_getElem?_getD, List.getElem?_eq_getElem hi]; exact h _ (List.getElem_mem hi)
  · rw [List.getD_eq_getElem?_getD, List.getElem?_eq_none (by omega)]; simp
/-- Two rows of bytes in a row. -/
theorem rows2 (w : World) {A B : Option Addr} {c d : Nat} {x y : List Int} (hx : C8 w A x) (hy : C8 w B y) (hc : x.length ≤ c) (hd : y.length ≤ d) :
    Kd.C (Kd.slice 5 (Kd.int .u8)) (w.alloc (.cells #[.slice A x.length c, .slice B y.length d] 22)) (some ⟨w.heap.size, 0, none⟩) [x, y].length [x, y] ∧ Below w.heap.size w (w.alloc (.cells #[.slice A x.length c, .slice B y.length d] 22)) := by
  have hB : Below w.heap.size w (w.alloc (.cells #[.slice A x.length c, .slice B y.length d] 22)) := below_alloc (Below.refl _ _) _
  refine ⟨⟨rfl, by simp, fun _ => ⟨_, rfl, fun j p hj => ?_⟩⟩, hB⟩
  match j, hj with
  | 0, hj =>
    injection hj with hj
    subst hj
    refine ⟨_, rfl, ⟨A, c, rfl, hc, Kd.C_below hx hB⟩, fun i u hu => ?_⟩
    match i, hu with
    | 0, hu =>
      injection hu with hu
      subst hu
      simp [go_sem, Addr.add]
  | 1, hj =>
    injection hj with hj
    subst hj
    refine ⟨_, rfl, ⟨B, d, rfl, hd, Kd.C_below hy hB⟩, fun i u hu => ?_⟩
    match i, hu with
    | 0, hu =>
      injection hu with hu
      subst hu
      have : 1 * (Kd.slice 5 (Kd.int IntKind.u8)).sz + 0 = 1 := rfl
      rw [this]
      simp [go_sem, Addr.add]
theorem tog2 {x y : List Int} (h : x.length + y.length < 140737488355328) : laws_together.f 3 [x, y] = some (x ++ y) := by
  have i1 : wrap64 (0 + 1) = 1 := wrap64_id (by omega) (by omega)
  have i2 : wrap64 (1 + 1) = 2 := wrap64_id (by omega) (by omega)
  have ln : (([x, y] : List (List Int)).length : Int) = 2 := rfl
  have r0 : rd_L1 [x, y] 0 = x := rfl
  have r1 : rd_L1 [x, y] 1 = y := rfl
  unfold laws_together.f
  rw [ln, laws_together.l0, if_pos (by decide), if_pos (by decide), if_pos (by rw [ln]; decide), r0, if_pos (by simp; omega), i1,
    laws_together.l0, if_pos (by decide), if_pos (by decide), if_pos (by rw [ln]; decide), r1, if_pos (by simp; omega), i2,
    laws_together.l0, if_neg (by decide), List.nil_append]

set_option maxHeartbeats 1600000 in
set_option maxRecDepth 100000 in
theorem lb_big (n : Int) (A : Option Addr) (c : Nat) (l : List Int) (w : World) (hn : (Lit.int .u32 n).wf = true) (hr : C8 w A l) (hc : l.length ≤ c) (hm : l.length ≤ maxLen) (hw : ∀ x ∈ l, (Lit.int .u8 x).wf = true) (hz : 2147483647 < l.length) :
    Calls Tryd.prog 6 #[.int .u32 n, .slice A l.length c] w fun e w' => e = .returned (.bool true) ∧ Below w.heap.size w w' := by
  clear hw
  go_enter Tryd.func6, Tryd.ntmps6
  go_wp2_with fail
  go_ret
  exact ⟨rfl, Below.refl _ _⟩
set_option maxHeartbeats 1600000 in
set_option maxRecDepth 100000 in
theorem lb_mid (n : Int) (A : Option Addr) (c : Nat) (l : List Int) (w : World) (hn : (Lit.int .u32 n).wf = true) (hr : C8 w A l) (hc : l.length ≤ c) (hm : l.length ≤ maxLen) (hw : ∀ x ∈ l, (Lit.int .u8 x).wf = true) (hz : ¬ 2147483647 < l.length) (hy : 1048576 < l.length) :
    Calls Tryd.prog 6 #[.int .u32 n, .slice A l.length c] w fun e w' => e = .returned (.bool true) ∧ Below w.heap.size w w' := by
  clear hw
  go_enter Tryd.func6, Tryd.ntmps6
  go_wp2_with fail
  go_ret
  exact ⟨rfl, Below.refl _ _⟩
set_option maxHeartbeats 1600000 in
set_option maxRecDepth 100000 in
theorem lb_ok (n : Int) (A : Option Addr) (c : Nat) (l : List Int) (w : World) (hn : (Lit.int .u32 n).wf = true) (hr : C8 w A l) (hc : l.length ≤ c) (hm : l.length ≤ maxLen) (hw : ∀ x ∈ l, (Lit.int .u8 x).wf = true) (hz : ¬ 2147483647 < l.length) (hy : ¬ 1048576 < l.length) {aE aU : Addr} (hE : Env w w.heap.size aE aU) :
    Calls Tryd.prog 6 #[.int .u32 n, .slice A l.length c] w fun e w' => e = .returned (.bool true) ∧ Below w.heap.size w w' := by
  have n0 : 0 ≤ n := by simp [Lit.wf, IntKind.min, IntKind.max, IntKind.signed, IntKind.bits] at hn; omega
  have n1 : n ≤ 4294967295 := by simp [Lit.wf, IntKind.min, IntKind.max, IntKind.signed, IntKind.bits] at hn; omega
  have HB := Aside0.mk (show Bytes (lenB n ++ l) from bytes_all (fun x hx => by
    rcases List.mem_append.1 hx with q | q
    · exact lenB_bytes n n0 n1 x q
    · have := hw x q; simp [Lit.wf, IntKind.min, IntKind.max, IntKind.signed, IntKind.bits] at this; omega))
  obtain ⟨L, eL⟩ : ∃ L, lenB n = L := ⟨_, rfl⟩
  have LB := Aside0.mk (lenB_length n)
  have ED := Aside0.mk (rdl_lenB n n0 n1 l)
  rw [eL] at HB LB ED
  have WLc := Aside0.mk (wlen_calls w n n0 n1)
  rw [eL] at WLc
  have HR := Aside0.mk hr
  have HC := Aside0.mk hc
  have HE := Aside0.mk hE
  have LY := Aside0.mk (show l.length ≤ 1048576 by omega)
  clear hw hr hE hn eL
  go_enter Tryd.func6, Tryd.ntmps6
  go_wp2_with (first | (go_at_call 23; (with_reducible refine WLc.out.mono ?_); rintro en w1 ⟨v, rfl, hR, hB⟩; obtain ⟨A1, c1, e1, hc1, hC1⟩ := r8_reads hR; subst e1; have C1 := Aside0.mk hC1; have D1 := Aside0.mk hc1; have B1 := Aside0.mk hB; clear hR hC1 hc1 hB) | (go_at_call 24; refine (laws_together.calls 3 (some ⟨w1.heap.size, 0, none⟩) 2 [L, l] (L ++ l) _ ?gr (Nat.le_refl _) ?gt).mono ?_; (case gr => exact (rows2 w1 C1.out (Kd.C_below HR.out B1.out) D1.out HC.out).1); (case gt => exact tog2 (by have := LY.out; have := LB.out.2; omega)); rintro en w2 ⟨v2, rfl, hR, hB⟩; obtain ⟨A2, c2, e2, hc2, hC2⟩ := r8_reads hR; obtain ⟨T, eT⟩ : ∃ T, L ++ l = T := ⟨_, rfl⟩; rw [eT] at e2 hc2 hC2; subst e2; have C2 := Aside0.mk hC2; have D2 := Aside0.mk hc2; have ET := Aside0.mk eT; have B2 := Aside0.mk (below_then B1.out B1.out.size (below_then (rows2 w1 C1.out (Kd.C_below HR.out B1.out) D1.out HC.out).2 (rows2 w1 C1.out (Kd.C_below HR.out B1.out) D1.out HC.out).2.size hB)); clear hR hC2 hc2 hB eT) | (go_at_call 15; (with_reducible refine (rlen_ok C2.out D2.out (by rw [← ET.out]; exact HB.out) ((HE.out.below B2.out).up B2.out.size) (by rw [← ET.out]; exact ED.out)).mono ?_); rintro en w3 ⟨rfl, hB⟩; have q1 : (T.length : Int) - (l.length : Int) = (L.length : Int) := (by have q0 : T.length = L.length + l.length := ET.out ▸ List.length_append; omega); have B3 := Aside0.mk hB; clear hB))
  have hl := LB.out
  have e2 : 0 < L.length := by omega
  go_ret
  refine ⟨?_, below_then B2.out B2.out.size B3.out⟩
  exact congrArg (fun b => Ending.returned (.bool b)) (decide_eq_true e2)
theorem law_lb (n : Int) (A : Option Addr) (c : Nat) (l : List Int) (w : World) (hn : (Lit.int .u32 n).wf = true) (hr : C8 w A l) (hc : l.length ≤ c) (hm : l.length ≤ maxLen) (hw : ∀ x ∈ l, (Lit.int .u8 x).wf = true) {aE aU : Addr} (hE : Env w w.heap.size aE aU) :
    Calls Tryd.prog 6 #[.int .u32 n, .slice A l.length c] w fun e w' => e = .returned (.bool true) ∧ Below w.heap.size w w' := by
  by_cases hz : 2147483647 < l.length
  · exact lb_big n A c l w hn hr hc hm hw hz
  by_cases hy : 1048576 < l.length
  · exact lb_mid n A c l w hn hr hc hm hw hz hy
  exact lb_ok n A c l w hn hr hc hm hw hz hy hE
end Go.Proofs.YtfhefoaieefnkaaDoor.Rd
