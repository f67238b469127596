/- packet.Marker.parse; impl.ReadMarker. -/
import Derived.Test.YtfhefoaieefnkaaDoorRlen
import Derived.Stop.Asserts
set_option linter.unusedVariables false
set_option linter.unusedSimpArgs false
namespace Go.Proofs.YtfhefoaieefnkaaDoor.Rd
open Go.RowKit Go.Proofs.YtfhefoaieefnkaaDoorW.PrintWords Go.Proofs.YtfhefoaieefnkaaDoorW.PrintMore Go.Proofs.YtfhefoaieefnkaaDoor.Kit

theorem buf3 (w : World) : ∃ W, w.alloc (.cells #[.int .u8 0, .int .u8 0, .int .u8 0] 224) = W ∧ R8 224 W w.heap.size (.slice (some ⟨w.heap.size, 0, none⟩) 3 3) [0, 0, 0] ∧ Below w.heap.size w W :=
  ⟨_, rfl, Kd.R_of_own (own_lit w w.heap.size 224 .u8 [0, 0, 0] (Nat.le_refl _) (by simp)) (fun _ _ => trivial), below_alloc (Below.refl _ _) _⟩
theorem row_c3 {w : World} {e base g : Nat} {x y z : Int} (h : R8 e w base (.slice (some ⟨g, 0, none⟩) 3 3) [x, y, z]) : C8 w (some ⟨g, 0, none⟩) [x, y, z] := by
  obtain ⟨A, c, e1, _, hC⟩ := r8_reads h
  injection e1 with e2 e3 e4
  subst e2
  exact hC
/-- What parse comes to: an error (or none), the source read on, nothing else touched. -/
def Prs (w : World) (d s : Nat) (split : Int) (er : Value → Prop) (en : Ending) (w' : World) : Prop :=
  ∃ v, er v ∧ en = .returned v ∧ Tch (fun j => j = s) w w'
set_option maxHeartbeats 1600000 in
set_option maxRecDepth 100000 in
theorem prs_eof {w : World} {d s : Nat} {A : Option Addr} {c : Nat} {split : Int} {aE aU : Addr}  (h : Src w d s A c ([]) split) (hE : Env w d aE aU)  (q : Option Addr) :
    Calls Tryd.prog 116 #[.pointer q, (.iface 94 (.pointer (some ⟨s, 0, none⟩)))] w fun en w' => ∃ v, v = (.iface 206 (.pointer (some aE))) ∧ en = .returned v ∧ Tch (fun j => j = s) w w' := by
  obtain ⟨W, eW, hR0, hB0⟩ := buf3 w
  have H0 := Aside0.mk (h.below hB0)
  have E0 := Aside0.mk (hE.below hB0)
  have R0 := Aside0.mk hR0
  have B0 := Aside0.mk hB0
  have gs : w.heap.size ≠ s := by have := h.lt; omega
  have gd : d ≤ w.heap.size := by have := h.lt; have := h.ds; omega
  have LT := Aside0.mk h.lt
  clear h hE hR0 hB0
  go_enter Tryd.func116, Tryd.ntmps116
  go_upto_region 2 with (fail)
  clear eW
  obtain ⟨g, eg⟩ : ∃ g, w.heap.size = g := ⟨_, rfl⟩
  have EG := Aside0.mk eg
  rw [eg] at gs gd LT R0 ⊢
  clear eg
  go_wp2_with (go_at_call 73; (with_reducible refine (full_calls H0.out E0.out R0.out (show 0 + 3 ≤ 3 by omega) (show 3 ≤ 3 by omega) (by omega) gs gd).mono ?_); rintro en w1 ⟨k, e1, rfl, hS, hR, hT⟩; rw [if_neg (show ¬ k = 3 by rw [e1]; simp), if_pos (show k = 0 by rw [e1]; simp)]; have T1 := Aside0.mk hT; clear hS hR hT e1)
  go_ret
  have TB : Tch (fun j => j = g ∨ j = s) w W := Tch.of_below (by have := B0.out; exact this)
  exact ⟨_, rfl, rfl, tch_drop0 (TB.trans T1.out) EG.out⟩
set_option maxHeartbeats 1600000 in
set_option maxRecDepth 100000 in
theorem prs_cut {w : World} {d s : Nat} {A : Option Addr} {c : Nat} {split : Int} {aE aU : Addr} {l : List Int} (h : Src w d s A c (l) split) (hE : Env w d aE aU) (hl : 0 < l.length) (hl3 : l.length < 3) (q : Option Addr) :
    Calls Tryd.prog 116 #[.pointer q, (.iface 94 (.pointer (some ⟨s, 0, none⟩)))] w fun en w' => ∃ v, v = (.iface 206 (.pointer (some aU))) ∧ en = .returned v ∧ Tch (fun j => j = s) w w' := by
  obtain ⟨W, eW, hR0, hB0⟩ := buf3 w
  have H0 := Aside0.mk (h.below hB0)
  have E0 := Aside0.mk (hE.below hB0)
  have R0 := Aside0.mk hR0
  have B0 := Aside0.mk hB0
  have gs : w.heap.size ≠ s := by have := h.lt; omega
  have gd : d ≤ w.heap.size := by have := h.lt; have := h.ds; omega
  have LT := Aside0.mk h.lt
  clear h hE hR0 hB0
  go_enter Tryd.func116, Tryd.ntmps116
  go_upto_region 2 with (fail)
  clear eW
  obtain ⟨g, eg⟩ : ∃ g, w.heap.size = g := ⟨_, rfl⟩
  have EG := Aside0.mk eg
  rw [eg] at gs gd LT R0 ⊢
  clear eg
  go_wp2_with (go_at_call 73; (with_reducible refine (full_calls H0.out E0.out R0.out (show 0 + 3 ≤ 3 by omega) (show 3 ≤ 3 by omega) (by omega) gs gd).mono ?_); rintro en w1 ⟨k, e1, rfl, hS, hR, hT⟩; rw [if_neg (show ¬ k = 3 by omega), if_neg (show ¬ k = 0 by omega)]; have T1 := Aside0.mk hT; clear hS hR hT e1)
  go_ret
  have TB : Tch (fun j => j = g ∨ j = s) w W := Tch.of_below (by have := B0.out; exact this)
  exact ⟨_, rfl, rfl, tch_drop0 (TB.trans T1.out) EG.out⟩
set_option maxHeartbeats 1600000 in
set_option maxRecDepth 100000 in
theorem prs_ok {w : World} {d s : Nat} {A : Option Addr} {c : Nat} {split : Int} {aE aU : Addr} {x y z : Int} {t : List Int} {S : ByteArray} (h : Src w d s A c (x :: y :: z :: t) split) (hE : Env w d aE aU) (hS2 : strOfNums [x, y, z] = S) (hn : (S.toList == ([80, 71, 80] : List UInt8)) = true) (q : Option Addr) :
    Calls Tryd.prog 116 #[.pointer q, (.iface 94 (.pointer (some ⟨s, 0, none⟩)))] w fun en w' => ∃ v, v = .nilIface ∧ en = .returned v ∧ Tch (fun j => j = s) w w' := by
  obtain ⟨W, eW, hR0, hB0⟩ := buf3 w
  have H0 := Aside0.mk (h.below hB0)
  have E0 := Aside0.mk (hE.below hB0)
  have R0 := Aside0.mk hR0
  have B0 := Aside0.mk hB0
  have gs : w.heap.size ≠ s := by have := h.lt; omega
  have gd : d ≤ w.heap.size := by have := h.lt; have := h.ds; omega
  have LT := Aside0.mk h.lt
  clear h hE hR0 hB0
  go_enter Tryd.func116, Tryd.ntmps116
  go_upto_region 2 with (fail)
  clear eW
  obtain ⟨g, eg⟩ : ∃ g, w.heap.size = g := ⟨_, rfl⟩
  have EG := Aside0.mk eg
  rw [eg] at gs gd LT R0 ⊢
  clear eg
  go_wp2_with (go_at_call 73; (with_reducible refine (full_calls H0.out E0.out R0.out (show 0 + 3 ≤ 3 by omega) (show 3 ≤ 3 by omega) (by omega) gs gd).mono ?_); rintro en w1 ⟨k, e1, rfl, hS, hR, hT⟩; have e3 : k = 3 := (by have : (x :: y :: z :: t).length = t.length + 3 := rfl; omega); rw [if_pos e3]; subst e3; have cs : (convert 22 9 (.slice (some ⟨g, 0, none⟩) 3 3)).run Tryd.prog w1 = .ok (.string (strOfNums [x, y, z])) w1 := Kd.C_string (P := Tryd.prog) (c := 3) Tryd.underlying22 Tryd.underlying5 Tryd.underlying9 (row_c3 hR); rw [hS2] at cs; have T1 := Aside0.mk hT; clear hS hR hT e1)
  go_ret
  have TB : Tch (fun j => j = g ∨ j = s) w W := Tch.of_below (by have := B0.out; exact this)
  exact ⟨_, rfl, rfl, tch_drop0 (TB.trans T1.out) EG.out⟩
set_option maxHeartbeats 1600000 in
set_option maxRecDepth 100000 in
theorem prs_bad {w : World} {d s : Nat} {A : Option Addr} {c : Nat} {split : Int} {aE aU : Addr} {x y z : Int} {t : List Int} {S : ByteArray} (h : Src w d s A c (x :: y :: z :: t) split) (hE : Env w d aE aU) (hS2 : strOfNums [x, y, z] = S) (hn : (S.toList == ([80, 71, 80] : List UInt8)) = false) (q : Option Addr) :
    Calls Tryd.prog 116 #[.pointer q, (.iface 94 (.pointer (some ⟨s, 0, none⟩)))] w fun en w' => ∃ v, (∃ m, v = .iface 168 (.string m)) ∧ en = .returned v ∧ Tch (fun j => j = s) w w' := by
  obtain ⟨W, eW, hR0, hB0⟩ := buf3 w
  have H0 := Aside0.mk (h.below hB0)
  have E0 := Aside0.mk (hE.below hB0)
  have R0 := Aside0.mk hR0
  have B0 := Aside0.mk hB0
  have gs : w.heap.size ≠ s := by have := h.lt; omega
  have gd : d ≤ w.heap.size := by have := h.lt; have := h.ds; omega
  have LT := Aside0.mk h.lt
  clear h hE hR0 hB0
  go_enter Tryd.func116, Tryd.ntmps116
  go_upto_region 2 with (fail)
  clear eW
  obtain ⟨g, eg⟩ : ∃ g, w.heap.size = g := ⟨_, rfl⟩
  have EG := Aside0.mk eg
  rw [eg] at gs gd LT R0 ⊢
  clear eg
  go_wp2_with (go_at_call 73; (with_reducible refine (full_calls H0.out E0.out R0.out (show 0 + 3 ≤ 3 by omega) (show 3 ≤ 3 by omega) (by omega) gs gd).mono ?_); rintro en w1 ⟨k, e1, rfl, hS, hR, hT⟩; have e3 : k = 3 := (by have : (x :: y :: z :: t).length = t.length + 3 := rfl; omega); rw [if_pos e3]; subst e3; have cs : (convert 22 9 (.slice (some ⟨g, 0, none⟩) 3 3)).run Tryd.prog w1 = .ok (.string (strOfNums [x, y, z])) w1 := Kd.C_string (P := Tryd.prog) (c := 3) Tryd.underlying22 Tryd.underlying5 Tryd.underlying9 (row_c3 hR); rw [hS2] at cs; have T1 := Aside0.mk hT; clear hS hR hT e1)
  go_ret
  have TB : Tch (fun j => j = g ∨ j = s) w W := Tch.of_below (by have := B0.out; exact this)
  exact ⟨_, ⟨_, rfl⟩, rfl, tch_drop0 (TB.trans T1.out) EG.out⟩
set_option maxRecDepth 100000 in
theorem end_form {w : World} {d : Nat} {aE aU : Addr} (hE : Env w d aE aU) (m : ByteArray) : Calls Tryd.prog 46 #[.iface 168 (.string m)] w fun en w' => en = .returned (.int .i64 3) ∧ w' = w := by
  have e0 := hE.e
  have u0 := hE.u
  have q1 := run_eql_iface_types (P := Tryd.prog) 168 206 (.string m) (.pointer (some aE)) Tryd.underlying98 (by decide) w
  have q2 := run_eql_iface_types (P := Tryd.prog) 168 206 (.string m) (.pointer (some aU)) Tryd.underlying98 (by decide) w
  have q3 : (Instr.typeAssert (.iface 168 (.string m)) 98 168 true).run Tryd.prog w = .ok (.tuple #[.string m, .bool true]) w := by kernel_rfl
  clear hE
  go_enter Tryd.func46, Tryd.ntmps46
  go_wp2_with fail
  go_ret
  exact ⟨rfl, rfl⟩
set_option maxRecDepth 100000 in
theorem zp_eof {w : World} {d s : Nat} {A : Option Addr} {c : Nat} {split : Int} {aE aU : Addr}  (h : Src w d s A c ([]) split) (hE : Env w d aE aU)  (q : Addr) :
    Calls Tryd.prog 59 #[.iface 143 (.pointer (some q)), (.iface 94 (.pointer (some ⟨s, 0, none⟩)))] w fun en w' => ∃ v, v = (.iface 206 (.pointer (some aE))) ∧ en = .returned v ∧ Tch (fun j => j = s) w w' := by
  have H := Aside0.mk (prs_eof h hE  (some q))
  clear h hE
  go_enter Tryd.func59, Tryd.ntmps59
  go_wp2_with (go_at_call 116; (with_reducible refine H.out.mono ?_); rintro en w1 ⟨v, hv, rfl, hT⟩; have V1 := Aside0.mk hv; have T1 := Aside0.mk hT; clear hv hT)
  go_ret
  exact ⟨v, V1.out, rfl, T1.out⟩
set_option maxRecDepth 100000 in
theorem zp_cut {w : World} {d s : Nat} {A : Option Addr} {c : Nat} {split : Int} {aE aU : Addr} {l : List Int} (h : Src w d s A c (l) split) (hE : Env w d aE aU) (hl : 0 < l.length) (hl3 : l.length < 3) (q : Addr) :
    Calls Tryd.prog 59 #[.iface 143 (.pointer (some q)), (.iface 94 (.pointer (some ⟨s, 0, none⟩)))] w fun en w' => ∃ v, v = (.iface 206 (.pointer (some aU))) ∧ en = .returned v ∧ Tch (fun j => j = s) w w' := by
  have H := Aside0.mk (prs_cut h hE hl hl3 (some q))
  clear h hE
  go_enter Tryd.func59, Tryd.ntmps59
  go_wp2_with (go_at_call 116; (with_reducible refine H.out.mono ?_); rintro en w1 ⟨v, hv, rfl, hT⟩; have V1 := Aside0.mk hv; have T1 := Aside0.mk hT; clear hv hT)
  go_ret
  exact ⟨v, V1.out, rfl, T1.out⟩
set_option maxRecDepth 100000 in
theorem zp_ok {w : World} {d s : Nat} {A : Option Addr} {c : Nat} {split : Int} {aE aU : Addr} {x y z : Int} {t : List Int} {S : ByteArray} (h : Src w d s A c (x :: y :: z :: t) split) (hE : Env w d aE aU) (hS2 : strOfNums [x, y, z] = S) (hn : (S.toList == ([80, 71, 80] : List UInt8)) = true) (q : Addr) :
    Calls Tryd.prog 59 #[.iface 143 (.pointer (some q)), (.iface 94 (.pointer (some ⟨s, 0, none⟩)))] w fun en w' => ∃ v, v = .nilIface ∧ en = .returned v ∧ Tch (fun j => j = s) w w' := by
  have H := Aside0.mk (prs_ok h hE hS2 hn (some q))
  clear h hE
  go_enter Tryd.func59, Tryd.ntmps59
  go_wp2_with (go_at_call 116; (with_reducible refine H.out.mono ?_); rintro en w1 ⟨v, hv, rfl, hT⟩; have V1 := Aside0.mk hv; have T1 := Aside0.mk hT; clear hv hT)
  go_ret
  exact ⟨v, V1.out, rfl, T1.out⟩
set_option maxRecDepth 100000 in
theorem zp_bad {w : World} {d s : Nat} {A : Option Addr} {c : Nat} {split : Int} {aE aU : Addr} {x y z : Int} {t : List Int} {S : ByteArray} (h : Src w d s A c (x :: y :: z :: t) split) (hE : Env w d aE aU) (hS2 : strOfNums [x, y, z] = S) (hn : (S.toList == ([80, 71, 80] : List UInt8)) = false) (q : Addr) :
    Calls Tryd.prog 59 #[.iface 143 (.pointer (some q)), (.iface 94 (.pointer (some ⟨s, 0, none⟩)))] w fun en w' => ∃ v, (∃ m, v = .iface 168 (.string m)) ∧ en = .returned v ∧ Tch (fun j => j = s) w w' := by
  have H := Aside0.mk (prs_bad h hE hS2 hn (some q))
  clear h hE
  go_enter Tryd.func59, Tryd.ntmps59
  go_wp2_with (go_at_call 116; (with_reducible refine H.out.mono ?_); rintro en w1 ⟨v, hv, rfl, hT⟩; have V1 := Aside0.mk hv; have T1 := Aside0.mk hT; clear hv hT)
  go_ret
  exact ⟨v, V1.out, rfl, T1.out⟩
/-- A new marker, a new source. -/
theorem Env.up {w : World} {d d' : Nat} {aE aU : Addr} (h : Env w d aE aU) (hd : d ≤ d') : Env w d' aE aU :=
  { h with
    de := Nat.lt_of_lt_of_le h.de hd
    du := Nat.lt_of_lt_of_le h.du hd
    ge := Nat.lt_of_lt_of_le h.ge hd
    gu := Nat.lt_of_lt_of_le h.gu hd }
theorem src2 {w : World} {A : Option Addr} {c : Nat} {l : List Int} {aE aU : Addr} (hr : C8 w A l) (hc : l.length ≤ c) (hb : Bytes l) (hE : Env w w.heap.size aE aU) :
    Src ((w.alloc (.cells #[] 145)).alloc (.cells #[.slice A l.length c, .int .i64 0] 96)) (w.heap.size + 1) (w.heap.size + 1) A c l 0 ∧ Env ((w.alloc (.cells #[] 145)).alloc (.cells #[.slice A l.length c, .int .i64 0] 96)) (w.heap.size + 1) aE aU ∧ Below w.heap.size w ((w.alloc (.cells #[] 145)).alloc (.cells #[.slice A l.length c, .int .i64 0] 96)) := by
  have hB : Below w.heap.size w (w.alloc (.cells #[] 145)) := below_alloc (Below.refl _ _) _
  have hz : (w.alloc (.cells #[] 145)).heap.size = w.heap.size + 1 := by simp
  obtain ⟨W, eW, hS, hB2⟩ := src_new (w := w.alloc (.cells #[] 145)) 0 (Kd.C_below hr hB) hc hb
  subst eW
  rw [hz] at hS
  have hB3 := below_then hB hB.size hB2
  exact ⟨hS, (hE.below hB3).up (Nat.le_succ _), hB3⟩
set_option maxRecDepth 100000 in
theorem rm_eof {w : World} {A : Option Addr} {c : Nat} {aE aU : Addr}  (hr : C8 w A ([])) (hc : (([]) : List Int).length ≤ c) (hb : Bytes ([])) (hE : Env w w.heap.size aE aU)  {n : Nat} (hnn : n = (([]) : List Int).length) :
    Calls Tryd.prog 35 #[.slice A n c] w fun en w' => en = .returned (.int .i64 1) ∧ Below w.heap.size w w' := by
  have H := Aside0.mk (src2 hr hc hb hE)
  rw [← hnn] at H
  have HZ := Aside0.mk (zp_eof H.out.1 H.out.2.1  ⟨w.heap.size, 0, none⟩)
  clear hr hb hE hc hnn
  go_enter Tryd.func35, Tryd.ntmps35
  go_wp2_with (first | (go_at_call 59; refine HZ.out.mono ?_; rintro en w1 ⟨v, hv, rfl, hT⟩; subst hv; have E1 := Aside0.mk (H.out.2.1.kept hT (fun k e => by subst e; exact Nat.le_refl _)); have B1 := Aside0.mk (hT.below H.out.2.2 H.out.2.2.size (fun k e => by subst e; exact Nat.le_succ _)); clear hT) | (go_at_call 46; (with_reducible refine (end_eof E1.out).mono ?_); rintro en w2 ⟨rfl, rfl⟩))
  go_ret
  exact ⟨rfl, B1.out⟩
set_option maxRecDepth 100000 in
theorem rm_cut {w : World} {A : Option Addr} {c : Nat} {aE aU : Addr} {l : List Int} (hr : C8 w A (l)) (hc : ((l) : List Int).length ≤ c) (hb : Bytes (l)) (hE : Env w w.heap.size aE aU) (hl : 0 < l.length) (hl3 : l.length < 3) {n : Nat} (hnn : n = ((l) : List Int).length) :
    Calls Tryd.prog 35 #[.slice A n c] w fun en w' => en = .returned (.int .i64 2) ∧ Below w.heap.size w w' := by
  have H := Aside0.mk (src2 hr hc hb hE)
  rw [← hnn] at H
  have HZ := Aside0.mk (zp_cut H.out.1 H.out.2.1 hl hl3 ⟨w.heap.size, 0, none⟩)
  clear hr hb hE hc hnn
  go_enter Tryd.func35, Tryd.ntmps35
  go_wp2_with (first | (go_at_call 59; refine HZ.out.mono ?_; rintro en w1 ⟨v, hv, rfl, hT⟩; subst hv; have E1 := Aside0.mk (H.out.2.1.kept hT (fun k e => by subst e; exact Nat.le_refl _)); have B1 := Aside0.mk (hT.below H.out.2.2 H.out.2.2.size (fun k e => by subst e; exact Nat.le_succ _)); clear hT) | (go_at_call 46; (with_reducible refine (end_cut E1.out).mono ?_); rintro en w2 ⟨rfl, rfl⟩))
  go_ret
  exact ⟨rfl, B1.out⟩
set_option maxRecDepth 100000 in
theorem rm_ok {w : World} {A : Option Addr} {c : Nat} {aE aU : Addr} {x y z : Int} {t : List Int} {S : ByteArray} (hr : C8 w A (x :: y :: z :: t)) (hc : ((x :: y :: z :: t) : List Int).length ≤ c) (hb : Bytes (x :: y :: z :: t)) (hE : Env w w.heap.size aE aU) (hS2 : strOfNums [x, y, z] = S) (hn : (S.toList == ([80, 71, 80] : List UInt8)) = true) {n : Nat} (hnn : n = ((x :: y :: z :: t) : List Int).length) :
    Calls Tryd.prog 35 #[.slice A n c] w fun en w' => en = .returned (.int .i64 0) ∧ Below w.heap.size w w' := by
  have H := Aside0.mk (src2 hr hc hb hE)
  rw [← hnn] at H
  have HZ := Aside0.mk (zp_ok H.out.1 H.out.2.1 hS2 hn ⟨w.heap.size, 0, none⟩)
  clear hr hb hE hc hnn
  go_enter Tryd.func35, Tryd.ntmps35
  go_wp2_with (first | (go_at_call 59; refine HZ.out.mono ?_; rintro en w1 ⟨v, hv, rfl, hT⟩; subst hv; have E1 := Aside0.mk (H.out.2.1.kept hT (fun k e => by subst e; exact Nat.le_refl _)); have B1 := Aside0.mk (hT.below H.out.2.2 H.out.2.2.size (fun k e => by subst e; exact Nat.le_succ _)); clear hT) | (go_at_call 46; (with_reducible refine (end_nil _).mono ?_); rintro en w2 ⟨rfl, rfl⟩))
  go_ret
  exact ⟨rfl, B1.out⟩
set_option maxRecDepth 100000 in
theorem rm_bad {w : World} {A : Option Addr} {c : Nat} {aE aU : Addr} {x y z : Int} {t : List Int} {S : ByteArray} (hr : C8 w A (x :: y :: z :: t)) (hc : ((x :: y :: z :: t) : List Int).length ≤ c) (hb : Bytes (x :: y :: z :: t)) (hE : Env w w.heap.size aE aU) (hS2 : strOfNums [x, y, z] = S) (hn : (S.toList == ([80, 71, 80] : List UInt8)) = false) {n : Nat} (hnn : n = ((x :: y :: z :: t) : List Int).length) :
    Calls Tryd.prog 35 #[.slice A n c] w fun en w' => en = .returned (.int .i64 3) ∧ Below w.heap.size w w' := by
  have H := Aside0.mk (src2 hr hc hb hE)
  rw [← hnn] at H
  have HZ := Aside0.mk (zp_bad H.out.1 H.out.2.1 hS2 hn ⟨w.heap.size, 0, none⟩)
  clear hr hb hE hc hnn
  go_enter Tryd.func35, Tryd.ntmps35
  go_wp2_with (first | (go_at_call 59; refine HZ.out.mono ?_; rintro en w1 ⟨v, hv, rfl, hT⟩; obtain ⟨m, rfl⟩ := hv; have E1 := Aside0.mk (H.out.2.1.kept hT (fun k e => by subst e; exact Nat.le_refl _)); have B1 := Aside0.mk (hT.below H.out.2.2 H.out.2.2.size (fun k e => by subst e; exact Nat.le_succ _)); clear hT) | (go_at_call 46; (with_reducible refine (end_form E1.out _).mono ?_); rintro en w2 ⟨rfl, rfl⟩))
  go_ret
  exact ⟨rfl, B1.out⟩
end Go.Proofs.YtfhefoaieefnkaaDoor.Rd
