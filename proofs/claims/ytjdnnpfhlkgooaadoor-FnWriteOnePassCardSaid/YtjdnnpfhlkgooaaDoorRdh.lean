/- packet.readHeader over impl.source. -/
import Derived.Test.YtjdnnpfhlkgooaaDoorBdy
set_option linter.unusedVariables false
set_option linter.unusedSimpArgs false
namespace Go.Proofs.YtjdnnpfhlkgooaaDoor.Rd
open Go.RowKit Go.Proofs.YtjdnnpfhlkgooaaDoorW.PrintWords Go.Proofs.YtjdnnpfhlkgooaaDoorW.PrintMore Go.Proofs.YtjdnnpfhlkgooaaDoor.Kit

theorem and128 : ∀ n : Nat, n < 256 → Go.bits .and .u8 (n : Int) 128 = if n < 128 then 0 else 128 := by decide +kernel
theorem and64 : ∀ n : Nat, n < 256 → 128 ≤ n → Go.bits .and .u8 (n : Int) 64 = if n < 192 then 0 else 64 := by decide +kernel
theorem and63 : ∀ n : Nat, n < 256 → Go.bits .and .u8 (n : Int) 63 = ((n % 64 : Nat) : Int) := by decide +kernel
theorem and3 : ∀ n : Nat, n < 256 → Go.bits .and .u8 (n : Int) 3 = ((n % 4 : Nat) : Int) := by decide +kernel
/-- The header cannot be read: the error. -/
def HdNo (w : World) (d s : Nat) (split : Int) (er : Value) (en : Ending) (w' : World) : Prop :=
  ∃ tg n, en = .returned (.tuple #[.int .u8 tg, .int .i64 n, .nilIface, er]) ∧ (∃ A' c' L, Src w' d s A' c' L split) ∧ Tch (fun j => j = s) w w'
/-- It is read: the tag, the length that it tells, the body. -/
def HdOk (w : World) (d s : Nat) (split tg n : Int) (bd : List Int) (ok : Bool) (rest : List Int) (en : Ending) (w' : World) : Prop :=
  ∃ v b, en = .returned (.tuple #[.int .u8 tg, .int .i64 n, v, .nilIface]) ∧ Bdy w' d s b split v bd ok rest ∧ (b = s ∨ w.heap.size ≤ b) ∧ Tch (fun j => j = s) w w'
set_option maxHeartbeats 1600000 in
set_option maxRecDepth 100000 in
theorem rh_eof {w : World} {d s : Nat} {A : Option Addr} {c : Nat} {split : Int} {aE aU : Addr}  (h : Src w d s A c ([]) split) (hE : Env w d aE aU)  :
    Calls Tryd.prog 54 #[(.iface 88 (.pointer (some ⟨s, 0, none⟩)))] w (HdNo w d s split (.iface 209 (.pointer (some aE)))) := by
  obtain ⟨W, eW, hR0, hB0⟩ := buf4 w
  have H0 := Aside0.mk (h.below hB0)
  have E0 := Aside0.mk (hE.below hB0)
  have R0 := Aside0.mk hR0
  have B0 := Aside0.mk hB0
  have gs : w.heap.size ≠ s := by have := h.lt; omega
  have gd : d ≤ w.heap.size := by have := h.lt; have := h.ds; omega
  have ds := h.ds
  have sl := h.lt
  clear h hE hR0 hB0
  go_enter Tryd.func54, Tryd.ntmps54
  go_upto_region 2 with (fail)
  clear eW
  obtain ⟨g, eg⟩ : ∃ g, w.heap.size = g := ⟨_, rfl⟩
  have EG := Aside0.mk eg
  rw [eg] at gs gd sl R0 ⊢
  clear eg
  go_wp2_with fail
  refine (full_calls H0.out E0.out R0.out (show 0 + 1 ≤ 4 by omega) (show 1 ≤ 4 by omega) (by omega) gs gd).mono ?_
  rintro en w1 ⟨k, e1, rfl, hS, hR, hT⟩
  have hE1 := E0.out.kept hT (fun j q => by rcases q with q | q <;> subst q <;> assumption)
  have e0 := hE1.e
  have u0 := hE1.u
  have ek : k = 0 := by rw [e1]; simp
  subst ek
  rw [if_neg (show ¬ (0 : Nat) = 1 by omega), if_pos rfl]
  obtain ⟨A1, c1, hs⟩ := hS
  have S1 := Aside0.mk (show Src w1 d s A1 c1 [] split from hs)
  have T1 := Aside0.mk hT
  clear hs hR hT e1 hE1
  go_wp2_with fail
  refine bodyPost_ret (results_list (rs := [.tmp 2, .tmp 3, .tmp 4, .tmp 5]) rfl (by simp) (.tmp (.tmp (.tmp (.tmp .nil))))) rfl ?_
  have TB : Tch (fun j => j = g ∨ j = s) w W := Tch.of_below (by have := B0.out; exact this)
  exact ⟨_, _, rfl, ⟨_, _, _, S1.out⟩, tch_drop0 (TB.trans T1.out) EG.out⟩
set_option maxHeartbeats 1600000 in
set_option maxRecDepth 100000 in
theorem rh_bad {w : World} {d s : Nat} {A : Option Addr} {c : Nat} {split : Int} {aE aU : Addr} {b : Int} {t : List Int} (h : Src w d s A c (b :: t) split) (hE : Env w d aE aU) (hb : b < 128) :
    Calls Tryd.prog 54 #[(.iface 88 (.pointer (some ⟨s, 0, none⟩)))] w (fun en w' => ∃ m, HdNo w d s split (.iface 130 (.string m)) en w') := by
  obtain ⟨n, rfl⟩ := Int.eq_ofNat_of_zero_le (h.by_ 0).1
  have nz : (n : Int) ≤ 255 := (h.by_ 0).2
  have n8 : n < 256 := by omega
  have a1 : Go.bits .and .u8 (n : Int) 128 = 0 := by rw [and128 n n8, if_pos (by omega)]
  obtain ⟨W, eW, hR0, hB0⟩ := buf4 w
  have H0 := Aside0.mk (h.below hB0)
  have E0 := Aside0.mk (hE.below hB0)
  have R0 := Aside0.mk hR0
  have B0 := Aside0.mk hB0
  have gs : w.heap.size ≠ s := by have := h.lt; omega
  have gd : d ≤ w.heap.size := by have := h.lt; have := h.ds; omega
  have ds := h.ds
  have sl := h.lt
  clear h hE hR0 hB0
  go_enter Tryd.func54, Tryd.ntmps54
  go_upto_region 2 with (fail)
  clear eW
  obtain ⟨g, eg⟩ : ∃ g, w.heap.size = g := ⟨_, rfl⟩
  have EG := Aside0.mk eg
  rw [eg] at gs gd sl R0 ⊢
  clear eg
  go_wp2_with fail
  refine (full_calls H0.out E0.out R0.out (show 0 + 1 ≤ 4 by omega) (show 1 ≤ 4 by omega) (by omega) gs gd).mono ?_
  rintro en w1 ⟨k, e1, rfl, hS, hR, hT⟩
  have hE1 := E0.out.kept hT (fun j q => by rcases q with q | q <;> subst q <;> assumption)
  have e0 := hE1.e
  have u0 := hE1.u
  have ek : k = 1 := by rw [e1]; simp
  subst ek
  rw [if_pos rfl]
  rw [show ([0, 0, 0, 0] : List Int).take 0 ++ (((n : Int) :: t).take 1 ++ ([0, 0, 0, 0] : List Int).drop (0 + 1)) = [(n : Int), 0, 0, 0] from rfl] at hR
  have fy : w1.cell? ⟨g, 0, none⟩ = some (.int .u8 (n : Int)) := (Kd.R_celln (0 : Int) (h1 := fun _ => rfl) (enc := Value.int .u8) hR (0 : Int) (by decide) (by decide)).1
  have T1 := Aside0.mk hT
  have R1 := Aside0.mk hR
  obtain ⟨A1, c1, hs⟩ := hS
  have S1 := Aside0.mk (show Src w1 d s A1 c1 t split from hs)
  have E1 := Aside0.mk hE1
  clear hs hR hT e1 hE1
  go_wp2_with fail
  refine bodyPost_ret (results_list (rs := [.tmp 2, .tmp 3, .tmp 4, .tmp 5]) rfl (by simp) (.tmp (.tmp (.tmp (.tmp .nil))))) rfl ?_
  have TB : Tch (fun j => j = g ∨ j = s) w W := Tch.of_below (by have := B0.out; exact this)
  exact ⟨_, _, _, rfl, ⟨_, _, _, S1.out⟩, tch_drop0 (TB.trans T1.out) EG.out⟩
set_option maxHeartbeats 1600000 in
set_option maxRecDepth 100000 in
theorem rh_all {w : World} {d s : Nat} {A : Option Addr} {c : Nat} {split : Int} {aE aU : Addr} {b : Int} {t : List Int} (h : Src w d s A c (b :: t) split) (hE : Env w d aE aU) (hb : 128 ≤ b) (hb2 : b < 192) (hk : b % 4 = 3) :
    Calls Tryd.prog 54 #[(.iface 88 (.pointer (some ⟨s, 0, none⟩)))] w (HdOk w d s split (b % 64 / 4) (-1) t true []) := by
  obtain ⟨n, rfl⟩ := Int.eq_ofNat_of_zero_le (h.by_ 0).1
  have nz : (n : Int) ≤ 255 := (h.by_ 0).2
  have n8 : n < 256 := by omega
  have a1 : Go.bits .and .u8 (n : Int) 128 = 128 := by rw [and128 n n8, if_neg (by omega)]
  have a2 : Go.bits .and .u8 (n : Int) 64 = 0 := by rw [and64 n n8 (by omega), if_pos (by omega)]
  have a3 := and63 n n8
  have a4 := and3 n n8
  have a5 : n % 4 = 3 := by omega
  rw [a5] at a4
  obtain ⟨W, eW, hR0, hB0⟩ := buf4 w
  have H0 := Aside0.mk (h.below hB0)
  have E0 := Aside0.mk (hE.below hB0)
  have R0 := Aside0.mk hR0
  have B0 := Aside0.mk hB0
  have gs : w.heap.size ≠ s := by have := h.lt; omega
  have gd : d ≤ w.heap.size := by have := h.lt; have := h.ds; omega
  have ds := h.ds
  have sl := h.lt
  clear h hE hR0 hB0
  go_enter Tryd.func54, Tryd.ntmps54
  go_upto_region 2 with (fail)
  clear eW
  obtain ⟨g, eg⟩ : ∃ g, w.heap.size = g := ⟨_, rfl⟩
  have EG := Aside0.mk eg
  rw [eg] at gs gd sl R0 ⊢
  clear eg
  go_wp2_with fail
  refine (full_calls H0.out E0.out R0.out (show 0 + 1 ≤ 4 by omega) (show 1 ≤ 4 by omega) (by omega) gs gd).mono ?_
  rintro en w1 ⟨k, e1, rfl, hS, hR, hT⟩
  have hE1 := E0.out.kept hT (fun j q => by rcases q with q | q <;> subst q <;> assumption)
  have e0 := hE1.e
  have u0 := hE1.u
  have ek : k = 1 := by rw [e1]; simp
  subst ek
  rw [if_pos rfl]
  rw [show ([0, 0, 0, 0] : List Int).take 0 ++ (((n : Int) :: t).take 1 ++ ([0, 0, 0, 0] : List Int).drop (0 + 1)) = [(n : Int), 0, 0, 0] from rfl] at hR
  have fy : w1.cell? ⟨g, 0, none⟩ = some (.int .u8 (n : Int)) := (Kd.R_celln (0 : Int) (h1 := fun _ => rfl) (enc := Value.int .u8) hR (0 : Int) (by decide) (by decide)).1
  have T1 := Aside0.mk hT
  have R1 := Aside0.mk hR
  obtain ⟨A1, c1, hs⟩ := hS
  have S1 := Aside0.mk (show Src w1 d s A1 c1 t split from hs)
  have E1 := Aside0.mk hE1
  clear hs hR hT e1 hE1
  go_wp2_with fail
  refine bodyPost_ret (results_list (rs := [.tmp 2, .tmp 3, .tmp 4, .tmp 5]) rfl (by simp) (.tmp (.tmp (.tmp (.tmp .nil))))) rfl ?_
  have TB : Tch (fun j => j = g ∨ j = s) w W := Tch.of_below (by have := B0.out; exact this)
  exact ⟨_, s, rfl, .inl ⟨rfl, rfl, rfl, rfl, _, _, S1.out⟩, .inl rfl, tch_drop0 (TB.trans T1.out) EG.out⟩
set_option maxHeartbeats 1600000 in
set_option maxRecDepth 100000 in
theorem rh_newno {w : World} {d s : Nat} {A : Option Addr} {c : Nat} {split : Int} {aE aU : Addr} {b : Int} {t : List Int} (h : Src w d s A c (b :: t) split) (hE : Env w d aE aU) (hb : 192 ≤ b) (hr : rdl t = none) :
    Calls Tryd.prog 54 #[(.iface 88 (.pointer (some ⟨s, 0, none⟩)))] w (HdNo w d s split (.iface 209 (.pointer (some aU)))) := by
  obtain ⟨n, rfl⟩ := Int.eq_ofNat_of_zero_le (h.by_ 0).1
  have nz : (n : Int) ≤ 255 := (h.by_ 0).2
  have n8 : n < 256 := by omega
  have a1 : Go.bits .and .u8 (n : Int) 128 = 128 := by rw [and128 n n8, if_neg (by omega)]
  have a2 : Go.bits .and .u8 (n : Int) 64 = 64 := by rw [and64 n n8 (by omega), if_neg (by omega)]
  have a3 := and63 n n8
  obtain ⟨W, eW, hR0, hB0⟩ := buf4 w
  have H0 := Aside0.mk (h.below hB0)
  have E0 := Aside0.mk (hE.below hB0)
  have R0 := Aside0.mk hR0
  have B0 := Aside0.mk hB0
  have gs : w.heap.size ≠ s := by have := h.lt; omega
  have gd : d ≤ w.heap.size := by have := h.lt; have := h.ds; omega
  have ds := h.ds
  have sl := h.lt
  have HR := Aside0.mk hr
  clear h hE hR0 hB0 hr
  go_enter Tryd.func54, Tryd.ntmps54
  go_upto_region 2 with (fail)
  clear eW
  obtain ⟨g, eg⟩ : ∃ g, w.heap.size = g := ⟨_, rfl⟩
  have EG := Aside0.mk eg
  rw [eg] at gs gd sl R0 ⊢
  clear eg
  go_wp2_with fail
  refine (full_calls H0.out E0.out R0.out (show 0 + 1 ≤ 4 by omega) (show 1 ≤ 4 by omega) (by omega) gs gd).mono ?_
  rintro en w1 ⟨k, e1, rfl, hS, hR, hT⟩
  have hE1 := E0.out.kept hT (fun j q => by rcases q with q | q <;> subst q <;> assumption)
  have e0 := hE1.e
  have u0 := hE1.u
  have ek : k = 1 := by rw [e1]; simp
  subst ek
  rw [if_pos rfl]
  rw [show ([0, 0, 0, 0] : List Int).take 0 ++ (((n : Int) :: t).take 1 ++ ([0, 0, 0, 0] : List Int).drop (0 + 1)) = [(n : Int), 0, 0, 0] from rfl] at hR
  have fy : w1.cell? ⟨g, 0, none⟩ = some (.int .u8 (n : Int)) := (Kd.R_celln (0 : Int) (h1 := fun _ => rfl) (enc := Value.int .u8) hR (0 : Int) (by decide) (by decide)).1
  have T1 := Aside0.mk hT
  have R1 := Aside0.mk hR
  obtain ⟨A1, c1, hs⟩ := hS
  have S1 := Aside0.mk (show Src w1 d s A1 c1 t split from hs)
  have E1 := Aside0.mk hE1
  clear hs hR hT e1 hE1
  go_wp2_with fail
  refine (rl_no S1.out E1.out HR.out).mono ?_
  rintro en w2 ⟨n1, q1, rfl, ⟨A2, c2, hS2⟩, hT2, hN1, hN2⟩
  have S2 := Aside0.mk hS2
  have T2 := Aside0.mk hT2
  clear e0 u0 fy hS2 hT2
  go_wp2_with fail
  refine bodyPost_ret (results_list (rs := [.tmp 2, .tmp 3, .tmp 4, .tmp 5]) rfl (by simp) (.tmp (.tmp (.tmp (.tmp .nil))))) rfl ?_
  have TB : Tch (fun j => j = g ∨ j = s) w W := Tch.of_below (by have := B0.out; exact this)
  exact ⟨_, _, rfl, ⟨_, _, _, S2.out⟩, tch_drop0 (TB.trans (T1.out.trans (T2.out.mono (fun j q => .inr q)))) EG.out⟩
set_option maxHeartbeats 1600000 in
set_option maxRecDepth 100000 in
theorem rh_span {w : World} {d s : Nat} {A : Option Addr} {c : Nat} {split : Int} {aE aU : Addr} {b m : Int} {t t' : List Int} (h : Src w d s A c (b :: t) split) (hE : Env w d aE aU) (hb : 192 ≤ b) (hr : rdl t = some (m, false, t')) :
    Calls Tryd.prog 54 #[(.iface 88 (.pointer (some ⟨s, 0, none⟩)))] w (HdOk w d s split (b % 64) m (t'.take m.toNat) (decide (m.toNat ≤ t'.length)) (t'.drop m.toNat)) := by
  obtain ⟨n, rfl⟩ := Int.eq_ofNat_of_zero_le (h.by_ 0).1
  have nz : (n : Int) ≤ 255 := (h.by_ 0).2
  have n8 : n < 256 := by omega
  have a1 : Go.bits .and .u8 (n : Int) 128 = 128 := by rw [and128 n n8, if_neg (by omega)]
  have a2 : Go.bits .and .u8 (n : Int) 64 = 64 := by rw [and64 n n8 (by omega), if_neg (by omega)]
  have a3 := and63 n n8
  obtain ⟨W, eW, hR0, hB0⟩ := buf4 w
  have H0 := Aside0.mk (h.below hB0)
  have E0 := Aside0.mk (hE.below hB0)
  have R0 := Aside0.mk hR0
  have B0 := Aside0.mk hB0
  have gs : w.heap.size ≠ s := by have := h.lt; omega
  have gd : d ≤ w.heap.size := by have := h.lt; have := h.ds; omega
  have ds := h.ds
  have sl := h.lt
  have HR := Aside0.mk hr
  have hN := rdl_bound hr (fun i => by simpa using h.by_ (i + 1))
  obtain ⟨m1, rfl⟩ := Int.eq_ofNat_of_zero_le hN.1
  clear h hE hR0 hB0 hr
  go_enter Tryd.func54, Tryd.ntmps54
  go_upto_region 2 with (fail)
  clear eW
  obtain ⟨g, eg⟩ : ∃ g, w.heap.size = g := ⟨_, rfl⟩
  have EG := Aside0.mk eg
  rw [eg] at gs gd sl R0 ⊢
  clear eg
  go_wp2_with fail
  refine (full_calls H0.out E0.out R0.out (show 0 + 1 ≤ 4 by omega) (show 1 ≤ 4 by omega) (by omega) gs gd).mono ?_
  rintro en w1 ⟨k, e1, rfl, hS, hR, hT⟩
  have hE1 := E0.out.kept hT (fun j q => by rcases q with q | q <;> subst q <;> assumption)
  have e0 := hE1.e
  have u0 := hE1.u
  have ek : k = 1 := by rw [e1]; simp
  subst ek
  rw [if_pos rfl]
  rw [show ([0, 0, 0, 0] : List Int).take 0 ++ (((n : Int) :: t).take 1 ++ ([0, 0, 0, 0] : List Int).drop (0 + 1)) = [(n : Int), 0, 0, 0] from rfl] at hR
  have fy : w1.cell? ⟨g, 0, none⟩ = some (.int .u8 (n : Int)) := (Kd.R_celln (0 : Int) (h1 := fun _ => rfl) (enc := Value.int .u8) hR (0 : Int) (by decide) (by decide)).1
  have T1 := Aside0.mk hT
  have R1 := Aside0.mk hR
  obtain ⟨A1, c1, hs⟩ := hS
  have S1 := Aside0.mk (show Src w1 d s A1 c1 t split from hs)
  have E1 := Aside0.mk hE1
  clear hs hR hT e1 hE1
  go_wp2_with fail
  refine (rl_ok S1.out E1.out HR.out).mono ?_
  rintro en w2 ⟨rfl, ⟨A2, c2, hS2⟩, hT2⟩
  have S2 := Aside0.mk hS2
  have T2 := Aside0.mk hT2
  have M2 := hN.2
  have W2 := T1.out.size
  have Z2 := T2.out.size
  have ZB := B0.out.size
  clear e0 u0 fy hS2 hT2 hN
  go_wp2_with fail
  refine bodyPost_ret (results_list (rs := [.tmp 2, .tmp 3, .tmp 4, .tmp 5]) rfl (by simp) (.tmp (.tmp (.tmp (.tmp .nil))))) rfl ?_
  have TB : Tch (fun j => j = g ∨ j = s) w W := Tch.of_below (by have := B0.out; exact this)
  have hb := heap_alloc_new w2 (.cells #[(.iface 88 (.pointer (some ⟨s, 0, none⟩))), .int .i64 (m1 : Int)] 159)
  have hB3 : Below w2.heap.size w2 (w2.alloc (.cells #[(.iface 88 (.pointer (some ⟨s, 0, none⟩))), .int .i64 (m1 : Int)] 159)) := below_alloc (Below.refl _ _) _
  have ne : w2.heap.size ≠ s := by have := S2.out.lt; omega
  have hT3 : Tch (fun j => j = g ∨ j = s) w (w2.alloc (.cells #[(.iface 88 (.pointer (some ⟨s, 0, none⟩))), .int .i64 (m1 : Int)] 159)) := (TB.trans (T1.out.trans (T2.out.mono (fun j q => .inr q)))).trans (Tch.of_below hB3)
  have eg := EG.out
  refine ⟨_, w2.heap.size, rfl, .inr (.inl ⟨rfl, by omega, m1, _, _, t', S2.out.below hB3, ⟨(cell_of_row _ _ 0 _ _ _ hb).trans rfl, (cell_of_row _ _ 1 _ _ _ hb).trans rfl, frozen_of_row _ _ 1 _ _ hb, ne⟩, by omega, ?_, ?_, ?_⟩), .inr (by omega), tch_drop0 hT3 eg⟩
  all_goals simp
set_option maxHeartbeats 1600000 in
set_option maxRecDepth 100000 in
theorem rh_part {w : World} {d s : Nat} {A : Option Addr} {c : Nat} {split : Int} {aE aU : Addr} {b m : Int} {t t' : List Int} {bd rest : List Int} {ok : Bool} (h : Src w d s A c (b :: t) split) (hE : Env w d aE aU) (hb : 192 ≤ b) (hr : rdl t = some (m, true, t')) (hpa : Parts m.toNat true t' bd ok rest) :
    Calls Tryd.prog 54 #[(.iface 88 (.pointer (some ⟨s, 0, none⟩)))] w (HdOk w d s split (b % 64) (-1) bd ok rest) := by
  obtain ⟨n, rfl⟩ := Int.eq_ofNat_of_zero_le (h.by_ 0).1
  have nz : (n : Int) ≤ 255 := (h.by_ 0).2
  have n8 : n < 256 := by omega
  have a1 : Go.bits .and .u8 (n : Int) 128 = 128 := by rw [and128 n n8, if_neg (by omega)]
  have a2 : Go.bits .and .u8 (n : Int) 64 = 64 := by rw [and64 n n8 (by omega), if_neg (by omega)]
  have a3 := and63 n n8
  obtain ⟨W, eW, hR0, hB0⟩ := buf4 w
  have H0 := Aside0.mk (h.below hB0)
  have E0 := Aside0.mk (hE.below hB0)
  have R0 := Aside0.mk hR0
  have B0 := Aside0.mk hB0
  have gs : w.heap.size ≠ s := by have := h.lt; omega
  have gd : d ≤ w.heap.size := by have := h.lt; have := h.ds; omega
  have ds := h.ds
  have sl := h.lt
  have HR := Aside0.mk hr
  have hN := rdl_bound hr (fun i => by simpa using h.by_ (i + 1))
  obtain ⟨m1, rfl⟩ := Int.eq_ofNat_of_zero_le hN.1
  rw [Int.toNat_natCast] at hpa
  have PA := Aside0.mk hpa
  clear hpa
  clear h hE hR0 hB0 hr
  go_enter Tryd.func54, Tryd.ntmps54
  go_upto_region 2 with (fail)
  clear eW
  obtain ⟨g, eg⟩ : ∃ g, w.heap.size = g := ⟨_, rfl⟩
  have EG := Aside0.mk eg
  rw [eg] at gs gd sl R0 ⊢
  clear eg
  go_wp2_with fail
  refine (full_calls H0.out E0.out R0.out (show 0 + 1 ≤ 4 by omega) (show 1 ≤ 4 by omega) (by omega) gs gd).mono ?_
  rintro en w1 ⟨k, e1, rfl, hS, hR, hT⟩
  have hE1 := E0.out.kept hT (fun j q => by rcases q with q | q <;> subst q <;> assumption)
  have e0 := hE1.e
  have u0 := hE1.u
  have ek : k = 1 := by rw [e1]; simp
  subst ek
  rw [if_pos rfl]
  rw [show ([0, 0, 0, 0] : List Int).take 0 ++ (((n : Int) :: t).take 1 ++ ([0, 0, 0, 0] : List Int).drop (0 + 1)) = [(n : Int), 0, 0, 0] from rfl] at hR
  have fy : w1.cell? ⟨g, 0, none⟩ = some (.int .u8 (n : Int)) := (Kd.R_celln (0 : Int) (h1 := fun _ => rfl) (enc := Value.int .u8) hR (0 : Int) (by decide) (by decide)).1
  have T1 := Aside0.mk hT
  have R1 := Aside0.mk hR
  obtain ⟨A1, c1, hs⟩ := hS
  have S1 := Aside0.mk (show Src w1 d s A1 c1 t split from hs)
  have E1 := Aside0.mk hE1
  clear hs hR hT e1 hE1
  go_wp2_with fail
  refine (rl_ok S1.out E1.out HR.out).mono ?_
  rintro en w2 ⟨rfl, ⟨A2, c2, hS2⟩, hT2⟩
  have S2 := Aside0.mk hS2
  have T2 := Aside0.mk hT2
  have M2 := hN.2
  have W2 := T1.out.size
  have Z2 := T2.out.size
  have ZB := B0.out.size
  clear e0 u0 fy hS2 hT2 hN
  go_wp2_with fail
  refine bodyPost_ret (results_list (rs := [.tmp 2, .tmp 3, .tmp 4, .tmp 5]) rfl (by simp) (.tmp (.tmp (.tmp (.tmp .nil))))) rfl ?_
  have TB : Tch (fun j => j = g ∨ j = s) w W := Tch.of_below (by have := B0.out; exact this)
  have hb := heap_alloc_new w2 (.cells #[(.iface 88 (.pointer (some ⟨s, 0, none⟩))), .int .i64 (m1 : Int), .bool true] 164)
  have hB3 : Below w2.heap.size w2 (w2.alloc (.cells #[(.iface 88 (.pointer (some ⟨s, 0, none⟩))), .int .i64 (m1 : Int), .bool true] 164)) := below_alloc (Below.refl _ _) _
  have ne : w2.heap.size ≠ s := by have := S2.out.lt; omega
  have hT3 : Tch (fun j => j = g ∨ j = s) w (w2.alloc (.cells #[(.iface 88 (.pointer (some ⟨s, 0, none⟩))), .int .i64 (m1 : Int), .bool true] 164)) := (TB.trans (T1.out.trans (T2.out.mono (fun j q => .inr q)))).trans (Tch.of_below hB3)
  have eg := EG.out
  exact ⟨_, w2.heap.size, rfl, .inr (.inr ⟨rfl, by omega, m1, true, t', _, _, S2.out.below hB3, ⟨(cell_of_row _ _ 0 _ _ _ hb).trans rfl, (cell_of_row _ _ 1 _ _ _ hb).trans rfl, (cell_of_row _ _ 2 _ _ _ hb).trans rfl, frozen_of_row _ _ 1 _ _ hb, frozen_of_row _ _ 2 _ _ hb, ne⟩, by omega, PA.out⟩), .inr (by omega), tch_drop0 hT3 eg⟩
/-- The number of some bytes, the highest first. -/
def numB (l : List Int) : Int := l.foldl (fun a c => a * 256 + c) 0
def OldOk (w : World) (d s : Nat) (split b : Int) (t : List Int) (K : Nat) (en : Ending) (w' : World) : Prop :=
  HdOk w d s split (b % 64 / 4) (numB (t.take K)) ((t.drop K).take (numB (t.take K)).toNat) (decide ((numB (t.take K)).toNat ≤ (t.drop K).length)) ((t.drop K).drop (numB (t.take K)).toNat) en w'
theorem numB_snoc (l : List Int) (c : Int) : numB (l ++ [c]) = numB l * 256 + c := by simp [numB]
theorem numB_bound : ∀ {l : List Int} (k : Nat), (∀ x ∈ l, 0 ≤ x ∧ x ≤ 255) → l.length ≤ k → 0 ≤ numB l ∧ numB l < 256 ^ k := by
  intro l k hb hk
  have h : ∀ (l : List Int) (a : Int) (m : Nat), (∀ x ∈ l, 0 ≤ x ∧ x ≤ 255) → 0 ≤ a → a < 256 ^ m → 0 ≤ l.foldl (fun a c => a * 256 + c) a ∧ l.foldl (fun a c => a * 256 + c) a < 256 ^ (m + l.length) := by
    intro l
    induction l with
    | nil => intro a m _ h0 h1; exact ⟨h0, h1⟩
    | cons c t ih =>
      intro a m hb h0 h1
      have hc := hb c (List.mem_cons_self)
      have e : (256 : Int) ^ (m + 1) = 256 ^ m * 256 := Int.pow_succ _ _
      have := ih (a * 256 + c) (m + 1) (fun x hx => hb x (List.mem_cons_of_mem _ hx)) (by omega) (by rw [e]; omega)
      rw [List.foldl_cons, List.length_cons, show m + (t.length + 1) = m + 1 + t.length by omega]
      exact this
  obtain ⟨h1, h2⟩ := h l 0 0 hb (by decide) (by decide)
  refine ⟨h1, Int.lt_of_lt_of_le h2 ?_⟩
  have h3 := Int.ofNat_le.2 (show (256 : Nat) ^ (0 + l.length) ≤ 256 ^ k from Nat.pow_le_pow_right (by decide) (by omega))
  rw [Int.natCast_pow, Int.natCast_pow] at h3
  exact h3
theorem bytes_mem {l : List Int} (h : Bytes l) : ∀ x ∈ l, 0 ≤ x ∧ x ≤ 255 := by
  intro x hx
  obtain ⟨i, hi, rfl⟩ := List.getElem_of_mem hx
  have := h i
  rwa [List.getD_eq_getElem?_getD, List.getElem?_eq_getElem hi] at this
set_option maxHeartbeats 1600000 in
set_option maxRecDepth 100000 in
theorem rh_oldno1 {w : World} {d s : Nat} {A : Option Addr} {c : Nat} {split : Int} {aE aU : Addr} {b : Int} {t : List Int} (h : Src w d s A c (b :: t) split) (hE : Env w d aE aU) (hb : 128 ≤ b) (hb2 : b < 192) (hk : b % 4 = 0) (ht : t.length < 1) :
    Calls Tryd.prog 54 #[(.iface 88 (.pointer (some ⟨s, 0, none⟩)))] w (HdNo w d s split (.iface 209 (.pointer (some aU)))) := by
  obtain ⟨n, rfl⟩ := Int.eq_ofNat_of_zero_le (h.by_ 0).1
  have nz : (n : Int) ≤ 255 := (h.by_ 0).2
  have n8 : n < 256 := by omega
  have a1 : Go.bits .and .u8 (n : Int) 128 = 128 := by rw [and128 n n8, if_neg (by omega)]
  have a2 : Go.bits .and .u8 (n : Int) 64 = 0 := by rw [and64 n n8 (by omega), if_pos (by omega)]
  have a3 := and63 n n8
  have a4 := and3 n n8
  have a5 : n % 4 = 0 := by omega
  rw [a5] at a4
  obtain ⟨W, eW, hR0, hB0⟩ := buf4 w
  have H0 := Aside0.mk (h.below hB0)
  have E0 := Aside0.mk (hE.below hB0)
  have R0 := Aside0.mk hR0
  have B0 := Aside0.mk hB0
  have gs : w.heap.size ≠ s := by have := h.lt; omega
  have gd : d ≤ w.heap.size := by have := h.lt; have := h.ds; omega
  have ds := h.ds
  have sl := h.lt
  clear h hE hR0 hB0
  go_enter Tryd.func54, Tryd.ntmps54
  go_upto_region 2 with (fail)
  clear eW
  obtain ⟨g, eg⟩ : ∃ g, w.heap.size = g := ⟨_, rfl⟩
  have EG := Aside0.mk eg
  rw [eg] at gs gd sl R0 ⊢
  clear eg
  go_wp2_with fail
  refine (full_calls H0.out E0.out R0.out (show 0 + 1 ≤ 4 by omega) (show 1 ≤ 4 by omega) (by omega) gs gd).mono ?_
  rintro en w1 ⟨k, e1, rfl, hS, hR, hT⟩
  have hE1 := E0.out.kept hT (fun j q => by rcases q with q | q <;> subst q <;> assumption)
  have e0 := hE1.e
  have u0 := hE1.u
  have ek : k = 1 := by rw [e1]; simp
  subst ek
  rw [if_pos rfl]
  rw [show ([0, 0, 0, 0] : List Int).take 0 ++ (((n : Int) :: t).take 1 ++ ([0, 0, 0, 0] : List Int).drop (0 + 1)) = [(n : Int), 0, 0, 0] from rfl] at hR
  have fy : w1.cell? ⟨g, 0, none⟩ = some (.int .u8 (n : Int)) := (Kd.R_celln (0 : Int) (h1 := fun _ => rfl) (enc := Value.int .u8) hR (0 : Int) (by decide) (by decide)).1
  have T1 := Aside0.mk hT
  have R1 := Aside0.mk hR
  obtain ⟨A1, c1, hs⟩ := hS
  have S1 := Aside0.mk (show Src w1 d s A1 c1 t split from hs)
  have E1 := Aside0.mk hE1
  clear hs hR hT e1 hE1
  go_wp2_with fail
  refine (rfull_no S1.out E1.out R1.out (show 0 + 1 ≤ 4 by omega) (show 1 ≤ 4 by omega) (by omega) gs gd ht).mono ?_
  rintro en w2 ⟨rfl, ⟨A2, c2, hS2⟩, hE2, hT2⟩
  have S2 := Aside0.mk hS2
  have T2 := Aside0.mk hT2
  clear e0 u0 fy hS2 hT2 hE2
  go_wp2_with fail
  refine bodyPost_ret (results_list (rs := [.tmp 2, .tmp 3, .tmp 4, .tmp 5]) rfl (by simp) (.tmp (.tmp (.tmp (.tmp .nil))))) rfl ?_
  have TB : Tch (fun j => j = g ∨ j = s) w W := Tch.of_below (by have := B0.out; exact this)
  exact ⟨_, _, rfl, ⟨_, _, _, S2.out⟩, tch_drop0 (TB.trans (T1.out.trans T2.out)) EG.out⟩
set_option maxHeartbeats 1600000 in
set_option maxRecDepth 100000 in
theorem rh_old1 {w : World} {d s : Nat} {A : Option Addr} {c : Nat} {split : Int} {aE aU : Addr} {b : Int} {t : List Int} (h : Src w d s A c (b :: t) split) (hE : Env w d aE aU) (hb : 128 ≤ b) (hb2 : b < 192) (hk : b % 4 = 0) (ht : 1 ≤ t.length) :
    Calls Tryd.prog 54 #[(.iface 88 (.pointer (some ⟨s, 0, none⟩)))] w (OldOk w d s split b t 1) := by
  obtain ⟨n, rfl⟩ := Int.eq_ofNat_of_zero_le (h.by_ 0).1
  have nz : (n : Int) ≤ 255 := (h.by_ 0).2
  have n8 : n < 256 := by omega
  have a1 : Go.bits .and .u8 (n : Int) 128 = 128 := by rw [and128 n n8, if_neg (by omega)]
  have a2 : Go.bits .and .u8 (n : Int) 64 = 0 := by rw [and64 n n8 (by omega), if_pos (by omega)]
  have a3 := and63 n n8
  have a4 := and3 n n8
  have a5 : n % 4 = 0 := by omega
  rw [a5] at a4
  obtain ⟨W, eW, hR0, hB0⟩ := buf4 w
  have H0 := Aside0.mk (h.below hB0)
  have E0 := Aside0.mk (hE.below hB0)
  have R0 := Aside0.mk hR0
  have B0 := Aside0.mk hB0
  have gs : w.heap.size ≠ s := by have := h.lt; omega
  have gd : d ≤ w.heap.size := by have := h.lt; have := h.ds; omega
  have ds := h.ds
  have sl := h.lt
  have hby : ∀ x ∈ t.take 1, 0 ≤ x ∧ x ≤ 255 := bytes_mem (bytesC_take (fun i => by simpa using h.by_ (i + 1)) 1)
  clear h hE hR0 hB0
  go_enter Tryd.func54, Tryd.ntmps54
  go_upto_region 2 with (fail)
  clear eW
  obtain ⟨g, eg⟩ : ∃ g, w.heap.size = g := ⟨_, rfl⟩
  have EG := Aside0.mk eg
  rw [eg] at gs gd sl R0 ⊢
  clear eg
  go_wp2_with fail
  refine (full_calls H0.out E0.out R0.out (show 0 + 1 ≤ 4 by omega) (show 1 ≤ 4 by omega) (by omega) gs gd).mono ?_
  rintro en w1 ⟨k, e1, rfl, hS, hR, hT⟩
  have hE1 := E0.out.kept hT (fun j q => by rcases q with q | q <;> subst q <;> assumption)
  have e0 := hE1.e
  have u0 := hE1.u
  have ek : k = 1 := by rw [e1]; simp
  subst ek
  rw [if_pos rfl]
  rw [show ([0, 0, 0, 0] : List Int).take 0 ++ (((n : Int) :: t).take 1 ++ ([0, 0, 0, 0] : List Int).drop (0 + 1)) = [(n : Int), 0, 0, 0] from rfl] at hR
  have fy : w1.cell? ⟨g, 0, none⟩ = some (.int .u8 (n : Int)) := (Kd.R_celln (0 : Int) (h1 := fun _ => rfl) (enc := Value.int .u8) hR (0 : Int) (by decide) (by decide)).1
  have T1 := Aside0.mk hT
  have R1 := Aside0.mk hR
  obtain ⟨A1, c1, hs⟩ := hS
  have S1 := Aside0.mk (show Src w1 d s A1 c1 t split from hs)
  have E1 := Aside0.mk hE1
  clear hs hR hT e1 hE1
  go_wp2_with fail
  refine (rfull_ok S1.out E1.out R1.out (show 0 + 1 ≤ 4 by omega) (show 1 ≤ 4 by omega) (by omega) gs gd ht).mono ?_
  rintro en w2 ⟨rfl, ⟨A2, c2, hS2⟩, hR2, hE2, hT2⟩
  obtain ⟨ys, hys⟩ : ∃ ys, t.take 1 = ys := ⟨_, rfl⟩
  have yl : ys.length = 1 := by rw [← hys, List.length_take]; omega
  rw [hys] at hR2 hby
  have YS := Aside0.mk hys
  have S2 := Aside0.mk hS2
  have T2 := Aside0.mk hT2
  have R2 := Aside0.mk hR2
  have BY := Aside0.mk hby
  have W2 := T1.out.size
  have Z2 := T2.out.size
  have ZB := B0.out.size
  have YL := Aside0.mk yl
  clear e0 u0 fy hS2 hT2 hE2 hR2 hys hby yl
  go_wp2_with fail
  go_loop [3, 9] (fun lv iv => ∃ k : Nat, k ≤ 1 ∧ lv = .int .i64 (numB (ys.take k)) ∧ iv = .int .i64 (k : Int)) (fun _ iv => 1 - (intOf iv).toNat)
  case atStart => exact ⟨0, Nat.zero_le _, by rw [List.take_zero]; rfl, rfl⟩
  case round =>
    obtain ⟨k, hk, rfl, rfl⟩ := hrel
    have hbd := numB_bound (l := ys.take k) k (fun x hx => BY.out x (List.mem_of_mem_take hx)) (List.length_take_le _ _)
    by_cases hlt : k < 1
    · have hky : k < ys.length := by rw [YL.out]; exact hlt
      have hp : (256 : Int) ^ k ≤ 16777216 := by
        have h3 := Int.ofNat_le.2 (show (256 : Nat) ^ k ≤ 256 ^ 3 from Nat.pow_le_pow_right (by decide) (by omega))
        rw [Int.natCast_pow, Int.natCast_pow] at h3
        exact h3
      obtain ⟨x, hx⟩ : ∃ x, numB (ys.take k) = x := ⟨_, rfl⟩
      obtain ⟨y, hy⟩ : ∃ y, ys[k] = y := ⟨_, rfl⟩
      have hyb := BY.out y (by rw [← hy]; exact List.getElem_mem hky)
      have hsn : numB (ys.take (k + 1)) = x * 256 + y := by
        rw [List.take_succ_eq_append_getElem hky, numB_snoc, hx, hy]
      rw [hx] at hbd ⊢
      have x0 : 0 ≤ x := hbd.1
      have x1 : x < 16777216 := by omega
      have y0 : 0 ≤ y := hyb.1
      have y1 : y ≤ 255 := hyb.2
      have k0 : (0 : Int) ≤ (k : Int) := by omega
      have k4 : (k : Int) < 4 := by omega
      have k5 : k < 4 := by omega
      have hor : Go.bits .or .i64 (x * 256) y = x * 256 + y := i64_join 8 (x * 256) y (by omega) (by omega) (by omega) y0 (by omega) (by omega)
      have fk : w2.cell? ⟨g, k, none⟩ = some (.int .u8 y) := by
        have q := (Kd.R_celln (0 : Int) (h1 := fun _ => rfl) (enc := Value.int .u8) R2.out (k : Int) (by omega) (by have := (Kd.R_reads' R2.out).1; omega)).1
        have e : (List.take 0 [(n : Int), 0, 0, 0] ++ (ys ++ List.drop (0 + 1) [(n : Int), 0, 0, 0])).getD k 0 = y := by
          rw [List.take_zero, List.nil_append, List.getD_eq_getElem?_getD, List.getElem?_append_left hky, List.getElem?_eq_getElem hky, hy]; rfl
        unfold rdOf at q
        simp only [Int.toNat_natCast] at q
        rw [e] at q
        exact q
      have SN := Aside0.mk hsn
      clear hx hy hsn hbd hyb hp
      go_wp2_with fail
      go_round
      case rel => exact ⟨k + 1, by omega, by rw [SN.out], by go_num⟩
      case measure => simp [intOf]; omega
    · obtain rfl : k = 1 := by omega
      obtain ⟨x, hx⟩ : ∃ x, numB (ys.take 1) = x := ⟨_, rfl⟩
      have hx2 : numB ys = x := by rw [← hx, List.take_of_length_le (by rw [YL.out]; exact Nat.le_refl _)]
      rw [hx] at hbd ⊢
      have x1 : x < 4294967296 := Int.lt_of_lt_of_le hbd.2 (by decide)
      obtain ⟨m1, rfl⟩ := Int.eq_ofNat_of_zero_le hbd.1
      have HX := Aside0.mk hx2
      clear hx hx2 hbd
      go_wp2_with fail
      refine bodyPost_ret (results_list (rs := [.tmp 2, .tmp 3, .tmp 4, .tmp 5]) rfl (by simp) (.tmp (.tmp (.tmp (.tmp .nil))))) rfl ?_
      have TB : Tch (fun j => j = g ∨ j = s) w W := Tch.of_below (by have := B0.out; exact this)
      have hb := heap_alloc_new w2 (.cells #[(.iface 88 (.pointer (some ⟨s, 0, none⟩))), .int .i64 (m1 : Int)] 159)
      have hB3 : Below w2.heap.size w2 (w2.alloc (.cells #[(.iface 88 (.pointer (some ⟨s, 0, none⟩))), .int .i64 (m1 : Int)] 159)) := below_alloc (Below.refl _ _) _
      have ne : w2.heap.size ≠ s := by have := S2.out.lt; omega
      have hT3 : Tch (fun j => j = g ∨ j = s) w (w2.alloc (.cells #[(.iface 88 (.pointer (some ⟨s, 0, none⟩))), .int .i64 (m1 : Int)] 159)) := (TB.trans (T1.out.trans T2.out)).trans (Tch.of_below hB3)
      have eg := EG.out
      unfold OldOk
      rw [YS.out, HX.out, Int.toNat_natCast]
      refine ⟨_, w2.heap.size, rfl, .inr (.inl ⟨rfl, by omega, m1, _, _, t.drop 1, S2.out.below hB3, ⟨(cell_of_row _ _ 0 _ _ _ hb).trans rfl, (cell_of_row _ _ 1 _ _ _ hb).trans rfl, frozen_of_row _ _ 1 _ _ hb, ne⟩, by omega, ?_, ?_, ?_⟩), .inr (by omega), tch_drop0 hT3 eg⟩
      all_goals simp
set_option maxHeartbeats 1600000 in
set_option maxRecDepth 100000 in
theorem rh_oldno2 {w : World} {d s : Nat} {A : Option Addr} {c : Nat} {split : Int} {aE aU : Addr} {b : Int} {t : List Int} (h : Src w d s A c (b :: t) split) (hE : Env w d aE aU) (hb : 128 ≤ b) (hb2 : b < 192) (hk : b % 4 = 1) (ht : t.length < 2) :
    Calls Tryd.prog 54 #[(.iface 88 (.pointer (some ⟨s, 0, none⟩)))] w (HdNo w d s split (.iface 209 (.pointer (some aU)))) := by
  obtain ⟨n, rfl⟩ := Int.eq_ofNat_of_zero_le (h.by_ 0).1
  have nz : (n : Int) ≤ 255 := (h.by_ 0).2
  have n8 : n < 256 := by omega
  have a1 : Go.bits .and .u8 (n : Int) 128 = 128 := by rw [and128 n n8, if_neg (by omega)]
  have a2 : Go.bits .and .u8 (n : Int) 64 = 0 := by rw [and64 n n8 (by omega), if_pos (by omega)]
  have a3 := and63 n n8
  have a4 := and3 n n8
  have a5 : n % 4 = 1 := by omega
  rw [a5] at a4
  obtain ⟨W, eW, hR0, hB0⟩ := buf4 w
  have H0 := Aside0.mk (h.below hB0)
  have E0 := Aside0.mk (hE.below hB0)
  have R0 := Aside0.mk hR0
  have B0 := Aside0.mk hB0
  have gs : w.heap.size ≠ s := by have := h.lt; omega
  have gd : d ≤ w.heap.size := by have := h.lt; have := h.ds; omega
  have ds := h.ds
  have sl := h.lt
  clear h hE hR0 hB0
  go_enter Tryd.func54, Tryd.ntmps54
  go_upto_region 2 with (fail)
  clear eW
  obtain ⟨g, eg⟩ : ∃ g, w.heap.size = g := ⟨_, rfl⟩
  have EG := Aside0.mk eg
  rw [eg] at gs gd sl R0 ⊢
  clear eg
  go_wp2_with fail
  refine (full_calls H0.out E0.out R0.out (show 0 + 1 ≤ 4 by omega) (show 1 ≤ 4 by omega) (by omega) gs gd).mono ?_
  rintro en w1 ⟨k, e1, rfl, hS, hR, hT⟩
  have hE1 := E0.out.kept hT (fun j q => by rcases q with q | q <;> subst q <;> assumption)
  have e0 := hE1.e
  have u0 := hE1.u
  have ek : k = 1 := by rw [e1]; simp
  subst ek
  rw [if_pos rfl]
  rw [show ([0, 0, 0, 0] : List Int).take 0 ++ (((n : Int) :: t).take 1 ++ ([0, 0, 0, 0] : List Int).drop (0 + 1)) = [(n : Int), 0, 0, 0] from rfl] at hR
  have fy : w1.cell? ⟨g, 0, none⟩ = some (.int .u8 (n : Int)) := (Kd.R_celln (0 : Int) (h1 := fun _ => rfl) (enc := Value.int .u8) hR (0 : Int) (by decide) (by decide)).1
  have T1 := Aside0.mk hT
  have R1 := Aside0.mk hR
  obtain ⟨A1, c1, hs⟩ := hS
  have S1 := Aside0.mk (show Src w1 d s A1 c1 t split from hs)
  have E1 := Aside0.mk hE1
  clear hs hR hT e1 hE1
  go_wp2_with fail
  refine (rfull_no S1.out E1.out R1.out (show 0 + 2 ≤ 4 by omega) (show 2 ≤ 4 by omega) (by omega) gs gd ht).mono ?_
  rintro en w2 ⟨rfl, ⟨A2, c2, hS2⟩, hE2, hT2⟩
  have S2 := Aside0.mk hS2
  have T2 := Aside0.mk hT2
  clear e0 u0 fy hS2 hT2 hE2
  go_wp2_with fail
  refine bodyPost_ret (results_list (rs := [.tmp 2, .tmp 3, .tmp 4, .tmp 5]) rfl (by simp) (.tmp (.tmp (.tmp (.tmp .nil))))) rfl ?_
  have TB : Tch (fun j => j = g ∨ j = s) w W := Tch.of_below (by have := B0.out; exact this)
  exact ⟨_, _, rfl, ⟨_, _, _, S2.out⟩, tch_drop0 (TB.trans (T1.out.trans T2.out)) EG.out⟩
set_option maxHeartbeats 1600000 in
set_option maxRecDepth 100000 in
theorem rh_old2 {w : World} {d s : Nat} {A : Option Addr} {c : Nat} {split : Int} {aE aU : Addr} {b : Int} {t : List Int} (h : Src w d s A c (b :: t) split) (hE : Env w d aE aU) (hb : 128 ≤ b) (hb2 : b < 192) (hk : b % 4 = 1) (ht : 2 ≤ t.length) :
    Calls Tryd.prog 54 #[(.iface 88 (.pointer (some ⟨s, 0, none⟩)))] w (OldOk w d s split b t 2) := by
  obtain ⟨n, rfl⟩ := Int.eq_ofNat_of_zero_le (h.by_ 0).1
  have nz : (n : Int) ≤ 255 := (h.by_ 0).2
  have n8 : n < 256 := by omega
  have a1 : Go.bits .and .u8 (n : Int) 128 = 128 := by rw [and128 n n8, if_neg (by omega)]
  have a2 : Go.bits .and .u8 (n : Int) 64 = 0 := by rw [and64 n n8 (by omega), if_pos (by omega)]
  have a3 := and63 n n8
  have a4 := and3 n n8
  have a5 : n % 4 = 1 := by omega
  rw [a5] at a4
  obtain ⟨W, eW, hR0, hB0⟩ := buf4 w
  have H0 := Aside0.mk (h.below hB0)
  have E0 := Aside0.mk (hE.below hB0)
  have R0 := Aside0.mk hR0
  have B0 := Aside0.mk hB0
  have gs : w.heap.size ≠ s := by have := h.lt; omega
  have gd : d ≤ w.heap.size := by have := h.lt; have := h.ds; omega
  have ds := h.ds
  have sl := h.lt
  have hby : ∀ x ∈ t.take 2, 0 ≤ x ∧ x ≤ 255 := bytes_mem (bytesC_take (fun i => by simpa using h.by_ (i + 1)) 2)
  clear h hE hR0 hB0
  go_enter Tryd.func54, Tryd.ntmps54
  go_upto_region 2 with (fail)
  clear eW
  obtain ⟨g, eg⟩ : ∃ g, w.heap.size = g := ⟨_, rfl⟩
  have EG := Aside0.mk eg
  rw [eg] at gs gd sl R0 ⊢
  clear eg
  go_wp2_with fail
  refine (full_calls H0.out E0.out R0.out (show 0 + 1 ≤ 4 by omega) (show 1 ≤ 4 by omega) (by omega) gs gd).mono ?_
  rintro en w1 ⟨k, e1, rfl, hS, hR, hT⟩
  have hE1 := E0.out.kept hT (fun j q => by rcases q with q | q <;> subst q <;> assumption)
  have e0 := hE1.e
  have u0 := hE1.u
  have ek : k = 1 := by rw [e1]; simp
  subst ek
  rw [if_pos rfl]
  rw [show ([0, 0, 0, 0] : List Int).take 0 ++ (((n : Int) :: t).take 1 ++ ([0, 0, 0, 0] : List Int).drop (0 + 1)) = [(n : Int), 0, 0, 0] from rfl] at hR
  have fy : w1.cell? ⟨g, 0, none⟩ = some (.int .u8 (n : Int)) := (Kd.R_celln (0 : Int) (h1 := fun _ => rfl) (enc := Value.int .u8) hR (0 : Int) (by decide) (by decide)).1
  have T1 := Aside0.mk hT
  have R1 := Aside0.mk hR
  obtain ⟨A1, c1, hs⟩ := hS
  have S1 := Aside0.mk (show Src w1 d s A1 c1 t split from hs)
  have E1 := Aside0.mk hE1
  clear hs hR hT e1 hE1
  go_wp2_with fail
  refine (rfull_ok S1.out E1.out R1.out (show 0 + 2 ≤ 4 by omega) (show 2 ≤ 4 by omega) (by omega) gs gd ht).mono ?_
  rintro en w2 ⟨rfl, ⟨A2, c2, hS2⟩, hR2, hE2, hT2⟩
  obtain ⟨ys, hys⟩ : ∃ ys, t.take 2 = ys := ⟨_, rfl⟩
  have yl : ys.length = 2 := by rw [← hys, List.length_take]; omega
  rw [hys] at hR2 hby
  have YS := Aside0.mk hys
  have S2 := Aside0.mk hS2
  have T2 := Aside0.mk hT2
  have R2 := Aside0.mk hR2
  have BY := Aside0.mk hby
  have W2 := T1.out.size
  have Z2 := T2.out.size
  have ZB := B0.out.size
  have YL := Aside0.mk yl
  clear e0 u0 fy hS2 hT2 hE2 hR2 hys hby yl
  go_wp2_with fail
  go_loop [3, 9] (fun lv iv => ∃ k : Nat, k ≤ 2 ∧ lv = .int .i64 (numB (ys.take k)) ∧ iv = .int .i64 (k : Int)) (fun _ iv => 2 - (intOf iv).toNat)
  case atStart => exact ⟨0, Nat.zero_le _, by rw [List.take_zero]; rfl, rfl⟩
  case round =>
    obtain ⟨k, hk, rfl, rfl⟩ := hrel
    have hbd := numB_bound (l := ys.take k) k (fun x hx => BY.out x (List.mem_of_mem_take hx)) (List.length_take_le _ _)
    by_cases hlt : k < 2
    · have hky : k < ys.length := by rw [YL.out]; exact hlt
      have hp : (256 : Int) ^ k ≤ 16777216 := by
        have h3 := Int.ofNat_le.2 (show (256 : Nat) ^ k ≤ 256 ^ 3 from Nat.pow_le_pow_right (by decide) (by omega))
        rw [Int.natCast_pow, Int.natCast_pow] at h3
        exact h3
      obtain ⟨x, hx⟩ : ∃ x, numB (ys.take k) = x := ⟨_, rfl⟩
      obtain ⟨y, hy⟩ : ∃ y, ys[k] = y := ⟨_, rfl⟩
      have hyb := BY.out y (by rw [← hy]; exact List.getElem_mem hky)
      have hsn : numB (ys.take (k + 1)) = x * 256 + y := by
        rw [List.take_succ_eq_append_getElem hky, numB_snoc, hx, hy]
      rw [hx] at hbd ⊢
      have x0 : 0 ≤ x := hbd.1
      have x1 : x < 16777216 := by omega
      have y0 : 0 ≤ y := hyb.1
      have y1 : y ≤ 255 := hyb.2
      have k0 : (0 : Int) ≤ (k : Int) := by omega
      have k4 : (k : Int) < 4 := by omega
      have k5 : k < 4 := by omega
      have hor : Go.bits .or .i64 (x * 256) y = x * 256 + y := i64_join 8 (x * 256) y (by omega) (by omega) (by omega) y0 (by omega) (by omega)
      have fk : w2.cell? ⟨g, k, none⟩ = some (.int .u8 y) := by
        have q := (Kd.R_celln (0 : Int) (h1 := fun _ => rfl) (enc := Value.int .u8) R2.out (k : Int) (by omega) (by have := (Kd.R_reads' R2.out).1; omega)).1
        have e : (List.take 0 [(n : Int), 0, 0, 0] ++ (ys ++ List.drop (0 + 2) [(n : Int), 0, 0, 0])).getD k 0 = y := by
          rw [List.take_zero, List.nil_append, List.getD_eq_getElem?_getD, List.getElem?_append_left hky, List.getElem?_eq_getElem hky, hy]; rfl
        unfold rdOf at q
        simp only [Int.toNat_natCast] at q
        rw [e] at q
        exact q
      have SN := Aside0.mk hsn
      clear hx hy hsn hbd hyb hp
      go_wp2_with fail
      go_round
      case rel => exact ⟨k + 1, by omega, by rw [SN.out], by go_num⟩
      case measure => simp [intOf]; omega
    · obtain rfl : k = 2 := by omega
      obtain ⟨x, hx⟩ : ∃ x, numB (ys.take 2) = x := ⟨_, rfl⟩
      have hx2 : numB ys = x := by rw [← hx, List.take_of_length_le (by rw [YL.out]; exact Nat.le_refl _)]
      rw [hx] at hbd ⊢
      have x1 : x < 4294967296 := Int.lt_of_lt_of_le hbd.2 (by decide)
      obtain ⟨m1, rfl⟩ := Int.eq_ofNat_of_zero_le hbd.1
      have HX := Aside0.mk hx2
      clear hx hx2 hbd
      go_wp2_with fail
      refine bodyPost_ret (results_list (rs := [.tmp 2, .tmp 3, .tmp 4, .tmp 5]) rfl (by simp) (.tmp (.tmp (.tmp (.tmp .nil))))) rfl ?_
      have TB : Tch (fun j => j = g ∨ j = s) w W := Tch.of_below (by have := B0.out; exact this)
      have hb := heap_alloc_new w2 (.cells #[(.iface 88 (.pointer (some ⟨s, 0, none⟩))), .int .i64 (m1 : Int)] 159)
      have hB3 : Below w2.heap.size w2 (w2.alloc (.cells #[(.iface 88 (.pointer (some ⟨s, 0, none⟩))), .int .i64 (m1 : Int)] 159)) := below_alloc (Below.refl _ _) _
      have ne : w2.heap.size ≠ s := by have := S2.out.lt; omega
      have hT3 : Tch (fun j => j = g ∨ j = s) w (w2.alloc (.cells #[(.iface 88 (.pointer (some ⟨s, 0, none⟩))), .int .i64 (m1 : Int)] 159)) := (TB.trans (T1.out.trans T2.out)).trans (Tch.of_below hB3)
      have eg := EG.out
      unfold OldOk
      rw [YS.out, HX.out, Int.toNat_natCast]
      refine ⟨_, w2.heap.size, rfl, .inr (.inl ⟨rfl, by omega, m1, _, _, t.drop 2, S2.out.below hB3, ⟨(cell_of_row _ _ 0 _ _ _ hb).trans rfl, (cell_of_row _ _ 1 _ _ _ hb).trans rfl, frozen_of_row _ _ 1 _ _ hb, ne⟩, by omega, ?_, ?_, ?_⟩), .inr (by omega), tch_drop0 hT3 eg⟩
      all_goals simp
set_option maxHeartbeats 1600000 in
set_option maxRecDepth 100000 in
theorem rh_oldno4 {w : World} {d s : Nat} {A : Option Addr} {c : Nat} {split : Int} {aE aU : Addr} {b : Int} {t : List Int} (h : Src w d s A c (b :: t) split) (hE : Env w d aE aU) (hb : 128 ≤ b) (hb2 : b < 192) (hk : b % 4 = 2) (ht : t.length < 4) :
    Calls Tryd.prog 54 #[(.iface 88 (.pointer (some ⟨s, 0, none⟩)))] w (HdNo w d s split (.iface 209 (.pointer (some aU)))) := by
  obtain ⟨n, rfl⟩ := Int.eq_ofNat_of_zero_le (h.by_ 0).1
  have nz : (n : Int) ≤ 255 := (h.by_ 0).2
  have n8 : n < 256 := by omega
  have a1 : Go.bits .and .u8 (n : Int) 128 = 128 := by rw [and128 n n8, if_neg (by omega)]
  have a2 : Go.bits .and .u8 (n : Int) 64 = 0 := by rw [and64 n n8 (by omega), if_pos (by omega)]
  have a3 := and63 n n8
  have a4 := and3 n n8
  have a5 : n % 4 = 2 := by omega
  rw [a5] at a4
  obtain ⟨W, eW, hR0, hB0⟩ := buf4 w
  have H0 := Aside0.mk (h.below hB0)
  have E0 := Aside0.mk (hE.below hB0)
  have R0 := Aside0.mk hR0
  have B0 := Aside0.mk hB0
  have gs : w.heap.size ≠ s := by have := h.lt; omega
  have gd : d ≤ w.heap.size := by have := h.lt; have := h.ds; omega
  have ds := h.ds
  have sl := h.lt
  clear h hE hR0 hB0
  go_enter Tryd.func54, Tryd.ntmps54
  go_upto_region 2 with (fail)
  clear eW
  obtain ⟨g, eg⟩ : ∃ g, w.heap.size = g := ⟨_, rfl⟩
  have EG := Aside0.mk eg
  rw [eg] at gs gd sl R0 ⊢
  clear eg
  go_wp2_with fail
  refine (full_calls H0.out E0.out R0.out (show 0 + 1 ≤ 4 by omega) (show 1 ≤ 4 by omega) (by omega) gs gd).mono ?_
  rintro en w1 ⟨k, e1, rfl, hS, hR, hT⟩
  have hE1 := E0.out.kept hT (fun j q => by rcases q with q | q <;> subst q <;> assumption)
  have e0 := hE1.e
  have u0 := hE1.u
  have ek : k = 1 := by rw [e1]; simp
  subst ek
  rw [if_pos rfl]
  rw [show ([0, 0, 0, 0] : List Int).take 0 ++ (((n : Int) :: t).take 1 ++ ([0, 0, 0, 0] : List Int).drop (0 + 1)) = [(n : Int), 0, 0, 0] from rfl] at hR
  have fy : w1.cell? ⟨g, 0, none⟩ = some (.int .u8 (n : Int)) := (Kd.R_celln (0 : Int) (h1 := fun _ => rfl) (enc := Value.int .u8) hR (0 : Int) (by decide) (by decide)).1
  have T1 := Aside0.mk hT
  have R1 := Aside0.mk hR
  obtain ⟨A1, c1, hs⟩ := hS
  have S1 := Aside0.mk (show Src w1 d s A1 c1 t split from hs)
  have E1 := Aside0.mk hE1
  clear hs hR hT e1 hE1
  go_wp2_with fail
  refine (rfull_no S1.out E1.out R1.out (show 0 + 4 ≤ 4 by omega) (show 4 ≤ 4 by omega) (by omega) gs gd ht).mono ?_
  rintro en w2 ⟨rfl, ⟨A2, c2, hS2⟩, hE2, hT2⟩
  have S2 := Aside0.mk hS2
  have T2 := Aside0.mk hT2
  clear e0 u0 fy hS2 hT2 hE2
  go_wp2_with fail
  refine bodyPost_ret (results_list (rs := [.tmp 2, .tmp 3, .tmp 4, .tmp 5]) rfl (by simp) (.tmp (.tmp (.tmp (.tmp .nil))))) rfl ?_
  have TB : Tch (fun j => j = g ∨ j = s) w W := Tch.of_below (by have := B0.out; exact this)
  exact ⟨_, _, rfl, ⟨_, _, _, S2.out⟩, tch_drop0 (TB.trans (T1.out.trans T2.out)) EG.out⟩
set_option maxHeartbeats 1600000 in
set_option maxRecDepth 100000 in
theorem rh_old4 {w : World} {d s : Nat} {A : Option Addr} {c : Nat} {split : Int} {aE aU : Addr} {b : Int} {t : List Int} (h : Src w d s A c (b :: t) split) (hE : Env w d aE aU) (hb : 128 ≤ b) (hb2 : b < 192) (hk : b % 4 = 2) (ht : 4 ≤ t.length) :
    Calls Tryd.prog 54 #[(.iface 88 (.pointer (some ⟨s, 0, none⟩)))] w (OldOk w d s split b t 4) := by
  obtain ⟨n, rfl⟩ := Int.eq_ofNat_of_zero_le (h.by_ 0).1
  have nz : (n : Int) ≤ 255 := (h.by_ 0).2
  have n8 : n < 256 := by omega
  have a1 : Go.bits .and .u8 (n : Int) 128 = 128 := by rw [and128 n n8, if_neg (by omega)]
  have a2 : Go.bits .and .u8 (n : Int) 64 = 0 := by rw [and64 n n8 (by omega), if_pos (by omega)]
  have a3 := and63 n n8
  have a4 := and3 n n8
  have a5 : n % 4 = 2 := by omega
  rw [a5] at a4
  obtain ⟨W, eW, hR0, hB0⟩ := buf4 w
  have H0 := Aside0.mk (h.below hB0)
  have E0 := Aside0.mk (hE.below hB0)
  have R0 := Aside0.mk hR0
  have B0 := Aside0.mk hB0
  have gs : w.heap.size ≠ s := by have := h.lt; omega
  have gd : d ≤ w.heap.size := by have := h.lt; have := h.ds; omega
  have ds := h.ds
  have sl := h.lt
  have hby : ∀ x ∈ t.take 4, 0 ≤ x ∧ x ≤ 255 := bytes_mem (bytesC_take (fun i => by simpa using h.by_ (i + 1)) 4)
  clear h hE hR0 hB0
  go_enter Tryd.func54, Tryd.ntmps54
  go_upto_region 2 with (fail)
  clear eW
  obtain ⟨g, eg⟩ : ∃ g, w.heap.size = g := ⟨_, rfl⟩
  have EG := Aside0.mk eg
  rw [eg] at gs gd sl R0 ⊢
  clear eg
  go_wp2_with fail
  refine (full_calls H0.out E0.out R0.out (show 0 + 1 ≤ 4 by omega) (show 1 ≤ 4 by omega) (by omega) gs gd).mono ?_
  rintro en w1 ⟨k, e1, rfl, hS, hR, hT⟩
  have hE1 := E0.out.kept hT (fun j q => by rcases q with q | q <;> subst q <;> assumption)
  have e0 := hE1.e
  have u0 := hE1.u
  have ek : k = 1 := by rw [e1]; simp
  subst ek
  rw [if_pos rfl]
  rw [show ([0, 0, 0, 0] : List Int).take 0 ++ (((n : Int) :: t).take 1 ++ ([0, 0, 0, 0] : List Int).drop (0 + 1)) = [(n : Int), 0, 0, 0] from rfl] at hR
  have fy : w1.cell? ⟨g, 0, none⟩ = some (.int .u8 (n : Int)) := (Kd.R_celln (0 : Int) (h1 := fun _ => rfl) (enc := Value.int .u8) hR (0 : Int) (by decide) (by decide)).1
  have T1 := Aside0.mk hT
  have R1 := Aside0.mk hR
  obtain ⟨A1, c1, hs⟩ := hS
  have S1 := Aside0.mk (show Src w1 d s A1 c1 t split from hs)
  have E1 := Aside0.mk hE1
  clear hs hR hT e1 hE1
  go_wp2_with fail
  refine (rfull_ok S1.out E1.out R1.out (show 0 + 4 ≤ 4 by omega) (show 4 ≤ 4 by omega) (by omega) gs gd ht).mono ?_
  rintro en w2 ⟨rfl, ⟨A2, c2, hS2⟩, hR2, hE2, hT2⟩
  obtain ⟨ys, hys⟩ : ∃ ys, t.take 4 = ys := ⟨_, rfl⟩
  have yl : ys.length = 4 := by rw [← hys, List.length_take]; omega
  rw [hys] at hR2 hby
  have YS := Aside0.mk hys
  have S2 := Aside0.mk hS2
  have T2 := Aside0.mk hT2
  have R2 := Aside0.mk hR2
  have BY := Aside0.mk hby
  have W2 := T1.out.size
  have Z2 := T2.out.size
  have ZB := B0.out.size
  have YL := Aside0.mk yl
  clear e0 u0 fy hS2 hT2 hE2 hR2 hys hby yl
  go_wp2_with fail
  go_loop [3, 9] (fun lv iv => ∃ k : Nat, k ≤ 4 ∧ lv = .int .i64 (numB (ys.take k)) ∧ iv = .int .i64 (k : Int)) (fun _ iv => 4 - (intOf iv).toNat)
  case atStart => exact ⟨0, Nat.zero_le _, by rw [List.take_zero]; rfl, rfl⟩
  case round =>
    obtain ⟨k, hk, rfl, rfl⟩ := hrel
    have hbd := numB_bound (l := ys.take k) k (fun x hx => BY.out x (List.mem_of_mem_take hx)) (List.length_take_le _ _)
    by_cases hlt : k < 4
    · have hky : k < ys.length := by rw [YL.out]; exact hlt
      have hp : (256 : Int) ^ k ≤ 16777216 := by
        have h3 := Int.ofNat_le.2 (show (256 : Nat) ^ k ≤ 256 ^ 3 from Nat.pow_le_pow_right (by decide) (by omega))
        rw [Int.natCast_pow, Int.natCast_pow] at h3
        exact h3
      obtain ⟨x, hx⟩ : ∃ x, numB (ys.take k) = x := ⟨_, rfl⟩
      obtain ⟨y, hy⟩ : ∃ y, ys[k] = y := ⟨_, rfl⟩
      have hyb := BY.out y (by rw [← hy]; exact List.getElem_mem hky)
      have hsn : numB (ys.take (k + 1)) = x * 256 + y := by
        rw [List.take_succ_eq_append_getElem hky, numB_snoc, hx, hy]
      rw [hx] at hbd ⊢
      have x0 : 0 ≤ x := hbd.1
      have x1 : x < 16777216 := by omega
      have y0 : 0 ≤ y := hyb.1
      have y1 : y ≤ 255 := hyb.2
      have k0 : (0 : Int) ≤ (k : Int) := by omega
      have k4 : (k : Int) < 4 := by omega
      have k5 : k < 4 := by omega
      have hor : Go.bits .or .i64 (x * 256) y = x * 256 + y := i64_join 8 (x * 256) y (by omega) (by omega) (by omega) y0 (by omega) (by omega)
      have fk : w2.cell? ⟨g, k, none⟩ = some (.int .u8 y) := by
        have q := (Kd.R_celln (0 : Int) (h1 := fun _ => rfl) (enc := Value.int .u8) R2.out (k : Int) (by omega) (by have := (Kd.R_reads' R2.out).1; omega)).1
        have e : (List.take 0 [(n : Int), 0, 0, 0] ++ (ys ++ List.drop (0 + 4) [(n : Int), 0, 0, 0])).getD k 0 = y := by
          rw [List.take_zero, List.nil_append, List.getD_eq_getElem?_getD, List.getElem?_append_left hky, List.getElem?_eq_getElem hky, hy]; rfl
        unfold rdOf at q
        simp only [Int.toNat_natCast] at q
        rw [e] at q
        exact q
      have SN := Aside0.mk hsn
      clear hx hy hsn hbd hyb hp
      go_wp2_with fail
      go_round
      case rel => exact ⟨k + 1, by omega, by rw [SN.out], by go_num⟩
      case measure => simp [intOf]; omega
    · obtain rfl : k = 4 := by omega
      obtain ⟨x, hx⟩ : ∃ x, numB (ys.take 4) = x := ⟨_, rfl⟩
      have hx2 : numB ys = x := by rw [← hx, List.take_of_length_le (by rw [YL.out]; exact Nat.le_refl _)]
      rw [hx] at hbd ⊢
      have x1 : x < 4294967296 := Int.lt_of_lt_of_le hbd.2 (by decide)
      obtain ⟨m1, rfl⟩ := Int.eq_ofNat_of_zero_le hbd.1
      have HX := Aside0.mk hx2
      clear hx hx2 hbd
      go_wp2_with fail
      refine bodyPost_ret (results_list (rs := [.tmp 2, .tmp 3, .tmp 4, .tmp 5]) rfl (by simp) (.tmp (.tmp (.tmp (.tmp .nil))))) rfl ?_
      have TB : Tch (fun j => j = g ∨ j = s) w W := Tch.of_below (by have := B0.out; exact this)
      have hb := heap_alloc_new w2 (.cells #[(.iface 88 (.pointer (some ⟨s, 0, none⟩))), .int .i64 (m1 : Int)] 159)
      have hB3 : Below w2.heap.size w2 (w2.alloc (.cells #[(.iface 88 (.pointer (some ⟨s, 0, none⟩))), .int .i64 (m1 : Int)] 159)) := below_alloc (Below.refl _ _) _
      have ne : w2.heap.size ≠ s := by have := S2.out.lt; omega
      have hT3 : Tch (fun j => j = g ∨ j = s) w (w2.alloc (.cells #[(.iface 88 (.pointer (some ⟨s, 0, none⟩))), .int .i64 (m1 : Int)] 159)) := (TB.trans (T1.out.trans T2.out)).trans (Tch.of_below hB3)
      have eg := EG.out
      unfold OldOk
      rw [YS.out, HX.out, Int.toNat_natCast]
      refine ⟨_, w2.heap.size, rfl, .inr (.inl ⟨rfl, by omega, m1, _, _, t.drop 4, S2.out.below hB3, ⟨(cell_of_row _ _ 0 _ _ _ hb).trans rfl, (cell_of_row _ _ 1 _ _ _ hb).trans rfl, frozen_of_row _ _ 1 _ _ hb, ne⟩, by omega, ?_, ?_, ?_⟩), .inr (by omega), tch_drop0 hT3 eg⟩
      all_goals simp
end Go.Proofs.YtjdnnpfhlkgooaaDoor.Rd
