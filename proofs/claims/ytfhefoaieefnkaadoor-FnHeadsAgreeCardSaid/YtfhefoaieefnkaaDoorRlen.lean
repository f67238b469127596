/- impl.end; impl.ReadLength. -/
import Derived.Test.YtfhefoaieefnkaaDoorRl
set_option linter.unusedVariables false
set_option linter.unusedSimpArgs false
namespace Go.Proofs.YtfhefoaieefnkaaDoor.Rd
open Go.RowKit Go.Proofs.YtfhefoaieefnkaaDoorW.PrintWords Go.Proofs.YtfhefoaieefnkaaDoorW.PrintMore Go.Proofs.YtfhefoaieefnkaaDoor.Kit

theorem c8_lt {w : World} {A : Option Addr} {l : List Int} {ad : Addr} (h : C8 w A l) (e : A = some ad) (hp : 0 < l.length) : ad.block < w.heap.size :=
  Nat.lt_of_not_le (fun hg => far_c8 h hg ad e hp rfl)
/-- A new source over a row. -/
theorem src_new {w : World} {A : Option Addr} {c : Nat} {l : List Int} (split : Int) (hr : C8 w A l) (hc : l.length ≤ c) (hb : Bytes l) :
    ∃ W, w.alloc (.cells #[.slice A l.length c, .int .i64 split] 96) = W ∧ Src W w.heap.size w.heap.size A c l split ∧ Below w.heap.size w W := by
  have hB : Below w.heap.size w (w.alloc (.cells #[.slice A l.length c, .int .i64 split] 96)) := below_alloc (Below.refl _ _) _
  refine ⟨_, rfl, ?_, hB⟩
  exact {
    c0 := by simp [go_sem]
    c1 := by simp [go_sem]
    z0 := by simp [go_sem]
    rd := Kd.C_below hr hB
    hc := hc
    lo := fun ad e hp => by exact c8_lt hr e hp
    ds := Nat.le_refl _
    by_ := hb }
theorem rdl_le : ∀ {l : List Int} {n : Int} {p : Bool} {t : List Int}, rdl l = some (n, p, t) → t.length ≤ l.length
  | [], _, _, _, h => by simp [rdl] at h
  | b :: t0, n, p, t, h => by
    simp only [rdl] at h
    split at h
    · simp only [Option.some.injEq, Prod.mk.injEq] at h; obtain ⟨_, _, rfl⟩ := h; simp
    · split at h
      · split at h
        · simp only [Option.some.injEq, Prod.mk.injEq] at h; obtain ⟨_, _, rfl⟩ := h; simp; omega
        · cases h
      · split at h
        · simp only [Option.some.injEq, Prod.mk.injEq] at h; obtain ⟨_, _, rfl⟩ := h; simp
        · split at h
          · simp only [Option.some.injEq, Prod.mk.injEq] at h; obtain ⟨_, _, rfl⟩ := h; simp; omega
          · cases h

set_option maxRecDepth 100000 in
theorem end_nil (w : World) : Calls Tryd.prog 46 #[.nilIface] w fun en w' => en = .returned (.int .i64 0) ∧ w' = w := by
  go_enter Tryd.func46, Tryd.ntmps46
  go_wp2_with fail
  go_ret
  exact ⟨rfl, rfl⟩
set_option maxRecDepth 100000 in
theorem end_eof {w : World} {d : Nat} {aE aU : Addr} (hE : Env w d aE aU) : Calls Tryd.prog 46 #[(.iface 206 (.pointer (some aE)))] w fun en w' => en = .returned (.int .i64 1) ∧ w' = w := by
  have e0 := hE.e
  have ee := eql_same aE w
  clear hE
  go_enter Tryd.func46, Tryd.ntmps46
  go_wp2_with fail
  go_ret
  exact ⟨rfl, rfl⟩
set_option maxRecDepth 100000 in
theorem end_cut {w : World} {d : Nat} {aE aU : Addr} (hE : Env w d aE aU) : Calls Tryd.prog 46 #[(.iface 206 (.pointer (some aU)))] w fun en w' => en = .returned (.int .i64 2) ∧ w' = w := by
  have e0 := hE.e
  have u0 := hE.u
  have ee := eql_other (w := w) (Ne.symm hE.ne) hE.hu hE.he
  have eu := eql_same aU w
  clear hE
  go_enter Tryd.func46, Tryd.ntmps46
  go_wp2_with fail
  go_ret
  exact ⟨rfl, rfl⟩
set_option maxRecDepth 100000 in
theorem zz_no {w : World} {d s : Nat} {A : Option Addr} {c : Nat} {l : List Int} {split : Int} {aE aU : Addr} (h : Src w d s A c l split) (hE : Env w d aE aU) (hn : rdl l = none) :
    Calls Tryd.prog 45 #[(.iface 94 (.pointer (some ⟨s, 0, none⟩)))] w (RlNo w d s split aU) := by
  have H := rl_calls h hE
  rw [hn] at H
  have H := Aside0.mk H
  clear h hE hn
  go_enter Tryd.func45, Tryd.ntmps45
  go_wp2_with (go_at_call 72; (with_reducible refine H.out.mono ?_); rintro en w1 ⟨n, p, rfl, hS, hT, hN⟩; have S1 := Aside0.mk hS; have T1 := Aside0.mk hT; have N1 := Aside0.mk hN; clear hS hT hN)
  go_ret3
  exact ⟨n, p, rfl, S1.out, T1.out, N1.out⟩
set_option maxRecDepth 100000 in
theorem zz_ok {w : World} {d s : Nat} {A : Option Addr} {c : Nat} {l : List Int} {split : Int} {aE aU : Addr} (h : Src w d s A c l split) (hE : Env w d aE aU) {n : Int} {p : Bool} {t : List Int} (hn : rdl l = some (n, p, t)) :
    Calls Tryd.prog 45 #[(.iface 94 (.pointer (some ⟨s, 0, none⟩)))] w (RlOk w d s split n p t) := by
  have H := rl_calls h hE
  rw [hn] at H
  have H := Aside0.mk H
  clear h hE hn
  go_enter Tryd.func45, Tryd.ntmps45
  go_wp2_with (go_at_call 72; (with_reducible refine H.out.mono ?_); rintro en w1 ⟨rfl, hS, hT⟩; have S1 := Aside0.mk hS; have T1 := Aside0.mk hT; clear hS hT)
  go_ret3
  exact ⟨rfl, S1.out, T1.out⟩
set_option maxRecDepth 100000 in
theorem rlen_no {w : World} {A : Option Addr} {c : Nat} {l : List Int} {aE aU : Addr} (hr : C8 w A l) (hc : l.length ≤ c) (hb : Bytes l) (hE : Env w w.heap.size aE aU) (hn : rdl l = none) :
    Calls Tryd.prog 15 #[.slice A l.length c] w fun en w' => en = .returned (.tuple #[.int .i64 0, .bool false, .int .i64 0, .int .i64 2]) ∧ Below w.heap.size w w' := by
  have hmax := Kd.C_max hr
  obtain ⟨W, eW, hS, hB⟩ := src_new 0 hr hc hb
  have H0 := Aside0.mk hS
  have E0 := Aside0.mk (hE.below hB)
  have B0 := Aside0.mk hB
  have HN := Aside0.mk hn
  clear hr hb hE hS hB hn
  go_enter Tryd.func15, Tryd.ntmps15
  go_upto_region 2 with (fail)
  clear eW
  obtain ⟨g, eg⟩ : ∃ g, w.heap.size = g := ⟨_, rfl⟩
  have EG := Aside0.mk eg
  rw [eg] at H0 E0 ⊢
  clear eg
  go_wp2_with (first | (go_at_call 45; (with_reducible refine (zz_no H0.out E0.out HN.out).mono ?_); rintro en w1 ⟨n, p, rfl, hS, hT, _⟩; have E1 := Aside0.mk (E0.out.kept hT (fun k e => by have := H0.out.ds; subst e; exact this)); have T1 := Aside0.mk hT; clear hS hT) | (go_at_call 46; (with_reducible refine (end_cut E1.out).mono ?_); rintro en w2 ⟨rfl, rfl⟩))
  refine bodyPost_ret (results_list (rs := [.tmp 2, .tmp 3, .tmp 4, .tmp 5]) rfl (by simp) (.tmp (.tmp (.tmp (.tmp .nil))))) rfl ?_
  exact ⟨rfl, by have hB := T1.out.below (B := g) (w0 := w) (by rw [← EG.out]; exact B0.out) (by rw [← EG.out]; exact B0.out.size) (fun k e => by subst e; exact Nat.le_refl _); rw [EG.out]; exact hB⟩

set_option maxRecDepth 100000 in
theorem rlen_ok {w : World} {A : Option Addr} {c : Nat} {l : List Int} {aE aU : Addr} (hr : C8 w A l) (hc : l.length ≤ c) (hb : Bytes l) (hE : Env w w.heap.size aE aU) {n : Int} {p : Bool} {t : List Int} (hn : rdl l = some (n, p, t)) :
    Calls Tryd.prog 15 #[.slice A l.length c] w fun en w' => en = .returned (.tuple #[.int .i64 n, .bool p, .int .i64 ((l.length : Int) - (t.length : Int)), .int .i64 0]) ∧ Below w.heap.size w w' := by
  have hmax := Kd.C_max hr
  obtain ⟨W, eW, hS, hB⟩ := src_new 0 hr hc hb
  have H0 := Aside0.mk hS
  have E0 := Aside0.mk (hE.below hB)
  have B0 := Aside0.mk hB
  have HN := Aside0.mk hn
  clear hr hb hE hS hB hn
  go_enter Tryd.func15, Tryd.ntmps15
  go_upto_region 2 with (fail)
  clear eW
  obtain ⟨g, eg⟩ : ∃ g, w.heap.size = g := ⟨_, rfl⟩
  have EG := Aside0.mk eg
  rw [eg] at H0 E0 ⊢
  clear eg
  go_wp2_with (first | (go_at_call 45; (with_reducible refine (zz_ok H0.out E0.out HN.out).mono ?_); rintro en w1 ⟨rfl, hS, hT⟩; obtain ⟨A1, c1, hs⟩ := hS; have f0 := hs.c0; have le := rdl_le HN.out; have T1 := Aside0.mk hT; clear hs hT))
  go_quiet (fail)
  go_wp2
  refine bodyPost_ret (results_list (rs := [.tmp 2, .tmp 3, .tmp 4, .tmp 5]) rfl (by simp) (.tmp (.tmp (.tmp (.tmp .nil))))) rfl ?_
  exact ⟨rfl, by have hB := T1.out.below (B := g) (w0 := w) (by rw [← EG.out]; exact B0.out) (by rw [← EG.out]; exact B0.out.size) (fun k e => by subst e; exact Nat.le_refl _); rw [EG.out]; exact pw_below_drewN hB _⟩

end Go.Proofs.YtfhefoaieefnkaaDoor.Rd
