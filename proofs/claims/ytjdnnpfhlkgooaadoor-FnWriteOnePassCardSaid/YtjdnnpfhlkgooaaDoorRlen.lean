/- impl.end; impl.ReadLength. -/
import Derived.Test.YtjdnnpfhlkgooaaDoorRl
set_option linter.unusedVariables false
set_option linter.unusedSimpArgs false
namespace Go.Proofs.YtjdnnpfhlkgooaaDoor.Rd
open Go.RowKit Go.Proofs.YtjdnnpfhlkgooaaDoorW.PrintWords Go.Proofs.YtjdnnpfhlkgooaaDoorW.PrintMore Go.Proofs.YtjdnnpfhlkgooaaDoor.Kit

theorem c8_lt {w : World} {A : Option Addr} {l : List Int} {ad : Addr} (h : C8 w A l) (e : A = some ad) (hp : 0 < l.length) : ad.block < w.heap.size :=
  Nat.lt_of_not_le (fun hg => far_c8 h hg ad e hp rfl)
/-- A new source over a row. -/
theorem src_new {w : World} {A : Option Addr} {c : Nat} {l : List Int} (split : Int) (hr : C8 w A l) (hc : l.length ≤ c) (hb : Bytes l) :
    ∃ W, w.alloc (.cells #[.slice A l.length c, .int .i64 split] 90) = W ∧ Src W w.heap.size w.heap.size A c l split ∧ Below w.heap.size w W := by
  have hB : Below w.heap.size w (w.alloc (.cells #[.slice A l.length c, .int .i64 split] 90)) := below_alloc (Below.refl _ _) _
  refine ⟨_, rfl, ?_, hB⟩
  exact {
    c0 := by simp [go_sem]
    c1 := by simp [go_sem]
    z0 := by simp [go_sem]
    rd := Kd.C_below hr hB
    hc := hc
    lo := fun ad e hp => by exact c8_lt hr e hp
    ds := Nat.le_refl _
    by_ := hb }
theorem rdl_le : ∀ {l : List Int} {n : Int} {p : Bool} {t : List Int}, rdl l = some (n, p, t) → t.length ≤ l.length
  | [], _, _, _, h => by simp [rdl] at h
  | b :: t0, n, p, t, h => by
    simp only [rdl] at h
    split at h
    · simp only [Option.some.injEq, Prod.mk.injEq] at h; obtain ⟨_, _, rfl⟩ := h; simp
    · split at h
      · split at h
        · simp only [Option.some.injEq, Prod.mk.injEq] at h; obtain ⟨_, _, rfl⟩ := h; simp; omega
        · cases h
      · split at h
        · simp only [Option.some.injEq, Prod.mk.injEq] at h; obtain ⟨_, _, rfl⟩ := h; simp
        · split at h
          · simp only [Option.some.injEq, Prod.mk.injEq] at h; obtain ⟨_, _, rfl⟩ := h; simp; omega
          · cases h

set_option maxRecDepth 100000 in
theorem end_nil (w : World) : Calls Tryd.prog 37 #[.nilIface] w fun en w' => en = .returned (.int .i64 0) ∧ w' = w := by
  go_enter Tryd.func37, Tryd.ntmps37
  go_wp2_with fail
  go_ret
  exact ⟨rfl, rfl⟩
set_option maxRecDepth 100000 in
theorem end_eof {w : World} {d : Nat} {aE aU : Addr} (hE : Env w d aE aU) : Calls Tryd.prog 37 #[(.iface 209 (.pointer (some aE)))] w fun en w' => en = .returned (.int .i64 1) ∧ w' = w := by
  have e0 := hE.e
  have ee := eql_same aE w
  clear hE
  go_enter Tryd.func37, Tryd.ntmps37
  go_wp2_with fail
  go_ret
  exact ⟨rfl, rfl⟩
set_option maxRecDepth 100000 in
theorem end_cut {w : World} {d : Nat} {aE aU : Addr} (hE : Env w d aE aU) : Calls Tryd.prog 37 #[(.iface 209 (.pointer (some aU)))] w fun en w' => en = .returned (.int .i64 2) ∧ w' = w := by
  have e0 := hE.e
  have u0 := hE.u
  have ee := eql_other (w := w) (Ne.symm hE.ne) hE.hu hE.he
  have eu := eql_same aU w
  clear hE
  go_enter Tryd.func37, Tryd.ntmps37
  go_wp2_with fail
  go_ret
  exact ⟨rfl, rfl⟩
end Go.Proofs.YtjdnnpfhlkgooaaDoor.Rd
