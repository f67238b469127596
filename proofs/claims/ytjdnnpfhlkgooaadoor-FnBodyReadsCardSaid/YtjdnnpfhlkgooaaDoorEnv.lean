/- What the listed errors of package io give the walks. -/
import Derived.Test.YtjdnnpfhlkgooaaDoorRows
import Derived.Test.YtjdnnpfhlkgooaaDoorSrc
import Derived.Stop.LaidErr
import Derived.Stop.Joined
import Derived.LaidHandle
import Derived.OpenShut
set_option linter.unusedVariables false
set_option linter.unusedSimpArgs false
namespace Go.Proofs.YtjdnnpfhlkgooaaDoor.Rd
open Go.ChangeShapes Go.RowKit Go.Proofs.YtjdnnpfhlkgooaaDoorW.PrintWords Go.Proofs.YtjdnnpfhlkgooaaDoorW.PrintMore Go.Proofs.YtjdnnpfhlkgooaaDoor.Kit

theorem star : "*" ++ "errors.errorString" = "*errors.errorString" := by decide
theorem rowP (u : TypeId) (h : Tryd.prog.typeName? 3 u = some "*errors.errorString") : u = 209 :=
  typeName_ptr_named (nm := "errors.errorString") (by rw [star]; kernel_rfl) (by kernel_rfl) (by decide) u (by rw [star]; exact h)
/-- A listed error, of whatever program: its variable, the text behind its pointer, the block of that. -/
theorem sent_gen {P : Program} {n nm : String} {text : List UInt8} {r : List (String × DataW Unit)} {W : World} {g : Nat} {ti tp te ts : TypeId} {ms : Array (String × TypeId)} {f : Field}
    (h : laidMet P ((n, .iface nm (.ptr (.agg [.lit (.string text)]))) :: r) W)
    (hg : P.globalNamed n = some g) (ht : (P.globals[g]?).map (·.type) = some ti) (hi : P.underlying ti = some (.interface ms)) (hrow : ∀ u, P.typeName? 3 u = some nm → u = tp)
    (hp : P.underlying tp = some (.pointer te)) (he : P.underlying te = some (.struct #[f])) (hft : f.type = ts) (hfo : f.offset = 0) (hs : P.underlying ts = some .string) (hc : P.cellsOf te = 1) (hcs : P.cellsOf ts = 1) :
    ∃ (a : Addr) (s : ByteArray), W.cell? ⟨g, 0, none⟩ = some (.iface tp (.pointer (some a))) ∧ W.cell? a = some (.string s) ∧ s.data.toList = text ∧ ∃ c t, W.heap[a.block]? = some (.cells c t (0, 0)) := by
  obtain ⟨ps, ⟨g0, t0, cs0, f0, p0, q0, hg0, ht0, hv0, hd0, _, e0⟩, _, hrows⟩ := h
  obtain rfl := Option.some.inj (hg.symm.trans hg0)
  obtain rfl := Option.some.inj (ht.symm.trans ht0)
  subst e0
  obtain ⟨l0⟩ := cs0
  have ok0 : ∀ u v, l0 = [.iface u v] → Value.okWide P W .any 0 u v := fun u v e => by
    subst e
    exact (hrows g 0 (by simp [MemPlace.row])).2 u v (by simpa using World.var?_cell hg0 hv0 0)
  obtain ⟨a0, s0, rfl, hc0, hs0, hz0, hq⟩ := errorString_of_trod hi hrow hp he hft hfo hs hc hcs hd0 ok0
  refine ⟨a0, s0, by simpa using World.var?_cell hg0 hv0 0, hc0, hs0, (hrows a0.block a0.off ?_).1⟩
  rw [hq]
  exact List.mem_append_left _ (List.mem_append_right _ (by simp [MemPlace.row]))
theorem c1 : Tryd.prog.cellsOf 236 = 1 := by kernel_rfl
theorem c2 : Tryd.prog.cellsOf 9 = 1 := by kernel_rfl
theorem sent_of {n : String} {text : List UInt8} {r : List (String × DataW Unit)} {W : World} {g : Nat}
    (h : laidMet Tryd.prog ((n, .iface "*errors.errorString" (.ptr (.agg [.lit (.string text)]))) :: r) W)
    (hg : Tryd.prog.globalNamed n = some g) (ht : (Tryd.prog.globals[g]?).map (·.type) = some 85) :
    ∃ (a : Addr) (s : ByteArray), W.cell? ⟨g, 0, none⟩ = some (.iface 209 (.pointer (some a))) ∧ W.cell? a = some (.string s) ∧ s.data.toList = text ∧ ∃ c t, W.heap[a.block]? = some (.cells c t (0, 0)) :=
  sent_gen h hg ht Tryd.underlying85 rowP Tryd.underlying209 Tryd.underlying236 rfl rfl Tryd.underlying9 c1 c2
theorem env_of {W : World} (h : laidMet Tryd.prog [("io.EOF", Rows.laid_io_EOF), ("io.ErrUnexpectedEOF", Rows.laid_io_ErrUnexpectedEOF)] W) : ∃ aE aU, Env W W.heap.size aE aU := by
  obtain ⟨aE, sE, vE, cE, tE, hE⟩ := sent_of h (g := 0) (by kernel_rfl) (by kernel_rfl)
  obtain ⟨aU, sU, vU, cU, tU, hU⟩ := sent_of h.tail (g := 1) (by kernel_rfl) (by kernel_rfl)
  exact ⟨aE, aU, {
    e := vE
    u := vU
    ne := fun q => by
      subst q
      have := Option.some.inj (cE.symm.trans cU)
      simp only [Value.string.injEq] at this
      subst this
      rw [tE] at tU
      exact absurd tU (by decide)
    he := hE
    hu := hU
    de := World.block_lt_of_cell? W _ cE
    du := World.block_lt_of_cell? W _ cU
    ge := World.block_lt_of_cell? W _ vE
    gu := World.block_lt_of_cell? W _ vU }⟩
end Go.Proofs.YtjdnnpfhlkgooaaDoor.Rd
