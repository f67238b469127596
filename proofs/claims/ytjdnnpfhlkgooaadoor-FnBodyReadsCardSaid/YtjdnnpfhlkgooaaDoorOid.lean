/- encoding.OID.ReadFrom over impl.source. -/
import Derived.Test.YtjdnnpfhlkgooaaDoorRl
set_option linter.unusedVariables false
set_option linter.unusedSimpArgs false
namespace Go.Proofs.YtjdnnpfhlkgooaaDoor.Rd
open Go.RowKit Go.Proofs.YtjdnnpfhlkgooaaDoorW.PrintWords Go.Proofs.YtjdnnpfhlkgooaaDoorW.PrintMore Go.Proofs.YtjdnnpfhlkgooaaDoor.Kit

theorem obuf (w : World) : ∃ W, w.alloc (.cells #[.int .u8 0] 181) = W ∧ R8 181 W w.heap.size (.slice (some ⟨w.heap.size, 0, none⟩) 1 1) [0] ∧ Below w.heap.size w W :=
  ⟨_, rfl, Kd.R_of_own (own_lit w w.heap.size 181 .u8 [0] (Nat.le_refl _) (by simp)) (fun _ _ => trivial), below_alloc (Below.refl _ _) _⟩
/-- make([]byte, n) at a byte n. -/
theorem makeU {P : Program} {ops : Array Oper} {rest : List Oper} {o : Oper} {a : Act} {Q : Exit → Act → World → Prop} {w0 W : World} (base : Nat) (hgd : o.guard = none) {N : Tmp} (hd : o.dst = some N) (t e : TypeId) (x y : Operand) (ho : o.op = .makeSlice t x y) (n : Nat) {m : Int} (hx : a.eval x = .int .u8 m) (hy : a.eval y = .int .u8 m) (hmn : m = (n : Int))
    (ht : P.underlying t = some (.slice e)) (hinfo : (P.info? e).map (fun i => (i.zero, i.size, i.bytes)) = some (some (.int .u8 0), 1, 1)) (hn : n ≤ 255) (HB : Below base w0 W) (hbase : base ≤ W.heap.size)
    (h : ∀ g w1, base ≤ g → W.heap.size ≤ g → g < w1.heap.size → R8 e w1 base (.slice (some ⟨g, 0, none⟩) n n) (List.replicate n 0) → Below base w0 w1 → Below W.heap.size W w1 → wpList P ops Q rest (a.put o.dst (.slice (some ⟨g, 0, none⟩) n n)) w1) :
    wpList P ops Q (o :: rest) a W := by
  subst hmn
  obtain ⟨i0, hi, hzz⟩ := Option.map_eq_some_iff.1 hinfo
  simp only [Prod.mk.injEq] at hzz
  obtain ⟨hz0, hz1, hz2⟩ := hzz
  have hr := run_make (P := P) W t e i0 (.int .u8 0) ht hi hz0 .u8 .u8 (n : Int) (n : Int) (by omega) (by omega) (by rw [hz2]; omega) (by omega)
  simp only [Int.toNat_natCast] at hr
  rw [hz1, Nat.mul_one] at hr
  refine Kd.event_run hgd (v := .slice (some ⟨W.heap.size, 0, none⟩) n n) (w1 := W.alloc (.cells (madeCells (Value.int IntKind.u8 0).cells n) e)) ?_ (h W.heap.size _ hbase (Nat.le_refl _) (by simp) ?_ (HB.alloc hbase _) (below_alloc (Below.refl _ _) _))
  · simp [execOp, ho, hx, hy, hr]
  · refine Kd.R_of_own (v := .slice (some ⟨W.heap.size, 0, none⟩) n n) ?_ (fun _ _ => trivial)
    rw [List.length_replicate]
    exact own_made W base e .u8 n hbase (by omega)
end Go.Proofs.YtjdnnpfhlkgooaaDoor.Rd
