/- The buffers that io.ReadAll makes: their whole capacity as a row of the call's own. -/
import Derived.Test.YtfhefoaieefnkaaDoorRab
import Derived.Lib.AppendZeros
set_option linter.unusedVariables false
set_option linter.unusedSimpArgs false
namespace Go.Proofs.YtfhefoaieefnkaaDoor.Rd
open Go.RowKit Go.Proofs.YtfhefoaieefnkaaDoorW.PrintWords Go.Proofs.YtfhefoaieefnkaaDoorW.PrintMore Go.Proofs.YtfhefoaieefnkaaDoor.Kit

section
variable {P : Program} {ops : Array Oper} {rest : List Oper} {o : Oper} {a : Act} {Q : Exit → Act → World → Prop}
/-- make([]byte, 0, n): its capacity is a row of zeros. -/
theorem makeC {w0 W : World} (base : Nat) (hgd : o.guard = none) {N : Tmp} (hd : o.dst = some N) (t e : TypeId) (x y : Operand) (ho : o.op = .makeSlice t x y) (n : Nat) {m : Int} (hx : a.eval x = .int .i64 0) (hy : a.eval y = .int .i64 m) (hmn : m = (n : Int))
    (ht : P.underlying t = some (.slice e)) (hinfo : (P.info? e).map (fun i => (i.zero, i.size, i.bytes)) = some (some (.int .u8 0), 1, 1)) (hn : n ≤ 281474976710656) (HB : Below base w0 W) (hbase : base ≤ W.heap.size)
    (h : ∀ g w1, base ≤ g → W.heap.size ≤ g → g < w1.heap.size → R8 e w1 base (.slice (some ⟨g, 0, none⟩) n n) (List.replicate n 0) → Below base w0 w1 → Below W.heap.size W w1 → wpList P ops Q rest (a.put o.dst (.slice (some ⟨g, 0, none⟩) 0 n)) w1) :
    wpList P ops Q (o :: rest) a W := by
  subst hmn
  obtain ⟨i0, hi, hzz⟩ := Option.map_eq_some_iff.1 hinfo
  simp only [Prod.mk.injEq] at hzz
  obtain ⟨hz0, hz1, hz2⟩ := hzz
  have hr := run_make (P := P) W t e i0 (.int .u8 0) ht hi hz0 .i64 .i64 0 (n : Int) (by omega) (by omega) (by rw [hz2]; omega) (by omega)
  simp only [Int.toNat_natCast] at hr
  rw [hz1, Nat.mul_one] at hr
  refine Kd.event_run hgd (v := .slice (some ⟨W.heap.size, 0, none⟩) 0 n) (w1 := W.alloc (.cells (madeCells (Value.int IntKind.u8 0).cells n) e)) ?_ (h W.heap.size _ hbase (Nat.le_refl _) (by simp) ?_ (HB.alloc hbase _) (below_alloc (Below.refl _ _) _))
  · simp [execOp, ho, hx, hy, hr]
  · refine Kd.R_of_own (v := .slice (some ⟨W.heap.size, 0, none⟩) n n) ?_ (fun _ _ => trivial)
    rw [List.length_replicate]
    exact own_made W base e .u8 n hbase (by omega)
theorem zeros8 (n : Nat) : Builtin.zeroCells (Value.int .u8 0).cells n = (nums .u8 (List.replicate n 0)).toArray := by
  apply Array.ext
  · simp [Builtin.zeroCells, nums, Value.cells]
  · intro i h1 h2
    simp [Builtin.zeroCells, nums, Value.cells, Nat.mod_one]
/-- append(nil, make([]byte, n)..), n at least 1: its whole capacity is a row of zeros. -/
theorem growZ {w0 W : World} (base : Nat) (hgd : o.guard = none) {N : Tmp} (hd : o.dst = some N) (t tn e : TypeId) (x y : Operand) (ho : o.op = .call { callee := .builtin .append, args := #[x, y], argTypes := #[t, tn] }) (n : Nat) {m : Int} (hx : a.eval x = .slice none 0 0) (hy : a.eval y = .int .i64 m) (hmn : m = (n : Int)) (h0 : 0 < n)
    (ht : P.underlying t = some (.slice e)) (htn : P.underlying tn = some (.int .i64)) (hinfo : (P.info? e).map (fun i => (i.zero, i.size, i.bytes)) = some (some (.int .u8 0), 1, 1)) (hn : n ≤ 140737488355328) (HB : Below base w0 W) (hbase : base ≤ W.heap.size)
    (h : ∀ g C w1, n ≤ C → C ≤ 9223372036854775807 → base ≤ g → W.heap.size ≤ g → g < w1.heap.size → R8 e w1 base (.slice (some ⟨g, 0, none⟩) C C) (List.replicate C 0) → Below base w0 w1 → Below W.heap.size W w1 → wpList P ops Q rest (a.put o.dst (.slice (some ⟨g, 0, none⟩) n C)) w1) :
    wpList P ops Q (o :: rest) a W := by
  subst hmn
  obtain ⟨i0, hi, hzz⟩ := Option.map_eq_some_iff.1 hinfo
  simp only [Prod.mk.injEq] at hzz
  obtain ⟨hz0, hz1, hz2⟩ := hzz
  have hge := grownCap_ge W n 0 e
  have hcm : grownCap W n 0 e ≤ maxLen := grownCap_le_maxLen W n 0 e (by simp only [maxLen]; omega)
  have hr := Go.Lib.run_append_nil_zeros (P := P) W t tn (o.type) e i0 (.int .u8 0) .i64 .i64 ht htn hi hz0 n h0 (by omega) (by omega) (by rw [hz2]; omega)
  generalize hC : grownCap W n 0 e = C at hr hge hcm
  have hcells : Builtin.zeroCells (Value.int .u8 0).cells n ++ Builtin.zeroCells (Value.int .u8 0).cells (C - n) = (nums .u8 (List.replicate C 0)).toArray := by
    rw [zeros8, zeros8]
    simp only [nums, List.map_replicate, List.append_toArray, List.replicate_append_replicate]
    rw [show n + (C - n) = C by omega]
  rw [hcells] at hr
  have lC : (List.replicate C (0 : Int)).length = C := List.length_replicate
  have own := own_lit W.drew base e .u8 (List.replicate C 0) hbase (by rw [lC]; simp only [maxLen] at hcm; omega)
  rw [lC] at own
  refine Kd.event_run hgd (v := .slice (some ⟨W.heap.size, 0, none⟩) n C) (w1 := W.drew.alloc (.cells (nums .u8 (List.replicate C 0)).toArray e)) ?_ (h W.heap.size C _ hge (by simpa [maxLen] using hcm) hbase (Nat.le_refl _) (by simp) ?_ ((below_drew HB).alloc hbase _) ((below_drew (Below.refl _ _)).alloc (Nat.le_refl _) _))
  · simp [execOp, ho, resolve, invoke, builtin, Sem.run_bind, Sem.run_pure, Result.andThen_ok, hx, hy, hr]
  · refine Kd.R_of_own (v := .slice (some ⟨W.heap.size, 0, none⟩) C C) ?_ (fun _ _ => trivial)
    rw [lC]
    exact own
/-- make([][]byte, 0, n): no rows yet. -/
theorem makeN0 {α : Type} (d : Kd α) {w0 W : World} (base : Nat) (hgd : o.guard = none) {N : Tmp} (hd : o.dst = some N) (t e : TypeId) (x y : Operand) (ho : o.op = .makeSlice t x y) (n : Nat) {m : Int} (hx : a.eval x = .int .i64 0) (hy : a.eval y = .int .i64 m) (hmn : m = (n : Int)) {z : Value} {bytes : Nat} {ok : Nat → Prop}
    (ht : P.underlying t = some (.slice e)) (hinfo : (P.info? e).map (fun i => (i.zero, i.size, i.bytes)) = some (some z, d.sz, bytes)) (hz : z.cells.size = d.sz) (hn : bytes * n ≤ 281474976710656) (hn2 : n ≤ 100000000) (hok : ok W.heap.size) (HB : Below base w0 W) (hbase : base ≤ W.heap.size)
    (h : ∀ g w1, base ≤ g → W.heap.size ≤ g → g < w1.heap.size → Kd.N d e w1 base ok (.slice (some ⟨g, 0, none⟩) 0 n) [] → Below base w0 w1 → Below W.heap.size W w1 → wpList P ops Q rest (a.put o.dst (.slice (some ⟨g, 0, none⟩) 0 n)) w1) :
    wpList P ops Q (o :: rest) a W := by
  subst hmn
  obtain ⟨i0, hi, hzz⟩ := Option.map_eq_some_iff.1 hinfo
  simp only [Prod.mk.injEq] at hzz
  obtain ⟨hz0, hz1, hz2⟩ := hzz
  have hr := run_make (P := P) W t e i0 z ht hi hz0 .i64 .i64 0 (n : Int) (by omega) (by omega) (by rw [hz2, ← Int.natCast_mul]; omega) (by omega)
  simp only [Int.toNat_natCast] at hr
  rw [hz1] at hr
  refine Kd.event_run hgd (v := .slice (some ⟨W.heap.size, 0, none⟩) 0 n) (w1 := W.alloc (.cells (madeCells z.cells (n * d.sz)) e)) ?_ (h W.heap.size _ hbase (Nat.le_refl _) (by simp) ?_ (HB.alloc hbase _) (below_alloc (Below.refl _ _) _))
  · simp [execOp, ho, hx, hy, hr]
  · refine ⟨fun k hk => ?_, [], rfl, ⟨fun k hk => hk.symm, [], ⟨by simp, .inr ⟨W.heap.size, n, _, rfl, hbase, heap_alloc_new _ _, Nat.zero_le _, by simp only [maxLen]; omega, by simp [madeCells, Kd.raw], by simp⟩⟩, ?_⟩, fun j x c hx => by simp at hx⟩
    · have : W.heap.size = k := by simpa [Value.ownBlock] using hk
      rw [← this]; exact hok
    · exact Reps.none _ _
end
/-- A row of the call's own, cut to its first n elements: the capacity stays. -/
theorem short8 {e : TypeId} {w : World} {base g C n : Nat} {xs : List Int} (h : R8 e w base (.slice (some ⟨g, 0, none⟩) C C) xs) (hn : n ≤ C) : R8 e w base (.slice (some ⟨g, 0, none⟩) n C) (xs.take n) := by
  have hlen := (Kd.R_reads' h).1
  obtain ⟨h1, h2⟩ := Kd.own_of_R h
  have ln : (xs.take n).length = n := by rw [List.length_take]; omega
  rcases h2 with ⟨h2, _⟩ | ⟨g2, cap, cur, hv, hb, hg, hc, hm, hs, ht⟩
  · cases h2
  · have e1 : g = g2 := by injection hv with hv; injection hv with hv; injection hv
    have e2 : C = cap := by injection hv
    subst e1 e2
    have own : w.ownsRow base e 1 (.slice (some ⟨g, 0, none⟩) n C) n (encs (Value.int .u8) (xs.take n)) := by
      refine ⟨by simp only [encs, List.length_map, ln, Nat.mul_one], .inr ⟨g, C, cur, rfl, hb, hg, hn, hm, hs, ?_⟩⟩
      have t1 : (encs (Value.int .u8) (xs.take n)) = (encs (Value.int .u8) xs).take n := by simp [encs, List.map_take]
      rw [t1, ← ht, List.take_take, Nat.mul_one, Nat.mul_one, Nat.min_eq_left (by omega)]
    exact Kd.R_of_own (v := .slice (some ⟨g, 0, none⟩) n C) (by rw [ln]; exact own) (fun _ _ => trivial)
end Go.Proofs.YtfhefoaieefnkaaDoor.Rd
