/- Rows of numbers of any kind: laid out, appended to (as Kit has it for bytes). -/
import Derived.Test.YtchihobchpipfaaKit
set_option linter.unusedVariables false
set_option linter.unusedSimpArgs false
namespace Go.Proofs.Ytchihobchpipfaa.Kit
open Go.RowKit Go.Proofs.YtchihobchpipfaaW.PrintWords
/-- A slice of numbers that reads as l; one of the call's own. -/
abbrev CN (k : IntKind) (w : World) (A : Option Addr) (l : List Int) : Prop := Kd.C (Kd.int k) w A l.length l
abbrev RN (k : IntKind) (e : Nat) (w : World) (base : Nat) (v : Value) (l : List Int) : Prop := Kd.R (Kd.int k) e w base (fun _ => True) v l
theorem rn_reads {k : IntKind} {e : Nat} {w : World} {base : Nat} {v : Value} {l : List Int} (h : RN k e w base v l) : ∃ A c, v = .slice A l.length c ∧ l.length ≤ c ∧ CN k w A l := Kd.R_reads h
section
variable {P : Program} {ops : Array Oper} {rest : List Oper} {o : Oper} {a : Act} {Q : Exit → Act → World → Prop} (k : IntKind)
theorem litN {w0 W : World} (base e : Nat) (hgd : o.guard = none) {N : Tmp} (hd : o.dst = some N) (xs : List Int)
    (hrun : (execOp a.eval o).run P W = .ok (.value (.slice (some ⟨W.heap.size, 0, none⟩) xs.length xs.length)) (W.alloc (.cells (nums k xs).toArray e)))
    (HB : Below base w0 W) (hbase : base ≤ W.heap.size) (hm : xs.length ≤ 9223372036854775807)
    (h : ∀ g w1, base ≤ g → W.heap.size ≤ g → g < w1.heap.size → RN k e w1 base (.slice (some ⟨g, 0, none⟩) xs.length xs.length) xs → Below base w0 w1 → Below W.heap.size W w1 → wpList P ops Q rest (a.put o.dst (.slice (some ⟨g, 0, none⟩) xs.length xs.length)) w1) :
    wpList P ops Q (o :: rest) a W :=
  Kd.event_run hgd hrun (h W.heap.size _ hbase (Nat.le_refl _) (by simp) (Kd.R_of_own (own_lit W base e k xs hbase hm) (fun _ _ => trivial)) (HB.alloc hbase _) (below_alloc (Below.refl _ _) _))
theorem appendN {w0 W : World} (base bytes : Nat) (hgd : o.guard = none) (s x : Operand) (t e : TypeId)
    (ho : o.op = .call { callee := .builtin .append, args := #[s, x], argTypes := #[t, t] })
    (ht : P.underlying t = some (.slice e)) (hinfo : (P.info? e).map (fun i => (i.zero, i.size, i.bytes)) = some (some (.int k 0), 1, bytes)) (hb0 : 0 < bytes) (hb8 : bytes ≤ 8)
    (v : Value) (xs ys : List Int) (A : Option Addr) (c : Nat) {m : Nat} (hs : a.eval s = v) (hx : a.eval x = .slice A m c) (hmy : m = ys.length)
    (HO : RN k e W base v xs) (HR : CN k W A ys) (HB : Below base w0 W) (hbase : base ≤ W.heap.size) (hl : xs.length + ys.length ≤ 17592186044416)
    (h : ∀ v1 w1, RN k e w1 base v1 (xs ++ ys) → Below base w0 w1 → W.grownBy w1 v.ownBlock → (v1.ownBlock = v.ownBlock ∨ ∃ b, v1.ownBlock = some b ∧ W.heap.size ≤ b) → wpList P ops Q rest (a.put o.dst v1) w1) :
    wpList P ops Q (o :: rest) a W := by
  subst hmy
  exact Kd.R_append_rows (Kd.int k) (w0 := w0) base hgd s x t e (.int k 0) bytes ho ht hinfo rfl Nat.zero_lt_one hb0 v xs ys A ys.length c (fun _ => True) (fun _ => False) hs hx HO HR (fun _ _ h => h) (fun _ h => h.elim) (fun _ _ => trivial) HB hbase (by
    have := Nat.mul_le_mul hl hb8
    omega) h
end
end Go.Proofs.Ytchihobchpipfaa.Kit
