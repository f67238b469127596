/- encoding.OID: Bytes, BitLength, EncodedBytes, EncodedLength; impl.field over it. -/
import Derived.Test.YtjdnnpfhlkgooaaDoorOid
import Derived.Test.YtjdnnpfhlkgooaaDoorOwn
import Derived.StillTail
import Derived.Great.BuildSlice
set_option linter.unusedVariables false
set_option linter.unusedSimpArgs false
namespace Go.Proofs.YtjdnnpfhlkgooaaDoor.Rd
open Go.RowKit Go.Proofs.YtjdnnpfhlkgooaaDoorW.PrintWords Go.Proofs.YtjdnnpfhlkgooaaDoorW.PrintMore Go.Proofs.YtjdnnpfhlkgooaaDoor.Kit

theorem lit1 (w : World) (x : Int) : R8 5 (w.alloc (.cells #[.int .u8 x] 5)) w.heap.size (.slice (some ⟨w.heap.size, 0, none⟩) 1 1) [x] := Kd.R_of_own (own_lit w w.heap.size 5 .u8 [x] (Nat.le_refl _) (by simp)) (fun _ _ => trivial)
theorem lit1H {w W : World} {x : Int} (h : W.heap = (w.alloc (.cells #[.int .u8 x] 5)).heap) : R8 5 W w.heap.size (.slice (some ⟨w.heap.size, 0, none⟩) 1 1) [x] := Kd.R_step (Kd.R_of_own (own_lit w w.heap.size 5 .u8 [x] (Nat.le_refl _) (by simp)) (fun _ _ => trivial)) (fun k _ _ => by rw [h]; rfl)
section
variable {P : Program} {ops : Array Oper} {o : Oper} {a : Act} {Q : Exit → Act → World → Prop} {K : Act → World → Prop} {E : Prop}
/-- append(v, xs...) as a step. -/
theorem appendS {W : World} (base : Nat) (hgd : o.guard = none) (s x : Operand) (t e : TypeId)
    (ho : o.op = .call { callee := .builtin .append, args := #[s, x], argTypes := #[t, t] })
    (ht : P.underlying t = some (.slice e)) (hinfo : (P.info? e).map (fun i => (i.zero, i.size, i.bytes)) = some (some (.int .u8 0), 1, 1))
    (v : Value) (xs ys : List Int) (A : Option Addr) (c : Nat) {m : Nat} (hs : a.eval s = v) (hx : a.eval x = .slice A m c) (hmy : m = ys.length)
    (HO : R8 e W base v xs) (HR : C8 W A ys) (hbase : base ≤ W.heap.size) (hl : xs.length + ys.length ≤ 140737488355328)
    (h : ∀ v1 w1, R8 e w1 base v1 (xs ++ ys) → Below base W w1 → W.grownBy w1 v.ownBlock → (v1.ownBlock = v.ownBlock ∨ ∃ b, v1.ownBlock = some b ∧ W.heap.size ≤ b) → K (a.put o.dst v1) w1) :
    if Region.wanted o (yielded ops a.tmps) = true then Oper.wp P o a W K Q else E := by
  subst hmy
  have hw : Region.wanted o (yielded ops a.tmps) = true := by simp [Region.wanted, hgd]
  have := Kd.R_append_rows_step (P := P) (ops := ops) (o := o) (a := a) (Q := Q) (Kc := K) (Kd.int .u8) (w0 := W) base hw s x t e (.int .u8 0) 1 ho ht hinfo rfl (by decide) (by decide) v xs ys A ys.length c (fun _ => True) (fun _ => False) hs hx HO HR (fun _ _ h => h) (fun _ h => h.elim) (fun _ _ => trivial) (Below.refl _ _) hbase (by omega) h
  rw [if_pos hw] at this
  rw [if_pos hw]
  exact this
end
section
variable {w : World} {o m : Nat} {B : Option Addr} {cb : Nat}
end
theorem tch_row {w : World} {g : Nat} (cs : Array Value) : Tch (fun j => j = g) w (w.setRow g cs) := by
  refine ⟨rfl, rfl, rfl, by simp, fun k hk hn => ?_⟩
  show (w.heap.modify g _)[k]? = _
  rw [Array.getElem?_modify, if_neg (fun e => hn e.symm)]
theorem row_set {w : World} {g : Nat} {cs old : Array Value} {t : TypeId} (h : w.heap[g]? = some (.cells old t (0, 0))) : (w.setRow g cs).heap[g]? = some (.cells cs t (0, 0)) := by
  show (w.heap.modify g _)[g]? = _
  rw [Array.getElem?_modify, if_pos rfl, h]
  rfl
theorem off_of {e base g n c : Nat} {w : World} {A : Option Addr} {l : List Int} (h : R8 e w base (.slice A n c) l) (hg : g < base) : Off (fun j => j = g) A l := fun ad e _ q => by
  subst e
  have := Kd.R_base h ad.block rfl
  omega
theorem off_lt {e base d n c : Nat} {w : World} {A : Option Addr} {l : List Int} (h : R8 e w base (.slice A n c) l) (hg : d ≤ base) : Off (fun j => j < d) A l := fun ad e _ q => by
  subst e
  have := Kd.R_base h ad.block rfl
  omega
end Go.Proofs.YtjdnnpfhlkgooaaDoor.Rd
