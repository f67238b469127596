/- What a call may touch: a set of blocks; all others are as they were. Rows of bytes and single cells that it does not touch are kept. -/
import Derived.Test.YtjdnnpfhlkgooaaDoorKit
import Derived.Handy
set_option linter.unusedVariables false
set_option linter.unusedSimpArgs false
namespace Go.Proofs.YtjdnnpfhlkgooaaDoor.Kit
open Go.RowKit Go.Proofs.YtjdnnpfhlkgooaaDoorW.PrintWords

/-- Of the blocks that were there only those in S may be otherwise. -/
structure Tch (S : Nat → Prop) (w w' : World) : Prop where
  os : w'.os = w.os
  tape : w'.tape = w.tape
  output : w'.output = w.output
  size : w.heap.size ≤ w'.heap.size
  block : ∀ k, k < w.heap.size → ¬ S k → w'.heap[k]? = w.heap[k]?

section
variable {S : Nat → Prop} {w w1 w2 w0 : World} {B : Nat}
theorem Tch.refl (S : Nat → Prop) (w : World) : Tch S w w := ⟨rfl, rfl, rfl, Nat.le_refl _, fun _ _ _ => rfl⟩
theorem Tch.trans (h : Tch S w w1) (k : Tch S w1 w2) : Tch S w w2 :=
  ⟨k.os.trans h.os, k.tape.trans h.tape, k.output.trans h.output, Nat.le_trans h.size k.size, fun i hi hn => (k.block i (Nat.lt_of_lt_of_le hi h.size) hn).trans (h.block i hi hn)⟩
theorem Tch.mono {S' : Nat → Prop} (h : Tch S w w1) (hS : ∀ k, S k → S' k) : Tch S' w w1 := ⟨h.os, h.tape, h.output, h.size, fun k hk hn => h.block k hk (fun hs => hn (hS k hs))⟩
/-- New blocks beyond the heap's size need not be named. -/
theorem Tch.step {S' : Nat → Prop} (h : Tch S w w1) (k : Tch S' w1 w2) (hS : ∀ k, S' k → k < w.heap.size → S k) : Tch S w w2 :=
  ⟨k.os.trans h.os, k.tape.trans h.tape, k.output.trans h.output, Nat.le_trans h.size k.size, fun i hi hn => (k.block i (Nat.lt_of_lt_of_le hi h.size) (fun hs => hn (hS i hs hi))).trans (h.block i hi hn)⟩
theorem Tch.of_below (h : Below w.heap.size w w1) : Tch S w w1 := ⟨h.os, h.tape, h.output, h.size, fun k hk _ => h.block k hk⟩
theorem Tch.of_grown {row : Option Nat} (h : w.grownBy w1 row) : Tch (fun k => row = some k) w w1 := ⟨h.os, h.tape, h.output, h.size, fun k hk hn => h.block k hk (fun e => hn e.symm)⟩
theorem Tch.drew (h : Tch S w w1) : Tch S w w1.drew := ⟨h.os, h.tape, h.output, h.size, h.block⟩
theorem Tch.drewN (h : Tch S w w1) (n : Nat) : Tch S w (w1.drewN n) := ⟨h.os, h.tape, h.output, h.size, h.block⟩
theorem Tch.alloc (h : Tch S w w1) (o : Obj) : Tch S w (w1.alloc o) :=
  h.trans ⟨rfl, rfl, rfl, by simp, fun k hk _ => Below.heap_alloc _ _ _ hk⟩
theorem Tch.setCell (h : Tch S w w1) {p : Addr} (hp : p.block < w.heap.size → S p.block) (u : Value) : Tch S w (w1.setCell p u) :=
  h.step (S' := fun k => k = p.block) ⟨rfl, rfl, rfl, by simp [World.setCell], fun k _ hn => Below.heap_setCell _ _ _ _ hn⟩ (fun k e hk => by subst e; exact hp hk)
theorem Tch.cell (h : Tch S w w1) {p : Addr} {v : Value} (hc : w.cell? p = some v) (hn : ¬ S p.block) : w1.cell? p = some v :=
  (World.cell?_of_block (w := w) (h.block p.block (World.block_lt_of_cell? w p hc) hn)).trans hc
theorem Tch.frozen (h : Tch S w w1) {p : Addr} (hl : p.block < w.heap.size) (hn : ¬ S p.block) : w1.frozen? p = w.frozen? p := World.frozen?_of_block (w := w) (h.block p.block hl hn)
theorem Tch.below (h : Tch S w w1) (hB : Below B w0 w) (hz : B ≤ w.heap.size) (hS : ∀ k, S k → B ≤ k) : Below B w0 w1 :=
  hB.trans ⟨h.os, h.tape, h.output, h.size, fun k hk => h.block k (Nat.lt_of_lt_of_le hk hz) (fun hs => Nat.lt_irrefl _ (Nat.lt_of_lt_of_le hk (hS k hs)))⟩
/-- The bytes lie in none of S. -/
def Off (S : Nat → Prop) (A : Option Addr) (l : List Int) : Prop := ∀ ad, A = some ad → 0 < l.length → ¬ S ad.block
theorem Tch.c8 {A : Option Addr} {l : List Int} (h : Tch S w w1) (hc : C8 w A l) (ho : Off S A l) : C8 w1 A l := by
  refine ⟨hc.1, hc.2.1, fun hn => ?_⟩
  obtain ⟨ad, he, hcc⟩ := hc.2.2 hn
  refine ⟨ad, he, fun j p hj => ?_⟩
  obtain ⟨cs, h1, h2, h3⟩ := hcc j p hj
  refine ⟨cs, h1, h2, fun i u hu => ?_⟩
  exact h.cell (h3 i u hu) (by rw [add_block]; exact ho ad he hn)
theorem Tch.r8 {e base : Nat} {v : Value} {l : List Int} (h : Tch S w w1) (hr : R8 e w base v l) (ho : ∀ g, v.ownBlock = some g → ¬ S g) : R8 e w1 base v l :=
  Kd.R_mono (Kd.R_step (Kd.R_tight rfl hr) (fun k hk hlt => h.block k hlt (ho k hk.symm))) (fun _ _ => trivial)
end
end Go.Proofs.YtjdnnpfhlkgooaaDoor.Kit
