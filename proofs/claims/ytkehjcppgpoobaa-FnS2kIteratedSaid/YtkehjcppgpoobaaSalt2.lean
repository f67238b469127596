/- Stretching by a hash, beside a row that is only read: what it knows of memory. -/
import Derived.Test.YtkehjcppgpoobaaSaltW
set_option linter.unusedVariables false
set_option linter.unusedSimpArgs false
namespace Go.Proofs.Ytkehjcppgpoobaa.Mix
open Go.RowKit Go.Proofs.YtkehjcppgpoobaaW.PrintWords Go.Proofs.YtkehjcppgpoobaaW.PrintMore Go.Proofs.Ytkehjcppgpoobaa.Kit

structure MidX (w0 wk wr : World) (d : Nat) (S M : Option Addr) (cS cM g0 g c : Nat) (sub mask x : List Int) (go size i : Nat) (dv : Value) (t : List Int) : Prop where
  mid : Mid w0 wr d S M cS cM g c sub mask x go size i dv t
  same : Tch (fun k => k = d ∨ k = go ∨ k = g0) wk wr
  gx : g = g0 ∨ wk.heap.size ≤ g
  dx : ∀ k, dv.ownBlock = some k → wk.heap.size ≤ k

section
variable {w0 wk wr w1 : World} {d : Nat} {S M : Option Addr} {cS cM g0 g c : Nat} {sub mask x : List Int} {go size i : Nat} {dv : Value} {t : List Int}
theorem MidX.below (h : MidX w0 wk wr d S M cS cM g0 g c sub mask x go size i dv t) (hB : Below wr.heap.size wr w1) : MidX w0 wk w1 d S M cS cM g0 g c sub mask x go size i dv t :=
  ⟨h.mid.below hB, h.same.step (Tch.of_below (S := fun _ => False) hB) (fun k e => e.elim), h.gx, h.dx⟩
theorem MidX.drew (h : MidX w0 wk wr d S M cS cM g0 g c sub mask x go size i dv t) : MidX w0 wk wr.drew d S M cS cM g0 g c sub mask x go size i dv t := h.below (below_drew (Below.refl _ _))
theorem MidX.reset (h : MidX w0 wk wr d S M cS cM g0 g c sub mask x go size i dv t) (hX : DgX w0.heap.size w1 d S M cS cM sub mask [] wr.heap.size) (hT : Tch (fun k => k = d) wr w1) :
    ∃ g' c', MidX w0 wk w1 d S M cS cM g0 g' c' sub mask x go size i dv [] := by
  obtain ⟨g', c', h1, h2⟩ := h.mid.reset hX hT
  exact ⟨g', c', h1, h.same.step hT (fun k e _ => .inl e), .inr (Nat.le_trans h.same.size h2), h.dx⟩
theorem MidX.write {l : List Int} (h : MidX w0 wk wr d S M cS cM g0 g c sub mask x go size i dv t) (hD : Dg w0.heap.size w1 d S M cS cM g c sub mask (t ++ l)) (hT : Tch (fun k => k = d ∨ k = g) wr w1) :
    MidX w0 wk w1 d S M cS cM g0 g c sub mask x go size i dv (t ++ l) :=
  ⟨h.mid.write hD hT, h.same.step hT (fun k e hk => by
    rcases e with e | e
    · exact .inl e
    · rcases h.gx with q | q
      · exact .inr (.inr (e.trans q))
      · omega), h.gx, h.dx⟩
theorem MidX.summed {v' dv0 : Value} {s : List Int} (h : MidX w0 wk wr d S M cS cM g0 g c sub mask x go size i dv t) (h0 : dv0.ownBlock = dv.ownBlock) (hR : R8 5 w1 w0.heap.size v' s) (hs : s.length ≤ 64) (hG : wr.grownBy w1 dv0.ownBlock)
    (hA : v'.ownBlock = dv0.ownBlock ∨ ∃ b, v'.ownBlock = some b ∧ wr.heap.size ≤ b) : MidX w0 wk w1 d S M cS cM g0 g c sub mask x go size i v' t := by
  refine ⟨h.mid.summed h0 hR hs hG hA, h.same.step (Tch.of_grown hG) (fun k e hk => ?_), h.gx, fun k hk => ?_⟩
  · rw [h0] at e
    have := h.dx k e
    omega
  · rcases hA with e | ⟨b, e, hb⟩
    · exact h.dx k (by rw [← h0, ← e]; exact hk)
    · rw [hk] at e
      injection e with e
      subst e
      exact Nat.le_trans h.same.size hb
theorem MidX.copied (h : MidX w0 wk wr d S M cS cM g0 g c sub mask x go size i dv t) (hR : R8 5 w1 w0.heap.size (.slice (some ⟨go, 0, none⟩) size size) (outAt sub mask x size (i + 1))) (hG : wr.grownBy w1 (some go)) :
    MidX w0 wk w1 d S M cS cM g0 g c sub mask x go size (i + 1) dv t :=
  ⟨h.mid.copied hR hG, h.same.step (Tch.of_grown hG) (fun k e _ => .inr (.inl (by injection e with e; exact e.symm))), h.gx, h.dx⟩
/-- The row that is only read. -/
structure Aside1 (wk : World) (d go g0 gc : Nat) (one : List Int) : Prop where
  c8 : C8 wk (some ⟨gc, 0, none⟩) one
  d : gc ≠ d
  o : gc ≠ go
  g : gc ≠ g0
  lt : gc < wk.heap.size
theorem MidX.row {gc : Nat} {one : List Int} (h : MidX w0 wk wr d S M cS cM g0 g c sub mask x go size i dv t) (hA : Aside1 wk d go g0 gc one) : C8 wr (some ⟨gc, 0, none⟩) one :=
  h.same.c8 hA.c8 (fun ad e _ k => by
    injection e with e
    subst e
    rcases k with k | k | k
    · exact hA.d k
    · exact hA.o k
    · exact hA.g k)
theorem MidX.off {gc : Nat} {one l : List Int} (h : MidX w0 wk wr d S M cS cM g0 g c sub mask x go size i dv t) (hA : Aside1 wk d go g0 gc one) : Off (fun k => k = d ∨ k = g) (some ⟨gc, 0, none⟩) l := fun ad e _ k => by
  injection e with e
  subst e
  rcases k with k | k
  · exact hA.d k
  · have k' : gc = g := k
    rcases h.gx with q | q
    · exact hA.g (k'.trans q)
    · have := hA.lt; omega
end

/-- A text again and again. -/
def repN (one : List Int) : Nat → List Int
  | 0 => []
  | k + 1 => repN one k ++ one
theorem repN_length (one : List Int) (k : Nat) : (repN one k).length = k * one.length := by
  induction k with
  | zero => simp [repN]
  | succ k ih => rw [repN, List.length_append, ih, Nat.succ_mul]
theorem repN_more (one : List Int) (i j : Nat) : ∃ r, repN one (i + j) = repN one i ++ r := by
  induction j with
  | zero => exact ⟨[], by simp⟩
  | succ j ih =>
    obtain ⟨r, hr⟩ := ih
    exact ⟨r ++ one, by rw [← Nat.add_assoc, repN, hr, List.append_assoc]⟩
theorem repN_take (one : List Int) (n i j : Nat) (hi : n ≤ i * one.length) (hj : n ≤ j * one.length) : (repN one i).take n = (repN one j).take n := by
  have key : ∀ a b, n ≤ a * one.length → (repN one (a + b)).take n = (repN one a).take n := fun a b h => by
    obtain ⟨r, hr⟩ := repN_more one a b
    rw [hr, List.take_append_of_le_length (by rw [repN_length]; exact h)]
  rcases Nat.le_total i j with h | h
  · obtain ⟨k, rfl⟩ := Nat.exists_eq_add_of_le h
    exact (key i k hi).symm
  · obtain ⟨k, rfl⟩ := Nat.exists_eq_add_of_le h
    exact key j k hj
/-- So many bytes of a text that is told again and again. -/
def cyc (one : List Int) (n : Nat) : List Int := (repN one n).take n
theorem cyc_eq (one : List Int) (n k : Nat) (h1 : 1 ≤ one.length) (hk : n ≤ k * one.length) : (repN one k).take n = cyc one n :=
  repN_take one n k n hk (by have := Nat.mul_le_mul_left n h1; omega)
theorem cyc_length (one : List Int) (n : Nat) (h1 : 1 ≤ one.length) : (cyc one n).length = n := by
  rw [cyc, List.length_take, repN_length]; have := Nat.mul_le_mul_left n h1; omega
theorem cyc_pre (one : List Int) (n j : Nat) (h1 : 1 ≤ one.length) (hj : j * one.length ≤ n) : (cyc one n).take (j * one.length) = repN one j := by
  have hjn : j ≤ n := by have := Nat.mul_le_mul_left j h1; omega
  obtain ⟨k, rfl⟩ := Nat.exists_eq_add_of_le hjn
  obtain ⟨r, hr⟩ := repN_more one j k
  rw [cyc, List.take_take, Nat.min_eq_left hj, hr, List.take_append_of_le_length (by rw [repN_length]; exact Nat.le_refl _), List.take_of_length_le (by rw [repN_length]; exact Nat.le_refl _)]
/-- One more whole text; a part of it. -/
theorem cyc_full (one : List Int) (n j : Nat) (h1 : 1 ≤ one.length) (hj : j * one.length + one.length ≤ n) : (cyc one n).take (j * one.length) ++ one = (cyc one n).take (j * one.length + one.length) := by
  have e : j * one.length + one.length = (j + 1) * one.length := (Nat.succ_mul _ _).symm
  rw [cyc_pre one n j h1 (by omega), e, cyc_pre one n (j + 1) h1 (by omega)]; rfl
theorem cyc_part (one : List Int) (n j : Nat) (h1 : 1 ≤ one.length) (hj : j * one.length ≤ n) (hj1 : n < j * one.length + one.length) : (cyc one n).take (j * one.length) ++ one.take (n - j * one.length) = cyc one n := by
  have e : j * one.length + one.length = (j + 1) * one.length := (Nat.succ_mul _ _).symm
  have e2 : (repN one j).take n = repN one j := List.take_of_length_le (by rw [repN_length]; exact hj)
  rw [cyc_pre one n j h1 hj, ← cyc_eq one n (j + 1) h1 (by omega), repN, List.take_append, repN_length, e2]
theorem repN_bytes {one : List Int} (h : Bytes one) (k : Nat) : Bytes (repN one k) := by
  induction k with
  | zero => exact nil_bytes
  | succ k ih =>
    intro j
    rw [repN, List.getD_eq_getElem?_getD, List.getElem?_append]
    split
    · rw [← List.getD_eq_getElem?_getD]; exact ih j
    · rw [← List.getD_eq_getElem?_getD]; exact h _
theorem cyc_bytes {one : List Int} (h : Bytes one) (n : Nat) : Bytes (cyc one n) := bytes_take (repN_bytes h n) n
end Go.Proofs.Ytkehjcppgpoobaa.Mix
