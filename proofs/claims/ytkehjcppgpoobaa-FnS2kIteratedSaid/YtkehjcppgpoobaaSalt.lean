/- What a stretching by a hash knows of memory: the digest, its last sum, the area that is filled. -/
import Derived.Test.YtkehjcppgpoobaaDig3
import Derived.Test.YtkehjcppgpoobaaMixQ
set_option linter.unusedVariables false
set_option linter.unusedSimpArgs false
namespace Go.Proofs.Ytkehjcppgpoobaa.Mix
open Go.RowKit Go.Proofs.YtkehjcppgpoobaaW.PrintWords Go.Proofs.YtkehjcppgpoobaaW.PrintMore Go.Proofs.Ytkehjcppgpoobaa.Kit

/-- Block k is none of a digest's. -/
structure Clear (k d g : Nat) (S M : Option Addr) (sub mask : List Int) : Prop where
  d : k ≠ d
  g : k ≠ g
  s : Off (fun b => b = k) S sub
  m : Off (fun b => b = k) M mask

structure Mid (w0 wr : World) (d : Nat) (S M : Option Addr) (cS cM g c : Nat) (sub mask x : List Int) (go size i : Nat) (dv : Value) (t : List Int) : Prop where
  dg : Dg w0.heap.size wr d S M cS cM g c sub mask t
  co : Clear go d g S M sub mask
  cd : ∀ k, dv.ownBlock = some k → Clear k d g S M sub mask ∧ k ≠ go
  dig : ∃ bl, R8 5 wr w0.heap.size dv bl ∧ bl.length ≤ 64
  out : R8 5 wr w0.heap.size (.slice (some ⟨go, 0, none⟩) size size) (outAt sub mask x size i)
  bel : Below w0.heap.size w0 wr

section
variable {w0 wr w1 : World} {d : Nat} {S M : Option Addr} {cS cM g c : Nat} {sub mask x : List Int} {go size i : Nat} {dv : Value} {t : List Int}
theorem Mid.bw (h : Mid w0 wr d S M cS cM g c sub mask x go size i dv t) : w0.heap.size ≤ wr.heap.size := h.bel.size
theorem Clear.fresh {base k : Nat} (h : Dg base wr d S M cS cM g c sub mask t) (hk : wr.heap.size ≤ k) : Clear k d g S M sub mask := by
  have h1 := h.dl
  have h2 := h.bg.2
  exact ⟨by omega, by omega, fun ad e hp b => by have := c8_lt h.rs ad e hp; omega, fun ad e hp b => by have := c8_lt h.rm ad e hp; omega⟩
theorem Clear.state {k g' : Nat} (h : Clear k d g S M sub mask) (hk : k ≠ g') : Clear k d g' S M sub mask := ⟨h.d, hk, h.s, h.m⟩
theorem Mid.below (h : Mid w0 wr d S M cS cM g c sub mask x go size i dv t) (hB : Below wr.heap.size wr w1) : Mid w0 w1 d S M cS cM g c sub mask x go size i dv t :=
  ⟨h.dg.below hB, h.co, h.cd, by obtain ⟨bl, h1, h2⟩ := h.dig; exact ⟨bl, Kd.R_below h1 hB, h2⟩, Kd.R_below h.out hB, below_then h.bel h.bw hB⟩
theorem own_lt8 {e base : Nat} {w : World} {v : Value} {l : List Int} (h : R8 e w base v l) {k : Nat} (hk : v.ownBlock = some k) : k < w.heap.size := Kd.R_lt h k hk
theorem Mid.reset (h : Mid w0 wr d S M cS cM g c sub mask x go size i dv t) (hX : DgX w0.heap.size w1 d S M cS cM sub mask [] wr.heap.size) (hT : Tch (fun k => k = d) wr w1) :
    ∃ g' c', Mid w0 w1 d S M cS cM g' c' sub mask x go size i dv [] ∧ wr.heap.size ≤ g' := by
  obtain ⟨g', c', hD, hg⟩ := hX
  obtain ⟨bl, h1, h2⟩ := h.dig
  have hgo : go < wr.heap.size := own_lt8 h.out rfl
  refine ⟨g', c', ⟨hD, h.co.state (by omega), fun k hk => ⟨(h.cd k hk).1.state (by have := own_lt8 h1 hk; omega), (h.cd k hk).2⟩, ⟨bl, hT.r8 h1 (fun k hk => (h.cd k hk).1.d), h2⟩, hT.r8 h.out (fun k hk => ?_), hT.below h.bel h.bw (fun k e => by subst e; exact h.dg.hd)⟩, hg⟩
  simp [Value.ownBlock] at hk
  subst hk
  exact h.co.d
theorem Mid.write {l : List Int} (h : Mid w0 wr d S M cS cM g c sub mask x go size i dv t) (hD : Dg w0.heap.size w1 d S M cS cM g c sub mask (t ++ l)) (hT : Tch (fun k => k = d ∨ k = g) wr w1) :
    Mid w0 w1 d S M cS cM g c sub mask x go size i dv (t ++ l) := by
  obtain ⟨bl, h1, h2⟩ := h.dig
  refine ⟨hD, h.co, h.cd, ⟨bl, hT.r8 h1 (fun k hk e => ?_), h2⟩, hT.r8 h.out (fun k hk e => ?_), hT.below h.bel h.bw (fun k e => ?_)⟩
  · rcases e with e | e
    · exact (h.cd k hk).1.d e
    · exact (h.cd k hk).1.g e
  · simp [Value.ownBlock] at hk
    subst hk
    rcases e with e | e
    · exact h.co.d e
    · exact h.co.g e
  · rcases e with rfl | rfl
    · exact h.dg.hd
    · exact h.dg.bg.1
theorem Mid.summed {v' dv0 : Value} {s : List Int} (h : Mid w0 wr d S M cS cM g c sub mask x go size i dv t) (h0 : dv0.ownBlock = dv.ownBlock) (hR : R8 5 w1 w0.heap.size v' s) (hs : s.length ≤ 64) (hG : wr.grownBy w1 dv0.ownBlock)
    (hA : v'.ownBlock = dv0.ownBlock ∨ ∃ b, v'.ownBlock = some b ∧ wr.heap.size ≤ b) : Mid w0 w1 d S M cS cM g c sub mask x go size i v' t := by
  rw [h0] at hG hA
  obtain ⟨bl, h1, h2⟩ := h.dig
  have hT := Tch.of_grown hG
  have hgo : go < wr.heap.size := own_lt8 h.out rfl
  refine ⟨h.dg.kept hT (fun e => (h.cd d e).1.d rfl) (fun e => (h.cd g e).1.g rfl) (fun ad e hp k => (h.cd _ k).1.s ad e hp rfl) (fun ad e hp k => (h.cd _ k).1.m ad e hp rfl), h.co, fun k hk => ?_, ⟨s, hR, hs⟩, hT.r8 h.out (fun k hk e => ?_), hT.below h.bel h.bw (fun k e => Kd.R_base h1 k e)⟩
  · rcases hA with e | ⟨b, e, hb⟩
    · exact h.cd k (by rw [← e]; exact hk)
    · rw [hk] at e
      injection e with e
      subst e
      exact ⟨Clear.fresh h.dg hb, by omega⟩
  · simp [Value.ownBlock] at hk
    subst hk
    exact (h.cd _ e).2 rfl
theorem Mid.copied (h : Mid w0 wr d S M cS cM g c sub mask x go size i dv t) (hR : R8 5 w1 w0.heap.size (.slice (some ⟨go, 0, none⟩) size size) (outAt sub mask x size (i + 1))) (hG : wr.grownBy w1 (some go)) :
    Mid w0 w1 d S M cS cM g c sub mask x go size (i + 1) dv t := by
  obtain ⟨bl, h1, h2⟩ := h.dig
  have hT := Tch.of_grown hG
  have hgo : w0.heap.size ≤ go := Kd.R_base h.out go rfl
  exact ⟨h.dg.kept hT (fun e => h.co.d (by injection e)) (fun e => h.co.g (by injection e)) (fun ad e hp k => h.co.s ad e hp (by injection k with k; exact k.symm)) (fun ad e hp k => h.co.m ad e hp (by injection k with k; exact k.symm)), h.co, h.cd,
    ⟨bl, hT.r8 h1 (fun k hk e => (h.cd k hk).2 (by injection e with e; exact e.symm)), h2⟩, hR, hT.below h.bel h.bw (fun k e => by injection e with e; subst e; exact hgo)⟩
theorem Mid.drew (h : Mid w0 wr d S M cS cM g c sub mask x go size i dv t) : Mid w0 wr.drew d S M cS cM g c sub mask x go size i dv t := h.below (below_drew (Below.refl _ _))
/-- What came in lies in none of the digest's blocks. -/
theorem Mid.old {A : Option Addr} {l : List Int} (h : Mid w0 wr d S M cS cM g c sub mask x go size i dv t) (hl : C8 w0 A l) : Off (fun k => k = d ∨ k = g) A l := fun ad e hp k => by
  have h1 := c8_lt hl ad e hp
  have h2 := h.dg.hd
  have h3 := h.dg.bg.1
  omega
theorem Mid.fresh {l : List Int} (h : Mid w0 wr d S M cS cM g c sub mask x go size i dv t) {b : Nat} (hb : wr.heap.size ≤ b) : Off (fun k => k = d ∨ k = g) (some ⟨b, 0, none⟩) l := fun ad e hp k => by
  injection e with e
  subst e
  have h2 := h.dg.dl
  have h3 := h.dg.bg.2
  simp only at k
  omega
end
end Go.Proofs.Ytkehjcppgpoobaa.Mix
