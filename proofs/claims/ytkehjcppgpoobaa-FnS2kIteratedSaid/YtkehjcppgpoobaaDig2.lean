/- impl's hash of plain data: begun anew, asked for its sum, made. -/
import Derived.Test.YtkehjcppgpoobaaDig
import Derived.Deep.RegionHeld3
set_option linter.unusedVariables false
set_option linter.unusedSimpArgs false
namespace Go.Proofs.Ytkehjcppgpoobaa.Mix
open Go.RowKit Go.Proofs.YtkehjcppgpoobaaW.PrintWords Go.Proofs.YtkehjcppgpoobaaW.PrintMore Go.Proofs.Ytkehjcppgpoobaa.Kit

theorem below_of_grown {w w1 : World} (h : w.grownBy w1 none) : Below w.heap.size w w1 := ⟨h.os, h.tape, h.output, h.size, fun k hk => h.block k hk (by simp)⟩

/-- A digest at block d, whatever its state. -/
structure Dg0 (w : World) (d : Nat) (S M : Option Addr) (cS cM : Nat) (sub mask : List Int) : Prop where
  c0 : w.cell? ⟨d, 0, none⟩ = some (.slice S sub.length cS)
  c1 : w.cell? ⟨d, 1, none⟩ = some (.slice M mask.length cM)
  c2 : ∃ v, w.cell? ⟨d, 2, none⟩ = some v
  c3 : ∃ v, w.cell? ⟨d, 3, none⟩ = some v
  z2 : w.frozen? ⟨d, 2, none⟩ = false
  z3 : w.frozen? ⟨d, 3, none⟩ = false
  rs : C8 w S sub
  rm : C8 w M mask
  oS : Off (fun k => k = d) S sub
  oM : Off (fun k => k = d) M mask
  sl : sub.length = 256
  m1 : 1 ≤ mask.length
  m2 : mask.length ≤ 64
  bS : Bytes sub
  bM : Bytes mask
theorem Dg.zero {base : Nat} {w : World} {d : Nat} {S M : Option Addr} {cS cM g c : Nat} {sub mask t : List Int} (h : Dg base w d S M cS cM g c sub mask t) : Dg0 w d S M cS cM sub mask :=
  ⟨h.c0, h.c1, ⟨_, h.c2⟩, ⟨_, h.c3⟩, h.z2, h.z3, h.rs, h.rm, fun ad e hp k => h.oS ad e hp (.inl k), fun ad e hp k => h.oM ad e hp (.inl k), h.sl, h.m1, h.m2, h.bS, h.bM⟩
/-- A digest, its state wherever it lies. -/
def DgX (base : Nat) (w : World) (d : Nat) (S M : Option Addr) (cS cM : Nat) (sub mask t : List Int) (lo : Nat) : Prop := ∃ g c, Dg base w d S M cS cM g c sub mask t ∧ lo ≤ g
theorem nil_bytes : Bytes [] := fun i => by simp
theorem c8_lt {w : World} {A : Option Addr} {l : List Int} (h : C8 w A l) : ∀ ad, A = some ad → 0 < l.length → ad.block < w.heap.size := by
  rintro ad rfl hn
  obtain ⟨ad', h', hc⟩ := (Kd.reads_of_C (enc := Value.int .u8) (d := (0 : Int)) (h1 := fun _ => rfl) h).2.2 hn
  injection h' with h'
  subst h'
  have := World.block_lt_of_cell? w _ (hc 0 hn)
  rw [add_block] at this
  exact this

set_option maxHeartbeats 1600000 in
set_option maxRecDepth 100000 in
theorem reset_calls {base : Nat} {w : World} {d : Nat} {S M : Option Addr} {cS cM : Nat} {sub mask : List Int} (h : Dg0 w d S M cS cM sub mask) (hd : base ≤ d) :
    Calls Try.prog 61 #[.pointer (some ⟨d, 0, none⟩)] w fun e w' => e = .returned (.tuple #[]) ∧ DgX base w' d S M cS cM sub mask [] w.heap.size ∧ Tch (fun k => k = d) w w' := by
  have HD := Aside0.mk h
  have hdl := World.block_lt_of_cell? w _ h.c0
  simp only at hdl
  have c1 := h.c1
  obtain ⟨v2, c2⟩ := h.c2
  obtain ⟨v3, c3⟩ := h.c3
  have z2 := h.z2
  have z3 := h.z3
  clear h
  go_enter Try.func61, Try.ntmps61
  go_wp2_with ((with_reducible refine gate_dst (N := 8) rfl ?_); refine append8 w.heap.size (w0 := w) rfl (.const (.slice none 0 0)) (.tmp 7) 22 5 rfl Try.underlying22 infoB (.slice none 0 0) [] mask _ _ rfl rfl rfl (Kd.R_nil _ _ _ _ _) HD.out.rm (Below.refl _ _) (Nat.le_refl _) ?hl ?_; (case hl => have := HD.out.m2; simp; omega); intro v w1 hR hB hG _; rw [List.nil_append] at hR; obtain ⟨g, cap, ev, hg1, hg2, _⟩ := Kd.R_form hR HD.out.m1; subst ev; have k2 := pw_cell_below hB c2; have k3 := pw_cell_below hB c3; have y2 := (hB.frozen (p := ⟨d, 2, none⟩) hdl).trans z2; have y3 := (hB.frozen (p := ⟨d, 3, none⟩) hdl).trans z3; have R1 := Aside0.mk hR; have B1 := Aside0.mk hB; clear hR hB hG c1 c2 c3 z2 z3)
  go_end0
  have hgd : g ≠ d := by omega
  have dg : ¬ d = g := by omega
  have hz := below_size B1.out
  have hD := HD.out
  have c0' := pw_cell_below B1.out hD.c0
  have c1' := pw_cell_below B1.out hD.c1
  have hT : Tch (fun k => k = d) w1 ((w1.setCell ⟨d, 2, none⟩ (.slice (some ⟨g, 0, none⟩) mask.length cap)).setCell ⟨d, 3, none⟩ (.int .i64 0)) :=
    ((Tch.refl (fun k => k = d) _).setCell (p := ⟨d, 2, none⟩) (fun _ => rfl) _).setCell (p := ⟨d, 3, none⟩) (fun _ => rfl) _
  have hlow : ∀ {A : Option Addr} {l : List Int}, C8 w A l → Off (fun k => k = d) A l → Off (fun k => k = d ∨ k = g) A l := fun {A} {l} hc ho ad e hp k => by
    rcases k with k | k
    · exact ho ad e hp k
    · have := c8_lt hc ad e hp; omega
  refine ⟨rfl, ⟨g, cap, ⟨?_, ?_, ?_, ?_, ?_, ?_, hT.c8 (Kd.C_below hD.rs B1.out) hD.oS, hT.c8 (Kd.C_below hD.rm B1.out) hD.oM, hlow hD.rs hD.oS, hlow hD.rm hD.oM, ?_, hd, hgd, hD.sl, hD.m1, hD.m2, hD.bS, hD.bM, nil_bytes⟩, hg1⟩, (Tch.of_below B1.out).trans hT⟩
  · simp [go_sem, *]
  · simp [go_sem, *]
  · simp [go_sem, *]
  · simp [go_sem, *]
  · simp [go_sem, *]
  · simp [go_sem, *]
  · exact hT.r8 (Kd.R_lower R1.out (by omega)) (fun k e => by simp [Value.ownBlock] at e; omega)

set_option maxHeartbeats 1600000 in
set_option maxRecDepth 100000 in
theorem sum_calls {base : Nat} {w : World} {d : Nat} {S M : Option Addr} {cS cM g c : Nat} {sub mask t bl : List Int} {v : Value} (h : Dg base w d S M cS cM g c sub mask t)
    (hv : R8 5 w base v bl) (hl : bl.length ≤ 100000) :
    Calls Try.prog 104 #[.pointer (some ⟨d, 0, none⟩), v] w fun e w' => ∃ v', e = .returned v' ∧ R8 5 w' base v' (bl ++ hashOf sub mask t) ∧ w.grownBy w' v.ownBlock ∧ (v'.ownBlock = v.ownBlock ∨ ∃ b, v'.ownBlock = some b ∧ w.heap.size ≤ b) := by
  have HD := Aside0.mk h
  have c2 := h.c2
  have HV := Aside0.mk hv
  have hbw : base ≤ w.heap.size := Nat.le_of_lt (Nat.lt_of_le_of_lt h.hd h.dl)
  have hst := Kd.R_reads' h.st
  have HS := Aside0.mk hst
  clear h hv hst
  go_enter Try.func104, Try.ntmps104
  go_wp2_with ((with_reducible refine gate_dst (N := 10) rfl ?_); refine append8 base (w0 := w) rfl (.tmp 5) (.tmp 9) 22 5 rfl Try.underlying22 infoB v bl (hashOf sub mask t) _ _ rfl rfl HS.out.1 HV.out HS.out.2.2 (Below.refl _ _) hbw ?hl ?_; (case hl => rw [hashOf_length]; have := HD.out.m2; omega); intro v' w1 hR hB hG hAt; have R1 := Aside0.mk hR; have G1 := Aside0.mk hG; have A1 := Aside0.mk hAt; clear hR hB hG hAt)
  go_ret
  exact ⟨_, rfl, R1.out, G1.out, A1.out⟩
end Go.Proofs.Ytkehjcppgpoobaa.Mix
