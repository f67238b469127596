/- impl's hash of plain data: made. -/
import Derived.Test.YtkehjcppgpoobaaDig2
import Derived.Deep.RegionLaw
set_option linter.unusedVariables false
set_option linter.unusedSimpArgs false
namespace Go.Proofs.Ytkehjcppgpoobaa.Mix
open Go.RowKit Go.Proofs.YtkehjcppgpoobaaW.PrintWords Go.Proofs.YtkehjcppgpoobaaW.PrintMore Go.Proofs.Ytkehjcppgpoobaa.Kit

theorem cell_step {w w1 : World} {a : Addr} {v : Value} (h : w.cell? a = some v) (hb : Below w.heap.size w w1) : w1.cell? a = some v := pw_cell_below hb h
theorem below_go {B : Nat} {w0 w w1 : World} (h : Below B w0 w) (hz : B ≤ w.heap.size) (hb : Below w.heap.size w w1) : Below B w0 w1 := below_then h hz hb
theorem lt_go {n : Nat} {w w1 : World} (h : n < w.heap.size) (hb : Below w.heap.size w w1) : n < w1.heap.size := Nat.lt_of_lt_of_le h (below_size hb)
theorem dg0_new {w : World} {S M : Option Addr} {cS cM : Nat} {sub mask : List Int} {T : TypeId} (rs : C8 w S sub) (rm : C8 w M mask) (sl : sub.length = 256) (m1 : 1 ≤ mask.length) (m2 : mask.length ≤ 64) (bS : Bytes sub) (bM : Bytes mask) :
    Dg0 (w.alloc (.cells #[.slice S sub.length cS, .slice M mask.length cM, .slice none 0 0, .int .i64 0] T)) w.heap.size S M cS cM sub mask :=
  ⟨by simp [go_sem], by simp [go_sem], ⟨_, by simp [go_sem]; rfl⟩, ⟨_, by simp [go_sem]; rfl⟩, by simp [go_sem], by simp [go_sem], Kd.C_below rs (below_alloc (Below.refl _ _) _), Kd.C_below rm (below_alloc (Below.refl _ _) _),
   fun ad e hp k => by have := c8_lt rs ad e hp; omega, fun ad e hp k => by have := c8_lt rm ad e hp; omega, sl, m1, m2, bS, bM⟩
theorem dgx_lower {base : Nat} {w : World} {d : Nat} {S M : Option Addr} {cS cM : Nat} {sub mask t : List Int} {lo lo' : Nat} (h : DgX base w d S M cS cM sub mask t lo) (hl : lo' ≤ lo) : DgX base w d S M cS cM sub mask t lo' := by
  obtain ⟨g, c, h1, h2⟩ := h
  exact ⟨g, c, h1, by omega⟩
section
variable {P : Program} {ops : Array Oper} {o : Oper} {a : Act} {Q : Exit → Act → World → Prop} {K : Act → World → Prop} {E : Prop}
/-- append(nil, xs...) as a step of a region that draws. -/
theorem appendNilS {W : World} (hgd : o.guard = none) (x : Operand) (t e : TypeId)
    (ho : o.op = .call { callee := .builtin .append, args := #[.const (.slice none 0 0), x], argTypes := #[t, t] })
    (ht : P.underlying t = some (.slice e)) (hinfo : (P.info? e).map (fun i => (i.zero, i.size, i.bytes)) = some (some (.int .u8 0), 1, 1))
    (ys : List Int) (A : Option Addr) (c : Nat) {m : Nat} (hx : a.eval x = .slice A m c) (hmy : m = ys.length)
    (HR : C8 W A ys) (hl : ys.length ≤ 140737488355328)
    (h : ∀ v1 w1, R8 e w1 W.heap.size v1 ys → Below W.heap.size W w1 → K (a.put o.dst v1) w1) :
    if Region.wanted o (yielded ops a.tmps) = true then Oper.wp P o a W K Q else E := by
  subst hmy
  have hw : Region.wanted o (yielded ops a.tmps) = true := by simp [Region.wanted, hgd]
  have := Kd.R_append_rows_step (P := P) (ops := ops) (o := o) (a := a) (Q := Q) (Kc := K) (Kd.int .u8) (w0 := W) W.heap.size hw (.const (.slice none 0 0)) x t e (.int .u8 0) 1 ho ht hinfo rfl (by decide) (by decide) (.slice none 0 0) [] ys A ys.length c (fun _ => True) (fun _ => False) rfl hx (Kd.R_nil _ _ _ _ _) HR (fun _ _ h => h) (fun _ h => h.elim) (fun _ _ => trivial) (Below.refl _ _) (Nat.le_refl _) (by simp; omega)
    (fun v1 w1 hR hB hG _ => h v1 w1 (by rw [List.nil_append] at hR; exact hR) hB)
  rw [if_pos hw] at this
  rw [if_pos hw]
  exact this
end

set_option maxHeartbeats 1600000 in
set_option maxRecDepth 100000 in
theorem make_calls (As : Option Addr) (cs : Nat) (sub : List Int) (Am : Option Addr) (cm : Nat) (mask : List Int) (w : World)
    (hs : C8 w As sub) (hsl : sub.length = 256) (hsB : Bytes sub) (hm : C8 w Am mask) (hm1 : 1 ≤ mask.length) (hm2 : mask.length ≤ 64) (hmB : Bytes mask) :
    Calls Try.prog 40 #[.agg #[.slice As sub.length cs, .slice Am mask.length cm]] w fun e w' => ∃ d S M cS cM, e = .returned (.pointer (some ⟨d, 0, none⟩)) ∧ DgX w.heap.size w' d S M cS cM sub mask [] w.heap.size ∧ (∀ ad, S = some ad → w.heap.size ≤ ad.block) ∧ (∀ ad, M = some ad → w.heap.size ≤ ad.block) ∧ Below w.heap.size w w' := by
  have HS := Aside0.mk hs
  have HM := Aside0.mk hm
  have HB := Aside0.mk (And.intro hsB hmB)
  have HN := Aside0.mk (And.intro hm1 (And.intro hm2 hsl))
  clear hs hm hsB hmB hm1 hm2 hsl
  go_enter Try.func40, Try.ntmps40
  go_wp2_with fail
  go_region_held3 (fun w' => w'.cell? ⟨w.heap.size, 0, none⟩ = some (.slice As sub.length cs) ∧ w'.cell? ⟨w.heap.size, 1, none⟩ = some (.slice Am mask.length cm) ∧ Below w.heap.size w w' ∧ w.heap.size < w'.heap.size) ((refine ⟨?_, ?_, ?_, ?_⟩ <;> first | assumption | ((with_reducible refine cell_step ?_ hB); (focus (first | assumption | (simp [*]; done) | (go_keep; done)))) | (go_grown; done) | (go_keep; done) | (simp; omega))) (first | (refine appendNilS rfl (.tmp 5) 22 5 rfl Try.underlying22 infoB sub _ _ rfl rfl ?_ ?_ ?_; (focus (refine Kd.C_below HS.out ?_; (first | assumption | (go_grown; done)))); (focus (have := HN.out; omega)); intro v_ w1 hR hB; obtain ⟨A6, c6, e6, _, _⟩ := r8_reads hR; subst e6; have R6 := Aside0.mk hR; clear hR; (try (have n1 := Aside0.mk (Kd.R_below R9.out hB); clear R9; have R9 := n1; clear n1)); have hB0 : Below w.heap.size w w1 := (by refine below_go ?_ ?_ hB; (first | assumption | (focus (go_grown; done))); (first | assumption | (focus (simp; done)) | (focus (simp; omega)) | omega)); have hZ0 : w.heap.size < w1.heap.size := (by refine lt_go ?_ hB; (first | assumption | (simp; done) | (simp [*]; done) | omega | (simp; omega)))) | (refine appendNilS rfl (.tmp 8) 22 5 rfl Try.underlying22 infoB mask _ _ rfl rfl ?_ ?_ ?_; (focus (refine Kd.C_below HM.out ?_; (first | assumption | (go_grown; done)))); (focus (have := HN.out; omega)); intro v_ w1 hR hB; obtain ⟨A9, c9, e9, _, _⟩ := r8_reads hR; subst e9; have R9 := Aside0.mk hR; clear hR; (try (have n1 := Aside0.mk (Kd.R_below R6.out hB); clear R6; have R6 := n1; clear n1)); have hB0 : Below w.heap.size w w1 := (by refine below_go ?_ ?_ hB; (first | assumption | (focus (go_grown; done))); (first | assumption | (focus (simp; done)) | (focus (simp; omega)) | omega)); have hZ0 : w.heap.size < w1.heap.size := (by refine lt_go ?_ hB; (first | assumption | (simp; done) | (simp [*]; done) | omega | (simp; omega)))))
  all_goals
    go_wp2_with (go_at_call 61; refine (reset_calls (base := w.heap.size) (dg0_new (Kd.R_reads' R6.out).2.2 (Kd.R_reads' R9.out).2.2 HN.out.2.2 HN.out.1 HN.out.2.1 HB.out.1 HB.out.2) (Nat.le_of_lt hZ0)).mono ?_; rintro e w2 ⟨rfl, hX, hT⟩; have X1 := Aside0.mk hX; have T1 := Aside0.mk hT; clear hX hT)
    go_ret
    exact ⟨_, A6, A9, c6, c9, rfl, dgx_lower X1.out (by simp; omega), fun ad e => by have := Kd.R_base R6.out ad.block (by rw [e]; rfl); (try simp at this); omega, fun ad e => by have := Kd.R_base R9.out ad.block (by rw [e]; rfl); (try simp at this); omega, T1.out.below (hB0.alloc (Nat.le_of_lt hZ0) _) (by simp; omega) (fun k e => by subst e; omega)⟩
end Go.Proofs.Ytkehjcppgpoobaa.Mix
