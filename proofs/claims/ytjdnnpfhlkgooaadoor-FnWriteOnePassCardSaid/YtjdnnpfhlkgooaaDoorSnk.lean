/- impl.sink: what the world keeps of it; its Write. -/
import Derived.Test.YtjdnnpfhlkgooaaDoorRl
set_option linter.unusedVariables false
set_option linter.unusedSimpArgs false
namespace Go.Proofs.YtjdnnpfhlkgooaaDoor.Rd
open Go.RowKit Go.Proofs.YtjdnnpfhlkgooaaDoorW.PrintWords Go.Proofs.YtjdnnpfhlkgooaaDoorW.PrintMore Go.Proofs.YtjdnnpfhlkgooaaDoor.Kit

theorem nil_write (a : Nat) (w : World) : (nilAhead 339 98 (.pointer (some ⟨a, 0, none⟩)) "Write").run Tryd.prog w = .ok (some false) w := by kernel_rfl
/-- A sink at block s, v its data, l what they read. -/
structure Snk (base : Nat) (w : World) (s : Nat) (v : Value) (l : List Int) : Prop where
  c0 : w.cell? ⟨s, 0, none⟩ = some v
  z0 : w.frozen? ⟨s, 0, none⟩ = false
  rd : R8 5 w base v l
  ns : v.ownBlock ≠ some s
  hs : base ≤ s
section
variable {base : Nat} {w w1 : World} {s : Nat} {v : Value} {l : List Int} {T : Nat → Prop}
theorem Snk.lt (h : Snk base w s v l) : s < w.heap.size := World.block_lt_of_cell? w _ h.c0
theorem Snk.kept (h : Snk base w s v l) (hT : Tch T w w1) (h1 : ¬ T s) (h2 : ∀ k, v.ownBlock = some k → ¬ T k) : Snk base w1 s v l :=
  { h with
    c0 := hT.cell h.c0 h1
    z0 := (hT.frozen h.lt h1).trans h.z0
    rd := hT.r8 h.rd h2 }
theorem Snk.below (h : Snk base w s v l) (hB : Below w.heap.size w w1) : Snk base w1 s v l := h.kept (Tch.of_below (S := fun _ => False) hB) id (fun _ _ => id)
/-- The data are put anew. -/
theorem Snk.put {v1 : Value} {l1 : List Int} (h : Snk base w s v l) (hT : Tch (fun k => v.ownBlock = some k) w w1) (hr : R8 5 w1 base v1 l1) (h1 : v1.ownBlock ≠ some s) : Snk base (w1.setCell ⟨s, 0, none⟩ v1) s v1 l1 := by
  have c0 := hT.cell h.c0 (p := ⟨s, 0, none⟩) h.ns
  have z0 := (hT.frozen (p := ⟨s, 0, none⟩) h.lt h.ns).trans h.z0
  exact {
    c0 := by simp [go_sem, *]
    z0 := by simp [go_sem, *]
    rd := Tch.r8 (S := fun j => j = s) ((Tch.refl (fun j => j = s) _).setCell (p := ⟨s, 0, none⟩) (fun _ => rfl) _) hr (fun k e q => by subst q; exact h1 e)
    ns := h1
    hs := h.hs }
end
theorem own_ne {w : World} {v v1 : Value} {s : Nat} (h : v.ownBlock ≠ some s) (hs : s < w.heap.size) (hat : v1.ownBlock = v.ownBlock ∨ ∃ b, v1.ownBlock = some b ∧ w.heap.size ≤ b) : v1.ownBlock ≠ some s := by
  intro e
  rcases hat with q | ⟨b, q, q2⟩
  · rw [q] at e; exact h e
  · rw [q] at e; have := Option.some.inj e; omega
/-- A new sink. -/
theorem snk_new (base : Nat) (w : World) (hb : base ≤ w.heap.size) : ∃ W, w.alloc (.cells #[.slice none 0 0] 100) = W ∧ Snk base W w.heap.size (.slice none 0 0) [] ∧ Below w.heap.size w W := by
  refine ⟨_, rfl, ?_, below_alloc (Below.refl _ _) _⟩
  exact {
    c0 := by simp [go_sem]
    z0 := by simp [go_sem]
    rd := Kd.R_nil _ _ _ _ _
    ns := by simp [Value.ownBlock]
    hs := hb }

set_option maxHeartbeats 1600000 in
set_option maxRecDepth 100000 in
theorem snk_write {base : Nat} {w : World} {s : Nat} {v : Value} {l : List Int} (h : Snk base w s v l) {A : Option Addr} {m c : Nat} {ys : List Int} (hy : C8 w A ys) (hm : m = ys.length) (hl : l.length + ys.length ≤ 140737488355328) :
    Calls Tryd.prog 115 #[.pointer (some ⟨s, 0, none⟩), .slice A m c] w fun en w' => en = .returned (.tuple #[.int .i64 (m : Int), .nilIface]) ∧ (∃ v', Snk base w' s v' (l ++ ys)) ∧ Tch (fun j => j = s ∨ v.ownBlock = some j) w w' := by
  have c0 := h.c0
  have z0 := h.z0
  have H0 := Aside0.mk h
  have HY := Aside0.mk hy
  have hmax : ys.length ≤ 9223372036854775807 := Kd.C_max hy
  have bs : base ≤ w.heap.size := Nat.le_trans h.hs (Nat.le_of_lt h.lt)
  have BS := Aside0.mk bs
  clear h hy bs
  go_enter Tryd.func115, Tryd.ntmps115
  go_wp2_with ((with_reducible refine gate_dst (N := 12) rfl ?_); refine append8 base (w0 := w) rfl (.tmp 10) (.tmp 11) 22 5 rfl Tryd.underlying22 infoB v l ys A c rfl rfl hm H0.out.rd HY.out (Below.refl _ _) BS.out hl ?_; intro v1 w1 hR hB hG hat; obtain ⟨A1, c1, e1, _, _⟩ := r8_reads hR; obtain ⟨n1, en1⟩ : ∃ n, (l ++ ys).length = n := ⟨_, rfl⟩; rw [en1] at e1; subst e1; clear en1; have hT := Tch.of_grown hG; have k0 := hT.cell c0 (p := ⟨s, 0, none⟩) H0.out.ns; have y0 := (hT.frozen (p := ⟨s, 0, none⟩) H0.out.lt H0.out.ns).trans z0; have R1 := Aside0.mk hR; have T1 := Aside0.mk hT; have N1 := Aside0.mk (own_ne H0.out.ns H0.out.lt hat); clear hR hB hG hat hT c0 z0)
  go_ret2
  have hT : Tch (fun j => j = s ∨ v.ownBlock = some j) w (w1.setCell ⟨s, 0, none⟩ (.slice A1 n1 c1)) := (T1.out.mono (fun k q => .inr q)).setCell (p := ⟨s, 0, none⟩) (fun _ => .inl rfl) _
  exact ⟨by subst hm; rfl, ⟨_, H0.out.put T1.out R1.out N1.out⟩, hT⟩
end Go.Proofs.YtjdnnpfhlkgooaaDoor.Rd
