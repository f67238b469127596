/- What comes in, opened by kinds: whole numbers, bools, strings, slices of anything, structs of two or three. -/
import Derived.Test.YtjdnnpfhlkgooaaWMore
import Derived.Deep.Slices
import Derived.ChangeArms
set_option linter.unusedVariables false
set_option linter.unusedSimpArgs false
namespace Go.Proofs.Ytjdnnpfhlkgooaa.Kit
open Go.RowKit Go.Proofs.YtjdnnpfhlkgooaaW.PrintWords Go.Deep

/-- A string of a length that may be. -/
def goodStr (s : ByteArray) : Prop := s.size ≤ maxLen
section
variable {H : Type} {enc : TypeId × Value → H} {P : Program} {w : World} {base : Nat} {held : Bool} {α β γ : Type}
/-- What is read at type e is of kind d, and good. -/
def OpenK (enc : TypeId × Value → H) (P : Program) (w : World) (base : Nat) (held : Bool) (e : TypeId) (d : Kd α) (good : α → Prop) : Prop :=
  ∀ (fuel : Nat) (cs : List Value) (x : DataW H × List MemPlace), DataW.trod enc P w base (fun _ => true) held fuel e cs = some x → ∃ a, d.K w a cs ∧ good a
theorem openK_int {e : TypeId} {k : IntKind} (ht : P.underlying e = some (.int k)) : OpenK enc P w base held e (Kd.int k) (fun n => (Lit.int k n).wf = true) := by
  intro fuel cs x h
  obtain ⟨n, rfl, _, hw⟩ := DataW.trod_int ht h
  exact ⟨n, rfl, hw⟩
theorem openK_bool {e : TypeId} (ht : P.underlying e = some .bool) : OpenK enc P w base held e Kd.bool (fun _ => True) := by
  intro fuel cs x h
  obtain ⟨b, rfl, _⟩ := DataW.trod_bool ht h
  exact ⟨b, rfl, trivial⟩
theorem openK_string {e : TypeId} (ht : P.underlying e = some .string) : OpenK enc P w base held e Kd.string (fun s => s.size ≤ maxLen) := by
  intro fuel cs x h
  obtain ⟨s, rfl, _, hs⟩ := DataW.trod_string ht h
  exact ⟨s, rfl, hs⟩
theorem openK_slice [Inhabited α] {t e : TypeId} {d : Kd α} {good : α → Prop} (ht : P.underlying t = some (.slice e)) (hc : P.cellsOf e = d.sz) (hd : OpenK enc P w base held e d good) :
    OpenK enc P w base held t (Kd.slice e d) (fun xs => xs.length ≤ maxLen ∧ ∀ x, x ∈ xs → good x) := by
  intro fuel cs x h
  rcases open_slice ht h with ⟨rfl, _⟩ | ⟨a, len, cap, m, n, D, Pl, rfl, hb, hl, hm, hmm, _, hx⟩
  · exact ⟨[], ⟨none, 0, rfl, Nat.le_refl _, Kd.C_nil _ _⟩, Nat.zero_le _, fun x hx => absurd hx List.not_mem_nil⟩
  · simp only [if_true] at hmm
    subst hmm
    have each : ∀ i, i < len → ∃ q : α, ∃ cs', w.cells? base (a.add (i * P.cellsOf e)) (P.cellsOf e) = some cs' ∧ d.K w q cs' ∧ good q := by
      intro i hi
      obtain ⟨cs', h1, h2⟩ := hx i (by omega)
      obtain ⟨q, hq, hg⟩ := hd _ _ _ h2
      exact ⟨q, cs', h1, hq, hg⟩
    obtain ⟨F, hF⟩ := choose_lt each
    have hlen : ((List.range len).map F).length = len := by simp
    refine ⟨(List.range len).map F, ⟨some a, m, by rw [hlen], by rw [hlen]; exact hl, rfl, by rw [hlen]; exact Nat.le_trans hl hm, fun _ => ⟨a, rfl, fun j p hj => ?_⟩⟩, by rw [hlen]; exact Nat.le_trans hl hm, fun x hx => ?_⟩
    · obtain ⟨hj1, hj2⟩ := List.getElem?_eq_some_iff.1 hj
      rw [hlen] at hj1
      have hp : p = F j := by rw [← hj2]; simp
      subst hp
      obtain ⟨cs', h1, hK, _⟩ := hF j hj1
      obtain ⟨_, hl', hcell⟩ := World.cells?_some h1
      refine ⟨cs', d.K_len hK, hK, fun i u hu => ?_⟩
      have hi : i < P.cellsOf e := by have := (List.getElem?_eq_some_iff.1 hu).1; omega
      have q := hcell i hi
      rw [Go.Deep.add_add, hc] at q
      exact q.trans hu
    · obtain ⟨r, hr, rfl⟩ := List.mem_map.1 hx
      rw [List.mem_range] at hr
      obtain ⟨_, _, _, hg⟩ := hF r hr
      exact hg
theorem openK_struct2 {e : TypeId} {f0 f1 : Field} {a : Kd α} {b : Kd β} {g0 : α → Prop} {g1 : β → Prop} (he : P.underlying e = some (.struct #[f0, f1])) (ce : P.cellsOf e = a.sz + b.sz) (o0 : f0.offset = 0) (o1 : f1.offset = a.sz) (c0 : P.cellsOf f0.type = a.sz) (c1 : P.cellsOf f1.type = b.sz)
    (h0 : OpenK enc P w base held f0.type a g0) (h1 : OpenK enc P w base held f1.type b g1) : OpenK enc P w base held e (Kd.pair a b) (fun x => g0 x.1 ∧ g1 x.2) := by
  intro fuel cs x h
  obtain ⟨xs, k, hk, _, hcl, hxl, hf⟩ := DataW.trod_struct he h
  match xs, hxl with
  | [y0, y1], _ =>
    have t0 := hf 0 f0 rfl
    have t1 := hf 1 f1 rfl
    rw [o0, c0, List.drop_zero] at t0
    rw [o1, c1] at t1
    obtain ⟨q0, k0, p0⟩ := h0 _ _ _ t0
    obtain ⟨q1, k1, p1⟩ := h1 _ _ _ t1
    rw [List.take_of_length_le (by rw [List.length_drop]; omega)] at k1
    exact ⟨(q0, q1), ⟨_, _, (List.take_append_drop a.sz cs).symm, k0, k1⟩, p0, p1⟩
theorem openK_struct3 {e : TypeId} {f0 f1 f2 : Field} {a : Kd α} {b : Kd β} {c : Kd γ} {g0 : α → Prop} {g1 : β → Prop} {g2 : γ → Prop} (he : P.underlying e = some (.struct #[f0, f1, f2])) (ce : P.cellsOf e = a.sz + (b.sz + c.sz)) (o0 : f0.offset = 0) (o1 : f1.offset = a.sz) (o2 : f2.offset = a.sz + b.sz) (c0 : P.cellsOf f0.type = a.sz) (c1 : P.cellsOf f1.type = b.sz) (c2 : P.cellsOf f2.type = c.sz)
    (h0 : OpenK enc P w base held f0.type a g0) (h1 : OpenK enc P w base held f1.type b g1) (h2 : OpenK enc P w base held f2.type c g2) : OpenK enc P w base held e (Kd.pair a (Kd.pair b c)) (fun x => g0 x.1 ∧ g1 x.2.1 ∧ g2 x.2.2) := by
  intro fuel cs x h
  obtain ⟨xs, k, hk, _, hcl, hxl, hf⟩ := DataW.trod_struct he h
  match xs, hxl with
  | [y0, y1, y2], _ =>
    have t0 := hf 0 f0 rfl
    have t1 := hf 1 f1 rfl
    have t2 := hf 2 f2 rfl
    rw [o0, c0, List.drop_zero] at t0
    rw [o1, c1] at t1
    rw [o2, c2] at t2
    obtain ⟨q0, k0, p0⟩ := h0 _ _ _ t0
    obtain ⟨q1, k1, p1⟩ := h1 _ _ _ t1
    obtain ⟨q2, k2, p2⟩ := h2 _ _ _ t2
    rw [List.take_of_length_le (by rw [List.length_drop]; omega), ← List.drop_drop] at k2
    exact ⟨(q0, q1, q2), ⟨_, _, (List.take_append_drop a.sz cs).symm, k0, ⟨_, _, (List.take_append_drop b.sz (cs.drop a.sz)).symm, k1, k2⟩⟩, p0, p1, p2⟩
end
end Go.Proofs.Ytjdnnpfhlkgooaa.Kit
