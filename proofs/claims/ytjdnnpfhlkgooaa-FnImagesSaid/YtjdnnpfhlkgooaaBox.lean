/- A kind: a pointer to a block of its own that holds just one value's cells. -/
import Derived.Test.YtjdnnpfhlkgooaaKit
set_option linter.unusedVariables false
set_option linter.unusedSimpArgs false
namespace Go.Proofs.Ytjdnnpfhlkgooaa.Kit
open Go.RowKit Go.Proofs.YtjdnnpfhlkgooaaW.PrintWords

def box {α : Type} (t : Nat) (d : Kd α) : Kd α where
  sz := 1
  E := t :: d.E
  K := fun w x cs => ∃ b c, cs = [.pointer (some ⟨b, 0, none⟩)] ∧ d.K w x c ∧ ∀ i u, c[i]? = some u → w.cell? ⟨b, i, none⟩ = some u
  M := fun w base ok x cs => ∃ b c, cs = [.pointer (some ⟨b, 0, none⟩)] ∧ ok b ∧ base ≤ b ∧ w.heap[b]? = some (.cells (List.toArray c) t (0, 0)) ∧ d.M w base ok x c
  K_len := by
    rintro w x cs ⟨b, c, rfl, _⟩
    rfl
  K_one := by
    rintro w x cs ⟨b, c, rfl, _⟩ u hu
    rw [List.mem_singleton.1 hu]
    rfl
  K_below := by
    rintro w w1 x cs hb ⟨b, c, rfl, h, hc⟩
    exact ⟨b, c, rfl, d.K_below hb h, fun i u hu => pw_cell_below hb (hc i u hu)⟩
  K_of_M := by
    rintro w base ok x cs ⟨b, c, rfl, _, _, hh, h⟩
    exact ⟨b, c, rfl, d.K_of_M h, fun i u hu => by rw [cell_of_row w b i _ t (0, 0) hh]; simpa using hu⟩
  M_mono := by
    rintro w base ok ok' x cs hok ⟨b, c, rfl, h1, h2, hh, h⟩
    exact ⟨b, c, rfl, hok b h1, h2, hh, d.M_mono hok h⟩
  M_bound := by
    rintro w base ok x cs ⟨b, c, rfl, h1, h2, hh, h⟩
    refine ⟨b, c, rfl, ⟨h1, h2, blk_lt hh, t, List.mem_cons_self, _, hh⟩, h2, hh, d.M_mono ?_ (d.M_bound h)⟩
    rintro k ⟨g1, g2, g3, q, hq, hc⟩
    exact ⟨g1, g2, g3, q, List.mem_cons_of_mem _ hq, hc⟩
  M_move := by
    rintro w w1 base ok x cs hm ⟨b, c, rfl, h1, h2, hh, h⟩
    exact ⟨b, c, rfl, h1, h2, (hm b h1).trans hh, d.M_move hm h⟩
  M_lower := by
    rintro w base base' ok x cs hb ⟨b, c, rfl, h1, h2, hh, h⟩
    exact ⟨b, c, rfl, h1, Nat.le_trans hb h2, hh, d.M_lower hb h⟩
end Go.Proofs.Ytjdnnpfhlkgooaa.Kit
