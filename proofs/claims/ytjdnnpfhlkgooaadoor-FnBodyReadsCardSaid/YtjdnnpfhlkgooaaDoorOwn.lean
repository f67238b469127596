/- impl.own: new memory for bytes. -/
import Derived.Test.YtjdnnpfhlkgooaaDoorProg
import Derived.Test.YtjdnnpfhlkgooaaDoorOct0
set_option linter.unusedVariables false
set_option linter.unusedSimpArgs false
namespace Go.Proofs.YtjdnnpfhlkgooaaDoor.Kit
open Go.RowKit Go.Proofs.YtjdnnpfhlkgooaaDoorW.PrintWords Go.Proofs.YtjdnnpfhlkgooaaDoorW.PrintMore

set_option maxHeartbeats 800000 in
set_option maxRecDepth 100000 in
theorem own_calls {A : Option Addr} {c n : Nat} {l : List Int} {w : World} (h : C8 w A l) (hn : n = l.length) (hl : l.length ≤ 140737488355328) :
    Calls Tryd.prog 42 #[.slice A n c] w fun e w' => ∃ v, e = .returned v ∧ R8 5 w' w.heap.size v l ∧ Below w.heap.size w w' := by
  subst hn
  have HR := Aside0.mk h
  clear h
  go_enter Tryd.func42, Tryd.ntmps42
  go_wp2_with ((with_reducible refine gate_dst (N := 4) rfl ?_); refine append8 w.heap.size (w0 := w) rfl (.const (.slice none 0 0)) (.tmp 3) 22 5 rfl Tryd.underlying22 infoB (.slice none 0 0) [] l _ _ rfl rfl rfl (Kd.R_nil _ _ _ _ _) HR.out (Below.refl _ _) (Nat.le_refl _) ?hl ?_; (case hl => simp; omega); intro v1 w1 hR hB _ _; rw [List.nil_append] at hR; have R1 := Aside0.mk hR; have B1 := Aside0.mk hB; clear hR hB)
  go_ret
  exact ⟨_, rfl, R1.out, B1.out⟩
end Go.Proofs.YtjdnnpfhlkgooaaDoor.Kit
