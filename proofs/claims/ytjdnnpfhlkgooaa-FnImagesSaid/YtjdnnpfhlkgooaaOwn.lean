/- impl.own: new memory for bytes. -/
import Derived.Test.YtjdnnpfhlkgooaaProg
import Derived.Test.YtjdnnpfhlkgooaaOct0
set_option linter.unusedVariables false
set_option linter.unusedSimpArgs false
namespace Go.Proofs.Ytjdnnpfhlkgooaa.Kit
open Go.RowKit Go.Proofs.YtjdnnpfhlkgooaaW.PrintWords Go.Proofs.YtjdnnpfhlkgooaaW.PrintMore

set_option maxHeartbeats 800000 in
set_option maxRecDepth 100000 in
theorem own_calls {A : Option Addr} {c n : Nat} {l : List Int} {w : World} (h : C8 w A l) (hn : n = l.length) (hl : l.length ≤ 140737488355328) :
    Calls Try.prog 24 #[.slice A n c] w fun e w' => ∃ v, e = .returned v ∧ R8 5 w' w.heap.size v l ∧ Below w.heap.size w w' := by
  subst hn
  have HR := Aside0.mk h
  clear h
  go_enter Try.func24, Try.ntmps24
  go_wp2_with ((with_reducible refine gate_dst (N := 4) rfl ?_); refine append8 w.heap.size (w0 := w) rfl (.const (.slice none 0 0)) (.tmp 3) 25 5 rfl Try.underlying25 infoB (.slice none 0 0) [] l _ _ rfl rfl rfl (Kd.R_nil _ _ _ _ _) HR.out (Below.refl _ _) (Nat.le_refl _) ?hl ?_; (case hl => simp; omega); intro v1 w1 hR hB _ _; rw [List.nil_append] at hR; have R1 := Aside0.mk hR; have B1 := Aside0.mk hB; clear hR hB)
  go_ret
  exact ⟨_, rfl, R1.out, B1.out⟩
end Go.Proofs.Ytjdnnpfhlkgooaa.Kit
