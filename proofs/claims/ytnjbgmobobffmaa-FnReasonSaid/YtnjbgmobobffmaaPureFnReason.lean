/- The reasons for a revocation that the standard names (0, 1, 2, 3, 32) stay what they are; every other byte becomes 200. For every byte. -/
import Derived.Test.YtnjbgmobobffmaaPFnReasonx1
namespace Go.Proofs.Ytnjbgmobobffmaa.Pure
open Go.RowKit Go.Proofs.Ytnjbgmobobffmaa.PFnReason Go.Proofs.YtnjbgmobobffmaaW.PrintWords Go.Proofs.YtnjbgmobobffmaaW.PrintLast

theorem wf_u8 {a : Int} (h : (Lit.int .u8 a).wf = true) : 0 ≤ a ∧ a ≤ 255 := by
  simp [Lit.wf, IntKind.min, IntKind.max, IntKind.signed, IntKind.bits] at h
  omega

theorem FnReason : laws_FnReason.Pure := by
  intro a h
  obtain ⟨h0, h1⟩ := wf_u8 h
  unfold laws_FnReason.f impl_Reason.f packet_NewReasonForRevocation.f
  by_cases c0 : a = 0
  · subst c0; rfl
  by_cases c1 : a = 1
  · subst c1; rfl
  by_cases c2 : a = 2
  · subst c2; rfl
  by_cases c3 : a = 3
  · subst c3; rfl
  by_cases c4 : a = 32
  · subst c4; rfl
  rw [if_neg c0, if_neg c1, if_neg c2, if_neg c3, if_neg c4, if_neg (by omega), if_neg c4]
  rfl

end Go.Proofs.Ytnjbgmobobffmaa.Pure
