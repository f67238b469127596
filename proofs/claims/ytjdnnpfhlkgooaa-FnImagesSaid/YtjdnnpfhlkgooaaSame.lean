/- spec.SameBytes of two slices that read alike. -/
import Derived.Test.YtjdnnpfhlkgooaaProg
import Derived.Test.YtjdnnpfhlkgooaaKit
set_option linter.unusedVariables false
set_option linter.unusedSimpArgs false
namespace Go.Proofs.Ytjdnnpfhlkgooaa.Kit
open Go.RowKit Go.Proofs.YtjdnnpfhlkgooaaW.PrintWords Go.Proofs.YtjdnnpfhlkgooaaW.PrintMore

set_option maxHeartbeats 800000 in
set_option maxRecDepth 100000 in
theorem same_calls {A B : Option Addr} {c d n m : Nat} {l l' : List Int} {w : World} (hA : C8 w A l) (hB : C8 w B l') (e : l = l') (hn : n = l.length) (hm : m = l'.length) :
    Calls Try.prog 12 #[.slice A n c, .slice B m d] w fun e w' => e = .returned (.bool true) ∧ Below w.heap.size w w' := by
  subst e hn hm
  have HA := Aside0.mk hA
  have HB := Aside0.mk hB
  have hmax : l.length ≤ 9223372036854775807 := Kd.C_max hA
  clear hA hB
  go_enter Try.func12, Try.ntmps12
  go_wp2
  go_loopw [13] (fun i wr => ∃ k : Nat, k ≤ l.length ∧ i = .int .i64 (k : Int) ∧ Aside0 (∃ n, wr = w.drewN n)) (fun i _ => l.length - (intOf i).toNat)
  case atStart => exact ⟨0, Nat.zero_le _, rfl, ⟨⟨0, rfl⟩⟩⟩
  case round =>
    obtain ⟨k, hk, rfl, ⟨nd, rfl⟩⟩ := hrel
    by_cases hlt : k < l.length
    · obtain ⟨ad, rfl, hx⟩ := Kd.at_int HA.out (k : Int) (by omega) (by omega)
      obtain ⟨bd, rfl, hy⟩ := Kd.at_int HB.out (k : Int) (by omega) (by omega)
      rw [Int.toNat_natCast] at hx hy
      have hlt' : (k : Int) < (l.length : Int) := by omega
      have h0 : (0 : Int) ≤ (k : Int) := by omega
      have ht : ((k : Int)).toNat = k := by omega
      go_wp2
      go_quiet (fail)
      go_wp2
      go_roundw
      case rel => exact ⟨k + 1, hlt, by go_num, ⟨⟨_, by first | rfl | (simp only [World.drewN_drewN]; rfl)⟩⟩⟩
      case measure => simp [intOf]; omega
    · go_wp2
      go_ret
      exact ⟨rfl, pw_below_drewN (Below.refl _ _) _⟩
end Go.Proofs.Ytjdnnpfhlkgooaa.Kit
