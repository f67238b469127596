/- spec.Octets: a number in so many octets, the highest first. -/
import Derived.Test.YtjdnnpfhlkgooaaProg
import Derived.Test.YtjdnnpfhlkgooaaOct0
set_option linter.unusedVariables false
set_option linter.unusedSimpArgs false
namespace Go.Proofs.Ytjdnnpfhlkgooaa.Kit
open Go.RowKit Go.Proofs.YtjdnnpfhlkgooaaW.PrintWords Go.Proofs.YtjdnnpfhlkgooaaW.PrintMore


/-- A number in so many octets. -/
def oct (n : Int) (size : Nat) : List Int := (List.range size).map fun i => n / 2 ^ (8 * (size - 1 - i)) % 256
theorem oct_length (n : Int) (size : Nat) : (oct n size).length = size := by simp [oct]
theorem oct_getD (n : Int) (size i : Nat) (h : i < size) : (oct n size).getD i 0 = n / 2 ^ (8 * (size - 1 - i)) % 256 := by
  unfold oct
  rw [List.getD_eq_getElem?_getD, List.getElem?_map, List.getElem?_range h]
  rfl
/-- The first k octets are laid. -/
def octTo (n : Int) (size k : Nat) : List Int := (oct n size).take k ++ List.replicate (size - k) 0
theorem octTo_zero (n : Int) (size : Nat) : List.replicate size 0 = octTo n size 0 := by simp [octTo]
theorem octTo_all (n : Int) (size : Nat) : octTo n size size = oct n size := by
  unfold octTo
  rw [Nat.sub_self, List.take_of_length_le (by rw [oct_length]; exact Nat.le_refl _)]
  simp
theorem octTo_length (n : Int) (size k : Nat) (h : k ≤ size) : (octTo n size k).length = size := by
  unfold octTo
  rw [List.length_append, List.length_take, oct_length, List.length_replicate]
  omega
theorem octTo_step (n : Int) (size k : Nat) (h : k < size) : (octTo n size k).set k (n / 2 ^ (8 * (size - 1 - k)) % 256) = octTo n size (k + 1) := by
  have hl : ((oct n size).take k).length = k := by rw [List.length_take, oct_length]; omega
  unfold octTo
  rw [List.set_append_right _ _ (by rw [hl]; exact Nat.le_refl _), hl, Nat.sub_self]
  obtain ⟨d, hd⟩ : ∃ d, size - k = d + 1 := ⟨size - k - 1, by omega⟩
  rw [hd, List.replicate_succ, List.set_cons_zero, List.take_add_one, show size - (k + 1) = d by omega, List.append_assoc]
  congr 1
  have h1 : (oct n size)[k]? = some (n / 2 ^ (8 * (size - 1 - k)) % 256) := by
    unfold oct
    rw [List.getElem?_map, List.getElem?_range h]
    rfl
  rw [h1]
  rfl

set_option maxHeartbeats 800000 in
set_option maxRecDepth 100000 in
theorem octets_calls (n : Int) (size : Nat) (w : World) (h0 : 0 ≤ n) (h1 : n ≤ 9223372036854775807) (hs : size ≤ 8) :
    Calls Try.prog 35 #[.int .i64 n, .int .i64 (size : Int)] w fun e w' => ∃ v, e = .returned v ∧ R8 5 w' w.heap.size v (oct n size) ∧ Below w.heap.size w w' := by
  go_enter Try.func35, Try.ntmps35
  go_wp2_with ((with_reducible refine gate_dst (N := 8) rfl ?_); refine make8 w.heap.size (w0 := w) rfl (N := 8) rfl 25 5 (.tmp 7) (.tmp 7) rfl size rfl rfl rfl Try.underlying25 infoB (by omega) (Below.refl _ _) (Nat.le_refl _) ?_; intro g w1 hg _ _ hR hB _; have R1 := Aside0.mk hR; have B1 := Aside0.mk hB; have G1 := Aside0.mk hg; clear hR hB hg)
  go_loopw [11] (fun i wr => ∃ k : Nat, k ≤ size ∧ i = .int .i64 (k : Int) ∧ Aside0 (R8 5 wr w.heap.size (.slice (some ⟨g, 0, none⟩) size size) (octTo n size k)) ∧ Aside0 (Below w.heap.size w wr)) (fun i _ => size - (intOf i).toNat)
  case atStart => exact ⟨0, Nat.zero_le _, rfl, ⟨by rw [← octTo_zero]; exact R1.out⟩, B1⟩
  case round =>
    clear R1 B1
    obtain ⟨k, hk, rfl, HR, HB⟩ := hrel
    by_cases hlt : k < size
    · obtain ⟨hx, hf⟩ := Kd.R_cell (cap := size) (0 : Int) (h1 := fun _ => rfl) (enc := Value.int .u8) (xs := octTo n size k) (by rw [octTo_length _ _ _ hk]; exact HR.out) (k : Int) (by omega) (by rw [octTo_length _ _ _ hk]; omega)
      rw [Int.toNat_natCast] at hx hf
      go_wp2
      go_roundw
      case rel => exact ⟨k + 1, hlt, by go_num, ⟨by rw [← octTo_step _ _ _ hlt]; exact (Kd.R_putg HR.out (k : Int) _).1⟩, ⟨below_set HB.out G1.out⟩⟩
      case measure => simp [intOf]; omega
    · go_wp2
      go_ret
      obtain rfl : k = size := by omega
      exact ⟨_, rfl, by rw [← octTo_all]; exact HR.out, HB.out⟩
end Go.Proofs.Ytjdnnpfhlkgooaa.Kit
