/- Rows of bytes cut: l[:k], l[k:]. -/
import Derived.Test.YtjdnnpfhlkgooaaDoorMem
set_option linter.unusedVariables false
set_option linter.unusedSimpArgs false
namespace Go.Proofs.YtjdnnpfhlkgooaaDoor.Kit
open Go.RowKit Go.Proofs.YtjdnnpfhlkgooaaDoorW.PrintWords

theorem info_partsC {P : Program} {e : TypeId} {z : Value} {a b : Nat} (h : (P.info? e).map (fun i => (i.zero, i.size, i.bytes)) = some (some z, a, b)) : ∃ i, P.info? e = some i ∧ i.zero = some z ∧ i.size = a ∧ i.bytes = b := by
  obtain ⟨i0, hi, hzz⟩ := Option.map_eq_some_iff.1 h
  simp only [Prod.mk.injEq] at hzz
  exact ⟨i0, hi, hzz.1, hzz.2.1, hzz.2.2⟩
/-- The address lies in the block of that one. -/
def Same (A' A : Option Addr) : Prop := ∀ ad', A' = some ad' → ∃ ad, A = some ad ∧ ad'.block = ad.block
theorem Same.refl (A : Option Addr) : Same A A := fun ad' e => ⟨ad', e, rfl⟩
section
variable {P : Program} {t e : TypeId}
theorem take8 (ht : P.underlying t = some (.slice e)) (hinfo : (P.info? e).map (fun i => (i.zero, i.size, i.bytes)) = some (some (.int .u8 0), 1, 1)) (A : Option Addr) (c : Nat) (l : List Int) (k : Nat) (hk : k ≤ l.length) (hc : l.length ≤ c) {n : Nat} (hn : n = l.length) :
    (∀ W : World, (Instr.slice t (.slice A n c) none (some (.int .i64 (k : Int))) none).run P W = .ok (.slice A k c) W) ∧ (∀ w, C8 w A l → C8 w A (l.take k)) := by
  subst hn
  obtain ⟨i, hi, _, hs, _⟩ := info_partsC hinfo
  have hl : (l.take k).length = k := by rw [List.length_take]; omega
  obtain ⟨h1, h2, _⟩ := print_take_of (P := P) (Value.int .u8) (0 : Int) t e .i64 ht hi hs A c l (k : Int) (by omega) (by omega) hc
  rw [Int.toNat_natCast] at h1 h2
  rw [hl] at h1
  exact ⟨h1, fun w h => Kd.C_of_reads (h1 := fun _ => rfl) (h2 w (Kd.reads_of_C h))⟩
theorem drop8 (ht : P.underlying t = some (.slice e)) (hinfo : (P.info? e).map (fun i => (i.zero, i.size, i.bytes)) = some (some (.int .u8 0), 1, 1)) (A : Option Addr) (c : Nat) (l : List Int) (k : Nat) (hk : k ≤ l.length) (hc : l.length ≤ c) {n : Nat} (hn : n = l.length) :
    ∃ A', (∀ W : World, (Instr.slice t (.slice A n c) (some (.int .i64 (k : Int))) none none).run P W = .ok (.slice A' (n - k) (c - k)) W) ∧ (∀ w, C8 w A l → C8 w A' (l.drop k)) ∧ Same A' A := by
  subst hn
  obtain ⟨i, hi, _, hsz, _⟩ := info_partsC hinfo
  have hl : (l.drop k).length = l.length - k := List.length_drop
  refine ⟨if c = k then A else A.map (·.add k), fun W => ?_, fun w h => ?_, ?_⟩
  · have hel : P.elem t = e := by simp [Program.elem, ht]
    have hu : P.underlying t = some (.slice (P.elem t)) := by rw [hel]; exact ht
    rw [run_slice_l W t A l.length c hu .i64 (k : Int) (Int.natCast_nonneg _) (by omega), hel]
    simp [sizeOf, typeInfo, hi, hsz, sliced, Result.andThen]
  · have := ReadsOf.drop_ (h := Kd.reads_of_C (enc := Value.int .u8) (d := (0 : Int)) (h1 := fun _ => rfl) h) k hk hc
    rw [← hl] at this
    exact Kd.C_of_reads (h1 := fun _ => rfl) this
  · intro ad' e
    by_cases h : c = k
    · rw [if_pos h] at e; exact ⟨ad', e, rfl⟩
    · rw [if_neg h] at e
      cases A with
      | none => cases e
      | some ad => injection e with e; exact ⟨ad, rfl, by rw [← e, add_block]⟩
end
theorem bytesC_take {l : List Int} (h : ∀ i, 0 ≤ l.getD i 0 ∧ l.getD i 0 ≤ 255) (k : Nat) : ∀ i, 0 ≤ (l.take k).getD i 0 ∧ (l.take k).getD i 0 ≤ 255 := by
  intro i
  rw [List.getD_eq_getElem?_getD, List.getElem?_take]
  by_cases hi : i < k
  · rw [if_pos hi, ← List.getD_eq_getElem?_getD]; exact h i
  · rw [if_neg hi]; simp
theorem bytesC_drop {l : List Int} (h : ∀ i, 0 ≤ l.getD i 0 ∧ l.getD i 0 ≤ 255) (k : Nat) : ∀ i, 0 ≤ (l.drop k).getD i 0 ∧ (l.drop k).getD i 0 ≤ 255 := by
  intro i
  rw [List.getD_eq_getElem?_getD, List.getElem?_drop, ← List.getD_eq_getElem?_getD]
  exact h _
end Go.Proofs.YtjdnnpfhlkgooaaDoor.Kit
