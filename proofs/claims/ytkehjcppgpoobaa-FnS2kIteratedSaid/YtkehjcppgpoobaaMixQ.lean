/- Stretching by a hash: the sums of a text with more and more zeros ahead, one behind the other. -/
import Derived.Test.YtkehjcppgpoobaaMixP
set_option linter.unusedVariables false
set_option linter.unusedSimpArgs false
namespace Go.Proofs.Ytkehjcppgpoobaa.Mix
open Go.RowKit Go.Proofs.YtkehjcppgpoobaaW.PrintWords Go.Proofs.Ytkehjcppgpoobaa.Kit

def cat (sub mask x : List Int) : Nat → List Int
  | 0 => []
  | i + 1 => cat sub mask x i ++ hashOf sub mask (List.replicate i 0 ++ x)
/-- What an area of so many bytes holds behind so many sums. -/
def outAt (sub mask x : List Int) (size i : Nat) : List Int := (cat sub mask x i).take size ++ List.replicate (size - i * mask.length) 0
section
variable (sub mask x : List Int)
theorem cat_length (i : Nat) : (cat sub mask x i).length = i * mask.length := by
  induction i with
  | zero => simp [cat]
  | succ i ih => rw [cat, List.length_append, ih, hashOf_length, Nat.succ_mul]
theorem outAt_length (size i : Nat) : (outAt sub mask x size i).length = size := by
  rw [outAt, List.length_append, List.length_take, cat_length, List.length_replicate]; omega
theorem outAt_zero (size : Nat) : outAt sub mask x size 0 = List.replicate size 0 := by simp [outAt, cat]
theorem outAt_end (size i : Nat) (h : size ≤ i * mask.length) : outAt sub mask x size i = (cat sub mask x i).take size := by
  rw [outAt, Nat.sub_eq_zero_of_le h]; simp
theorem outAt_step (size i : Nat) (h : i * mask.length < size) :
    (outAt sub mask x size i).take (i * mask.length) ++ ((hashOf sub mask (List.replicate i 0 ++ x)).take (min (hashOf sub mask (List.replicate i 0 ++ x)).length (size - i * mask.length)) ++ (outAt sub mask x size i).drop (i * mask.length + min (hashOf sub mask (List.replicate i 0 ++ x)).length (size - i * mask.length))) = outAt sub mask x size (i + 1) := by
  have hl := cat_length sub mask x i
  have hh := hashOf_length sub mask (List.replicate i 0 ++ x)
  have e0 : outAt sub mask x size i = cat sub mask x i ++ List.replicate (size - i * mask.length) 0 := by
    rw [outAt, List.take_of_length_le (by omega)]
  have e1 : outAt sub mask x size (i + 1) = (cat sub mask x i ++ hashOf sub mask (List.replicate i 0 ++ x)).take size ++ List.replicate (size - (i + 1) * mask.length) 0 := rfl
  have es : (i + 1) * mask.length = i * mask.length + mask.length := Nat.succ_mul _ _
  rw [e0, e1, hh, es]
  generalize hashOf sub mask (List.replicate i 0 ++ x) = s at *
  generalize i * mask.length = L at *
  generalize cat sub mask x i = C at *
  rw [List.take_append_of_le_length (by omega), List.take_of_length_le (by omega), List.drop_append, List.drop_of_length_le (by omega), List.nil_append, List.drop_replicate, List.take_append, List.take_of_length_le (by omega : C.length ≤ size), List.append_assoc]
  congr 1
  rw [hl]
  congr 1
  · rcases Nat.le_total mask.length (size - L) with h1 | h1
    · rw [Nat.min_eq_left h1, List.take_of_length_le (by omega), List.take_of_length_le (by omega)]
    · rw [Nat.min_eq_right h1]
  · congr 1; omega
theorem cat_more (i j : Nat) : ∃ r, cat sub mask x (i + j) = cat sub mask x i ++ r := by
  induction j with
  | zero => exact ⟨[], by simp⟩
  | succ j ih =>
    obtain ⟨r, hr⟩ := ih
    exact ⟨r ++ hashOf sub mask (List.replicate (i + j) 0 ++ x), by rw [← Nat.add_assoc, cat, hr, List.append_assoc]⟩
theorem cat_take (size i j : Nat) (hi : size ≤ i * mask.length) (hj : size ≤ j * mask.length) : (cat sub mask x i).take size = (cat sub mask x j).take size := by
  have key : ∀ a b, size ≤ a * mask.length → (cat sub mask x (a + b)).take size = (cat sub mask x a).take size := fun a b h => by
    obtain ⟨r, hr⟩ := cat_more sub mask x a b
    rw [hr, List.take_append_of_le_length (by rw [cat_length]; exact h)]
  rcases Nat.le_total i j with h | h
  · obtain ⟨k, rfl⟩ := Nat.exists_eq_add_of_le h
    exact (key i k hi).symm
  · obtain ⟨k, rfl⟩ := Nat.exists_eq_add_of_le h
    exact key j k hj
end
end Go.Proofs.Ytkehjcppgpoobaa.Mix
