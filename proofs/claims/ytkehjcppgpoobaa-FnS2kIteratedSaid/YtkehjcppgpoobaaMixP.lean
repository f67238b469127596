/- A hash of plain data, as a function of lists. -/
import Derived.Test.YtkehjcppgpoobaaOct0
set_option linter.unusedVariables false
set_option linter.unusedSimpArgs false
namespace Go.Proofs.Ytkehjcppgpoobaa.Mix
open Go.RowKit Go.Proofs.YtkehjcppgpoobaaW.PrintWords Go.Proofs.Ytkehjcppgpoobaa.Kit

/-- Exclusive or of two bytes. -/
abbrev xr (a b : Int) : Int := Go.bits .xor .u8 a b
/-- One byte more: the k-th. -/
def stepH (sub : List Int) (n k : Nat) (s : List Int) (b : Int) : List Int :=
  s.set (k % n) (xr (sub.getD (xr (s.getD (k % n) 0) b).toNat 0) (s.getD ((k + 1) % n) 0))
/-- The state behind more bytes, the first of which is the k-th. -/
def mixN (sub : List Int) (n : Nat) : Nat → List Int → List Int → List Int
  | _, s, [] => s
  | k, s, b :: t => mixN sub n (k + 1) (stepH sub n k s b) t
/-- The sum. -/
def hashOf (sub mask t : List Int) : List Int := mixN sub mask.length 0 mask t

theorem mixN_append (sub : List Int) (n : Nat) (a b : List Int) : ∀ (k : Nat) (s : List Int), mixN sub n k s (a ++ b) = mixN sub n (k + a.length) (mixN sub n k s a) b := by
  induction a with
  | nil => intro k s; rfl
  | cons x t ih =>
    intro k s
    show mixN sub n (k + 1) (stepH sub n k s x) (t ++ b) = _
    rw [ih (k + 1) (stepH sub n k s x)]
    show _ = mixN sub n (k + (t.length + 1)) (mixN sub n (k + 1) (stepH sub n k s x) t) b
    rw [show k + (t.length + 1) = k + 1 + t.length by omega]
theorem mixN_snoc (sub : List Int) (n : Nat) (a : List Int) (b : Int) (k : Nat) (s : List Int) : mixN sub n k s (a ++ [b]) = stepH sub n (k + a.length) (mixN sub n k s a) b := by
  rw [mixN_append]; rfl
theorem stepH_length (sub : List Int) (n k : Nat) (s : List Int) (b : Int) : (stepH sub n k s b).length = s.length := by simp [stepH]
theorem mixN_length (sub : List Int) (n : Nat) (t : List Int) : ∀ (k : Nat) (s : List Int), (mixN sub n k s t).length = s.length := by
  induction t with
  | nil => intro k s; rfl
  | cons x t ih => intro k s; exact (ih _ _).trans (stepH_length ..)
theorem mixN_take (sub : List Int) (n : Nat) (l : List Int) (k : Nat) (s : List Int) (i : Nat) (h : i < l.length) :
    mixN sub n k s (l.take (i + 1)) = stepH sub n (k + i) (mixN sub n k s (l.take i)) (l.getD i 0) := by
  rw [List.take_succ_eq_append_getElem h, mixN_snoc, List.length_take, Nat.min_eq_left (by omega)]
  rw [List.getD_eq_getElem?_getD, List.getElem?_eq_getElem h, Option.getD_some]
theorem hashOf_length (sub mask t : List Int) : (hashOf sub mask t).length = mask.length := mixN_length ..

theorem xr_range {a b : Int} (ha : 0 ≤ a) (ha' : a ≤ 255) (hb : 0 ≤ b) (hb' : b ≤ 255) : 0 ≤ xr a b ∧ xr a b ≤ 255 := by
  obtain ⟨x, rfl⟩ : ∃ x : Nat, a = x := ⟨a.toNat, by omega⟩
  obtain ⟨y, rfl⟩ : ∃ y : Nat, b = y := ⟨b.toNat, by omega⟩
  rw [xr, u8_xor_nat x y (by omega) (by omega)]
  have := Nat.xor_lt_two_pow (n := 8) (x := x) (y := y) (by omega) (by omega)
  omega
theorem bytes_set {s : List Int} (h : Bytes s) (i : Nat) {v : Int} (h0 : 0 ≤ v) (h1 : v ≤ 255) : Bytes (s.set i v) := by
  intro j
  rw [List.getD_eq_getElem?_getD, List.getElem?_set]
  by_cases hi : i = j
  · rw [if_pos hi]
    by_cases hl : i < s.length
    · rw [if_pos hl]; exact ⟨h0, h1⟩
    · rw [if_neg hl]; simp
  · rw [if_neg hi, ← List.getD_eq_getElem?_getD]; exact h j
theorem stepH_bytes {sub : List Int} {n k : Nat} {s : List Int} {b : Int} (hs : Bytes sub) (h : Bytes s) (hb : 0 ≤ b) (hb' : b ≤ 255) : Bytes (stepH sub n k s b) := by
  unfold stepH
  have h1 := h (k % n)
  have h2 := hs (xr (s.getD (k % n) 0) b).toNat
  have h3 := h ((k + 1) % n)
  have h4 := xr_range h2.1 h2.2 h3.1 h3.2
  exact bytes_set h _ h4.1 h4.2
theorem bytes_tail {x : Int} {t : List Int} (h : Bytes (x :: t)) : Bytes t := fun i => h (i + 1)
theorem mixN_bytes {sub : List Int} {n : Nat} (hs : Bytes sub) : ∀ {t : List Int} (_ : Bytes t) (k : Nat) {s : List Int} (_ : Bytes s), Bytes (mixN sub n k s t) := by
  intro t
  induction t with
  | nil => intro _ k s h; exact h
  | cons x t ih =>
    intro ht k s h
    have hx := ht 0
    exact ih (bytes_tail ht) (k + 1) (stepH_bytes hs h hx.1 hx.2)
end Go.Proofs.Ytkehjcppgpoobaa.Mix
