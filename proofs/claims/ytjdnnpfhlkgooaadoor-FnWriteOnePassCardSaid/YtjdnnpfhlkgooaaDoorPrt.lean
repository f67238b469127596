/- packet.partialLengthReader over impl.source: its Read. -/
import Derived.Test.YtjdnnpfhlkgooaaDoorSpn
set_option linter.unusedVariables false
set_option linter.unusedSimpArgs false
namespace Go.Proofs.YtjdnnpfhlkgooaaDoor.Rd
open Go.RowKit Go.Proofs.YtjdnnpfhlkgooaaDoorW.PrintWords Go.Proofs.YtjdnnpfhlkgooaaDoorW.PrintMore Go.Proofs.YtjdnnpfhlkgooaaDoor.Kit

theorem rdl_lt : ∀ {l : List Int} {n : Int} {p : Bool} {t : List Int}, rdl l = some (n, p, t) → t.length < l.length
  | [], _, _, _, h => by simp [rdl] at h
  | b :: t0, n, p, t, h => by
    simp only [rdl] at h
    split at h
    · simp only [Option.some.injEq, Prod.mk.injEq] at h; obtain ⟨_, _, rfl⟩ := h; simp
    · split at h
      · split at h
        · simp only [Option.some.injEq, Prod.mk.injEq] at h; obtain ⟨_, _, rfl⟩ := h; simp; omega
        · cases h
      · split at h
        · simp only [Option.some.injEq, Prod.mk.injEq] at h; obtain ⟨_, _, rfl⟩ := h; simp
        · split at h
          · simp only [Option.some.injEq, Prod.mk.injEq] at h; obtain ⟨_, _, rfl⟩ := h; simp; omega
          · cases h
theorem rdl_bound {l : List Int} {n : Int} {p : Bool} {t : List Int} (h : rdl l = some (n, p, t)) (hb : Bytes l) : 0 ≤ n ∧ n ≤ 4294967296 := by
  match l, h, hb with
  | [], h, _ => simp [rdl] at h
  | b :: t0, h, hb =>
    have b0 := hb 0
    have b1 := hb 1
    have b2 := hb 2
    have b3 := hb 3
    have b4 := hb 4
    simp only [List.getD_cons_zero] at b0
    simp only [rdl] at h
    split at h
    · simp only [Option.some.injEq, Prod.mk.injEq] at h; omega
    · split at h
      · split at h
        · simp only [Option.some.injEq, Prod.mk.injEq] at h; simp at b1; omega
        · cases h
      · split at h
        · simp only [Option.some.injEq, Prod.mk.injEq] at h
          obtain ⟨e, _, _⟩ := h
          have h1 : (b % 32).toNat ≤ 31 := by omega
          have h2 : (2 : Int) ^ (b % 32).toNat ≤ 2 ^ 31 := by
            have : (2 : Nat) ^ (b % 32).toNat ≤ 2 ^ 31 := Nat.pow_le_pow_right (by decide) h1
            exact_mod_cast this
          have h3 : (0 : Int) ≤ 2 ^ (b % 32).toNat := Int.pow_nonneg (by decide)
          have h4 : (2 : Int) ^ 31 = 2147483648 := by decide
          omega
        · split at h
          · simp only [Option.some.injEq, Prod.mk.injEq] at h; simp at b1 b2 b3 b4; omega
          · cases h
/-- What is left of a body in parts: n bytes of this part (p: more parts follow), L is what the source has. bd: the bytes to come; ok: they end as they should; rest: what the source has then. -/
inductive Parts : Nat → Bool → List Int → List Int → Bool → List Int → Prop
  | short {n : Nat} {p : Bool} {L : List Int} : L.length < n → Parts n p L L false []
  | last {n : Nat} {L : List Int} : n ≤ L.length → Parts n false L (L.take n) true (L.drop n)
  | cut {n : Nat} {L : List Int} : n ≤ L.length → rdl (L.drop n) = none → Parts n true L (L.take n) false []
  | more {n : Nat} {L : List Int} {n' : Int} {p' : Bool} {t bd : List Int} {ok : Bool} {rest : List Int} : n ≤ L.length → rdl (L.drop n) = some (n', p', t) → Parts n'.toNat p' t bd ok rest → Parts n true L (L.take n ++ bd) ok rest
theorem Parts.any : ∀ (f : Nat) (n : Nat) (p : Bool) (L : List Int), L.length < f → ∃ bd ok rest, Parts n p L bd ok rest
  | 0, _, _, _, h => absurd h (by omega)
  | f + 1, n, p, L, h => by
    by_cases h1 : n ≤ L.length
    · cases p with
      | false => exact ⟨_, _, _, .last h1⟩
      | true =>
        cases h2 : rdl (L.drop n) with
        | none => exact ⟨_, _, _, .cut h1 h2⟩
        | some x =>
          obtain ⟨n', p', t⟩ := x
          have h3 := rdl_lt h2
          rw [List.length_drop] at h3
          obtain ⟨bd, ok, rest, h4⟩ := Parts.any f n'.toNat p' t (by omega)
          exact ⟨_, _, _, .more h1 h2 h4⟩
    · exact ⟨_, _, _, .short (by omega)⟩
section
variable {n : Nat} {p : Bool} {L bd rest : List Int} {ok : Bool}
theorem Parts.zero (h : Parts 0 p L bd ok rest) : (p = false ∧ bd = [] ∧ ok = true ∧ rest = L) ∨ (p = true ∧ rdl L = none ∧ bd = [] ∧ ok = false ∧ rest = []) ∨ (p = true ∧ ∃ n' p' t, rdl L = some (n', p', t) ∧ Parts n'.toNat p' t bd ok rest) := by
  generalize hn : 0 = n at h
  cases h with
  | short h => omega
  | last h => subst hn; exact .inl ⟨rfl, by simp, rfl, by simp⟩
  | cut h h2 => subst hn; exact .inr (.inl ⟨rfl, by simpa using h2, by simp, rfl, rfl⟩)
  | more h h2 h3 => subst hn; exact .inr (.inr ⟨rfl, _, _, _, by simpa using h2, by simpa using h3⟩)
theorem Parts.empty (h : Parts n p [] bd ok rest) (hn : 1 ≤ n) : bd = [] ∧ ok = false ∧ rest = [] := by
  generalize hL : ([] : List Int) = L at h
  cases h with
  | short h => subst hL; exact ⟨rfl, rfl, rfl⟩
  | last h => subst hL; simp at h; omega
  | cut h _ => subst hL; simp at h; omega
  | more h _ _ => subst hL; simp at h; omega
theorem Parts.step (h : Parts n p L bd ok rest) {k : Nat} (h1 : k ≤ n) (h2 : k ≤ L.length) : k ≤ bd.length ∧ bd.take k = L.take k ∧ Parts (n - k) p (L.drop k) (bd.drop k) ok rest := by
  have e : ∀ {m : Nat}, k ≤ m → (L.take m).drop k = (L.drop k).take (m - k) := fun hm => List.drop_take
  cases h with
  | short h => exact ⟨h2, rfl, .short (by rw [List.length_drop]; omega)⟩
  | last h =>
    refine ⟨by rw [List.length_take]; omega, by rw [List.take_take, Nat.min_eq_left h1], ?_⟩
    rw [e h1]
    have := Parts.last (n := n - k) (L := L.drop k) (by rw [List.length_drop]; omega)
    rw [List.drop_drop, show k + (n - k) = n by omega] at this
    exact this
  | cut h h3 =>
    refine ⟨by rw [List.length_take]; omega, by rw [List.take_take, Nat.min_eq_left h1], ?_⟩
    rw [e h1]
    exact .cut (by rw [List.length_drop]; omega) (by rw [List.drop_drop, show k + (n - k) = n by omega]; exact h3)
  | more h h3 h4 =>
    refine ⟨by rw [List.length_append, List.length_take]; omega, by rw [List.take_append_of_le_length (by rw [List.length_take]; omega), List.take_take, Nat.min_eq_left h1], ?_⟩
    rw [List.drop_append_of_le_length (by rw [List.length_take]; omega), e h1]
    exact .more (by rw [List.length_drop]; omega) (by rw [List.drop_drop, show k + (n - k) = n by omega]; exact h3) h4
/-- What is to come begins with what the source has. -/
theorem Parts.pos (h : Parts n p L bd ok rest) (hn : 1 ≤ n) (hL : 0 < L.length) : 0 < bd.length := by
  have := (h.step (k := 1) hn hL).1
  omega
theorem Parts.le (h : Parts n p L bd ok rest) : bd.length + rest.length ≤ L.length := by
  induction h with
  | short h => simp
  | last h => simp; omega
  | cut h _ => simp; omega
  | more h h2 h3 ih =>
    have := rdl_lt h2
    rw [List.length_drop] at this
    rw [List.length_append, List.length_take]
    omega
end

/-- A partialLengthReader at block b: n bytes of this part are still to come, p: parts follow it. -/
structure Prt (w : World) (b s n : Nat) (p : Bool) : Prop where
  c0 : w.cell? ⟨b, 0, none⟩ = some (.iface 88 (.pointer (some ⟨s, 0, none⟩)))
  c1 : w.cell? ⟨b, 1, none⟩ = some (.int .i64 (n : Int))
  c2 : w.cell? ⟨b, 2, none⟩ = some (.bool p)
  z1 : w.frozen? ⟨b, 1, none⟩ = false
  z2 : w.frozen? ⟨b, 2, none⟩ = false
  ne : b ≠ s
section
variable {w w1 : World} {b s n : Nat} {p : Bool} {T : Nat → Prop}
theorem Prt.lt (h : Prt w b s n p) : b < w.heap.size := World.block_lt_of_cell? w _ h.c0
theorem Prt.kept (h : Prt w b s n p) (hT : Tch T w w1) (hn : ¬ T b) : Prt w1 b s n p :=
  { h with
    c0 := hT.cell h.c0 hn
    c1 := hT.cell h.c1 hn
    c2 := hT.cell h.c2 hn
    z1 := (hT.frozen h.lt hn).trans h.z1
    z2 := (hT.frozen h.lt hn).trans h.z2 }
theorem Prt.put (h : Prt w b s n p) (k : Nat) : Prt (w.setCell ⟨b, 1, none⟩ (.int .i64 (k : Int))) b s k p := by
  have c0 := h.c0
  have c1 := h.c1
  have c2 := h.c2
  have z1 := h.z1
  have z2 := h.z2
  exact ⟨by simp [go_sem, *], by simp [go_sem, *], by simp [go_sem, *], by simp [go_sem, *], by simp [go_sem, *], h.ne⟩
theorem Prt.put2 (h : Prt w b s n p) (k : Nat) (q : Bool) : Prt ((w.setCell ⟨b, 1, none⟩ (.int .i64 (k : Int))).setCell ⟨b, 2, none⟩ (.bool q)) b s k q := by
  have h := h.put k
  have c0 := h.c0
  have c1 := h.c1
  have c2 := h.c2
  have z1 := h.z1
  have z2 := h.z2
  exact ⟨by simp [go_sem, *], by simp [go_sem, *], by simp [go_sem, *], by simp [go_sem, *], by simp [go_sem, *], h.ne⟩
end
end Go.Proofs.YtjdnnpfhlkgooaaDoor.Rd
