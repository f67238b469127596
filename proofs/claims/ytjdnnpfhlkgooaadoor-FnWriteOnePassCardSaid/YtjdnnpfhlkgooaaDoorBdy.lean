/- A body that is read: the source itself, a span of it, or parts of it. One contract of Read for all three. -/
import Derived.Test.YtjdnnpfhlkgooaaDoorPrd
set_option linter.unusedVariables false
set_option linter.unusedSimpArgs false
namespace Go.Proofs.YtjdnnpfhlkgooaaDoor.Rd
open Go.RowKit Go.Proofs.YtjdnnpfhlkgooaaDoorW.PrintWords Go.Proofs.YtjdnnpfhlkgooaaDoorW.PrintMore Go.Proofs.YtjdnnpfhlkgooaaDoor.Kit

/-- Reading v gives bd, and ends well (ok) or not; the source at s has rest then. b: the reader's own block (s, if it is the source). -/
def Bdy (w : World) (d s b : Nat) (split : Int) (v : Value) (bd : List Int) (ok : Bool) (rest : List Int) : Prop :=
  (v = (.iface 88 (.pointer (some ⟨b, 0, none⟩))) ∧ b = s ∧ ok = true ∧ rest = [] ∧ ∃ A c, Src w d s A c bd split) ∨
  (v = (.iface 157 (.pointer (some ⟨b, 0, none⟩))) ∧ d ≤ b ∧ ∃ n A c L, Src w d s A c L split ∧ Spn w b s n ∧ n ≤ 4294967296 ∧ bd = L.take n ∧ ok = decide (n ≤ L.length) ∧ rest = L.drop n) ∨
  (v = (.iface 162 (.pointer (some ⟨b, 0, none⟩))) ∧ d ≤ b ∧ PrtS w d s b split bd ok rest)
def BdyOut (w : World) (d s b : Nat) (split : Int) (v : Value) (e base g off N cap m : Nat) (xs : List Int) (aE aU : Addr) (bd : List Int) (ok : Bool) (rest : List Int) (en : Ending) (w' : World) : Prop :=
  ∃ k ok' rest', k ≤ m ∧ k ≤ bd.length ∧ (0 < bd.length → 1 ≤ k ∧ ok' = ok ∧ rest' = rest) ∧ (ok = true → ok' = true ∧ rest' = rest ∧ (bd = [] → ∃ A c, Src w' d s A c rest split)) ∧ en = .returned (.tuple #[.int .i64 (k : Int), if 0 < bd.length then .nilIface else if ok = true then (.iface 209 (.pointer (some aE))) else (.iface 209 (.pointer (some aU)))]) ∧ Bdy w' d s b split v (bd.drop k) ok' rest' ∧ R8 e w' base (.slice (some ⟨g, 0, none⟩) N cap) (xs.take off ++ (bd.take k ++ xs.drop (off + k))) ∧ Tch (fun j => j = g ∨ j = s ∨ j = b) w w'
theorem rdl_bytes : ∀ {l : List Int} {n : Int} {p : Bool} {t : List Int}, rdl l = some (n, p, t) → Bytes l → Bytes t
  | [], _, _, _, h, _ => by simp [rdl] at h
  | b :: t0, n, p, t, h, hb => by
    have h1 : Bytes t0 := fun i => by simpa using hb (i + 1)
    simp only [rdl] at h
    split at h
    · simp only [Option.some.injEq, Prod.mk.injEq] at h; obtain ⟨_, _, rfl⟩ := h; exact h1
    · split at h
      · split at h
        · simp only [Option.some.injEq, Prod.mk.injEq] at h; obtain ⟨_, _, rfl⟩ := h; exact fun i => by simpa using h1 (i + 1)
        · cases h
      · split at h
        · simp only [Option.some.injEq, Prod.mk.injEq] at h; obtain ⟨_, _, rfl⟩ := h; exact h1
        · split at h
          · simp only [Option.some.injEq, Prod.mk.injEq] at h; obtain ⟨_, _, rfl⟩ := h; exact fun i => by simpa using h1 (i + 4)
          · cases h
theorem bytes_app {l l' : List Int} (h : Bytes l) (h' : Bytes l') : Bytes (l ++ l') := fun i => by
  rw [List.getD_eq_getElem?_getD, List.getElem?_append]
  by_cases q : i < l.length
  · rw [if_pos q, ← List.getD_eq_getElem?_getD]; exact h i
  · rw [if_neg q, ← List.getD_eq_getElem?_getD]; exact h' _
theorem Parts.bytes {n : Nat} {p : Bool} {L bd rest : List Int} {ok : Bool} (h : Parts n p L bd ok rest) (hb : Bytes L) : Bytes bd := by
  induction h with
  | short h => exact hb
  | last h => exact bytesC_take hb _
  | cut h _ => exact bytesC_take hb _
  | more h h2 h3 ih => exact bytes_app (bytesC_take hb _) (ih (rdl_bytes h2 (bytesC_drop hb _)))
section
variable {w w1 : World} {d s b : Nat} {split : Int} {v : Value} {bd rest : List Int} {ok : Bool} {T : Nat → Prop}
theorem Bdy.src (h : Bdy w d s b split v bd ok rest) : ∃ A c L, Src w d s A c L split := by
  rcases h with ⟨_, _, _, _, A, c, hs⟩ | ⟨_, _, n, A, c, L, hs, _⟩ | ⟨_, _, n, p, L, A, c, hs, _⟩
  · exact ⟨A, c, _, hs⟩
  · exact ⟨A, c, L, hs⟩
  · exact ⟨A, c, L, hs⟩
theorem Bdy.db (h : Bdy w d s b split v bd ok rest) : d ≤ b := by
  rcases h with ⟨_, rfl, _, _, A, c, hs⟩ | ⟨_, hd, _⟩ | ⟨_, hd, _⟩
  · exact hs.ds
  · exact hd
  · exact hd
theorem Bdy.ds (h : Bdy w d s b split v bd ok rest) : d ≤ s := by
  obtain ⟨A, c, L, hs⟩ := h.src
  exact hs.ds
theorem Bdy.ltb (h : Bdy w d s b split v bd ok rest) : b < w.heap.size := by
  rcases h with ⟨_, rfl, _, _, A, c, hs⟩ | ⟨_, hd, n, A, c, L, hs, hp, _⟩ | ⟨_, hd, n, p, L, A, c, hs, hp, _⟩
  · exact hs.lt
  · exact hp.lt
  · exact hp.lt
theorem Bdy.lts (h : Bdy w d s b split v bd ok rest) : s < w.heap.size := by
  obtain ⟨A, c, L, hs⟩ := h.src
  exact hs.lt
theorem Bdy.kept (h : Bdy w d s b split v bd ok rest) (hT : Tch T w w1) (hd : ∀ k, T k → d ≤ k ∧ k ≠ s ∧ k ≠ b) : Bdy w1 d s b split v bd ok rest := by
  have h1 : ∀ k, T k → d ≤ k ∧ k ≠ s := fun k t => ⟨(hd k t).1, (hd k t).2.1⟩
  have nb : ¬ T b := fun t => (hd b t).2.2 rfl
  rcases h with ⟨e, eb, eo, er, A, c, hs⟩ | ⟨e, db, n, A, c, L, hs, hp, hn⟩ | ⟨e, db, n, p, L, A, c, hs, hp, hn⟩
  · exact .inl ⟨e, eb, eo, er, A, c, hs.kept hT h1⟩
  · exact .inr (.inl ⟨e, db, n, A, c, L, hs.kept hT h1, hp.kept hT nb, hn⟩)
  · exact .inr (.inr ⟨e, db, n, p, L, A, c, hs.kept hT h1, hp.kept hT nb, hn⟩)
theorem Bdy.below (h : Bdy w d s b split v bd ok rest) (hB : Below w.heap.size w w1) : Bdy w1 d s b split v bd ok rest := h.kept (Tch.of_below (S := fun _ => False) hB) (fun _ f => f.elim)
theorem Bdy.bytes (h : Bdy w d s b split v bd ok rest) : Bytes bd := by
  rcases h with ⟨_, rfl, _, _, A, c, hs⟩ | ⟨_, hd, n, A, c, L, hs, hp, _, rfl, _⟩ | ⟨_, hd, n, p, L, A, c, hs, hp, _, hpa⟩
  · exact hs.by_
  · exact bytesC_take hs.by_ n
  · exact hpa.bytes hs.by_
theorem Bdy.v_src (h : Bdy w d s b split (.iface 88 (.pointer (some ⟨b, 0, none⟩))) bd ok rest) : b = s ∧ ok = true ∧ rest = [] ∧ ∃ A c, Src w d s A c bd split := by
  rcases h with ⟨e, h⟩ | ⟨e, h⟩ | ⟨e, h⟩
  · exact h
  · injection e with e; exact absurd e (by decide)
  · injection e with e; exact absurd e (by decide)
theorem Bdy.v_spn (h : Bdy w d s b split (.iface 157 (.pointer (some ⟨b, 0, none⟩))) bd ok rest) : d ≤ b ∧ ∃ n A c L, Src w d s A c L split ∧ Spn w b s n ∧ n ≤ 4294967296 ∧ bd = L.take n ∧ ok = decide (n ≤ L.length) ∧ rest = L.drop n := by
  rcases h with ⟨e, h⟩ | ⟨e, h⟩ | ⟨e, h⟩
  · injection e with e; exact absurd e (by decide)
  · exact h
  · injection e with e; exact absurd e (by decide)
theorem Bdy.v_prt (h : Bdy w d s b split (.iface 162 (.pointer (some ⟨b, 0, none⟩))) bd ok rest) : d ≤ b ∧ PrtS w d s b split bd ok rest := by
  rcases h with ⟨e, h⟩ | ⟨e, h⟩ | ⟨e, h⟩
  · injection e with e; exact absurd e (by decide)
  · injection e with e; exact absurd e (by decide)
  · exact h
end
section
variable {w : World} {d s b : Nat} {split : Int} {bd rest : List Int} {ok : Bool} {aE aU : Addr} {e base g off N cap m mc : Nat} {xs : List Int}
theorem bdy_src (h : Bdy w d s b split (.iface 88 (.pointer (some ⟨b, 0, none⟩))) bd ok rest) (hE : Env w d aE aU) (hD : R8 e w base (.slice (some ⟨g, 0, none⟩) N cap) xs) (h1 : off + m ≤ N) (hm : 1 ≤ m) (hmc : m ≤ mc) (gs : g ≠ s) (gd : d ≤ g) (gb : g ≠ b) :
    Calls Tryd.prog 113 #[.pointer (some ⟨b, 0, none⟩), .slice (some ⟨g, off, none⟩) m mc] w (BdyOut w d s b split (.iface 88 (.pointer (some ⟨b, 0, none⟩))) e base g off N cap m xs aE aU bd ok rest) := by
  obtain ⟨rfl, rfl, rfl, A, c, hs⟩ := h.v_src
  by_cases hb : bd = []
  · subst hb
    refine (read_end hs hE _ hm).mono ?_
    rintro en w1 ⟨rfl, hB⟩
    refine ⟨0, true, [], by omega, by simp, fun h => absurd h (by simp), fun _ => ⟨rfl, rfl, fun _ => ⟨A, c, hs.below hB⟩⟩, by simp, .inl ⟨rfl, rfl, rfl, rfl, A, c, hs.below hB⟩, ?_, Tch.of_below hB⟩
    rw [List.take_nil, List.nil_append, Nat.add_zero, List.take_append_drop]
    exact Kd.R_below hD hB
  · have hL := List.length_pos_iff.2 hb
    refine (read_more hs hD h1 hm hmc gs gd hL).mono ?_
    rintro en w1 ⟨k, k1, k2, k3, rfl, ⟨A', c', hS⟩, hR, hT⟩
    exact ⟨k, true, [], k2, k3, fun _ => ⟨k1, rfl, rfl⟩, fun _ => ⟨rfl, rfl, fun e => absurd e hb⟩, by rw [if_pos hL], .inl ⟨rfl, rfl, rfl, rfl, A', c', hS⟩, hR, hT.mono (fun j q => by rcases q with q | q; exact .inl q; exact .inr (.inl q))⟩
theorem bdy_spn (h : Bdy w d s b split (.iface 157 (.pointer (some ⟨b, 0, none⟩))) bd ok rest) (hE : Env w d aE aU) (hD : R8 e w base (.slice (some ⟨g, 0, none⟩) N cap) xs) (h1 : off + m ≤ N) (hm : 1 ≤ m) (hmc : m ≤ mc) (gs : g ≠ s) (gd : d ≤ g) (gb : g ≠ b) :
    Calls Tryd.prog 127 #[.pointer (some ⟨b, 0, none⟩), .slice (some ⟨g, off, none⟩) m mc] w (BdyOut w d s b split (.iface 157 (.pointer (some ⟨b, 0, none⟩))) e base g off N cap m xs aE aU bd ok rest) := by
  obtain ⟨db, n, A, c, L, hs, hp, hn, rfl, rfl, rfl⟩ := h.v_spn
  by_cases hn0 : n = 0
  · subst hn0
    refine (spn_eof hp hE _ m mc).mono ?_
    rintro en w1 ⟨rfl, hB⟩
    refine ⟨0, true, L, by omega, by simp, fun h => absurd h (by simp), fun _ => ⟨rfl, by simp, fun _ => ⟨A, c, by simpa using hs.below hB⟩⟩, by simp, .inr (.inl ⟨rfl, db, 0, A, c, L, hs.below hB, hp.kept (Tch.of_below (S := fun _ => False) hB) id, hn, by simp, by simp, by simp⟩), ?_, Tch.of_below hB⟩
    rw [List.take_zero, List.nil_append, Nat.add_zero, List.take_append_drop]
    exact Kd.R_below hD hB
  · by_cases hb : L = []
    · subst hb
      refine (spn_cut hs hp hE _ hm hmc (by omega) hn db).mono ?_
      rintro en w1 ⟨rfl, ⟨A', c', hS⟩, hP, hT⟩
      refine ⟨0, false, [], by omega, by simp, fun h => absurd h (by simp), fun h => absurd h (by simp; omega), by simp [show ¬ n ≤ 0 by omega], .inr (.inl ⟨rfl, db, n, A', c', [], hS, hP, hn, by simp, by simp; omega, by simp⟩), ?_, hT.mono (fun j q => .inr (.inr q))⟩
      rw [List.take_nil, List.take_nil, List.nil_append, Nat.add_zero, List.take_append_drop]
      exact hT.r8 hD (fun j e q => by simp [Value.ownBlock] at e; omega)
    · have hL := List.length_pos_iff.2 hb
      refine (spn_more hs hp hE hD h1 hm hmc gs gd gb (by omega) hn db hL).mono ?_
      rintro en w1 ⟨k, k1, k2, k3, k4, rfl, ⟨A', c', hS⟩, hP, hR, hT⟩
      have hb0 : 0 < (L.take n).length := by rw [List.length_take]; omega
      have tk : (L.take n).take k = L.take k := by rw [List.take_take, Nat.min_eq_left k3]
      refine ⟨k, _, _, k2, by rw [List.length_take]; omega, fun _ => ⟨k1, rfl, rfl⟩, fun h => ⟨h, rfl, fun e => by rw [e] at hb0; simp at hb0⟩, by rw [if_pos hb0], .inr (.inl ⟨rfl, db, n - k, A', c', L.drop k, hS, hP, by omega, List.drop_take, ?_, ?_⟩), by rw [tk]; exact hR, hT⟩
      · rw [List.length_drop]; by_cases q : n ≤ L.length
        · rw [decide_eq_true q, decide_eq_true (by omega)]
        · rw [decide_eq_false q, decide_eq_false (by omega)]
      · rw [List.drop_drop, show k + (n - k) = n by omega]
theorem bdy_prt (h : Bdy w d s b split (.iface 162 (.pointer (some ⟨b, 0, none⟩))) bd ok rest) (hE : Env w d aE aU) (hD : R8 e w base (.slice (some ⟨g, 0, none⟩) N cap) xs) (h1 : off + m ≤ N) (hm : 1 ≤ m) (hmc : m ≤ mc) (gs : g ≠ s) (gd : d ≤ g) (gb : g ≠ b) :
    Calls Tryd.prog 128 #[.pointer (some ⟨b, 0, none⟩), .slice (some ⟨g, off, none⟩) m mc] w (BdyOut w d s b split (.iface 162 (.pointer (some ⟨b, 0, none⟩))) e base g off N cap m xs aE aU bd ok rest) := by
  obtain ⟨db, hp⟩ := h.v_prt
  refine (prt_read hp hE hD h1 hm hmc gs gd gb db).mono ?_
  rintro en w1 ⟨k, ok', rest', a1, a2, a3, a4, a5, a6, a7, a8⟩
  exact ⟨k, ok', rest', a1, a2, a3, a4, a5, .inr (.inr ⟨rfl, db, a6⟩), a7, a8⟩
end
end Go.Proofs.YtjdnnpfhlkgooaaDoor.Rd
