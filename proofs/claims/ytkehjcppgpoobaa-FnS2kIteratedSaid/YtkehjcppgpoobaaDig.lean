/- impl's hash of plain data: written, asked for its sum, begun anew, made. -/
import Derived.Test.YtkehjcppgpoobaaMixS
set_option linter.unusedVariables false
set_option linter.unusedSimpArgs false
namespace Go.Proofs.Ytkehjcppgpoobaa.Mix
open Go.RowKit Go.Proofs.YtkehjcppgpoobaaW.PrintWords Go.Proofs.YtkehjcppgpoobaaW.PrintMore Go.Proofs.Ytkehjcppgpoobaa.Kit

/-- A digest at block d, its state at block g: it was written the text t. -/
structure Dg (base : Nat) (w : World) (d : Nat) (S M : Option Addr) (cS cM g c : Nat) (sub mask t : List Int) : Prop where
  c0 : w.cell? ⟨d, 0, none⟩ = some (.slice S sub.length cS)
  c1 : w.cell? ⟨d, 1, none⟩ = some (.slice M mask.length cM)
  c2 : w.cell? ⟨d, 2, none⟩ = some (.slice (some ⟨g, 0, none⟩) mask.length c)
  c3 : w.cell? ⟨d, 3, none⟩ = some (.int .i64 ((t.length % mask.length : Nat) : Int))
  z2 : w.frozen? ⟨d, 2, none⟩ = false
  z3 : w.frozen? ⟨d, 3, none⟩ = false
  rs : C8 w S sub
  rm : C8 w M mask
  oS : Off (fun k => k = d ∨ k = g) S sub
  oM : Off (fun k => k = d ∨ k = g) M mask
  st : R8 5 w base (.slice (some ⟨g, 0, none⟩) mask.length c) (hashOf sub mask t)
  hd : base ≤ d
  ne : g ≠ d
  sl : sub.length = 256
  m1 : 1 ≤ mask.length
  m2 : mask.length ≤ 64
  bS : Bytes sub
  bM : Bytes mask
  bt : Bytes t

section
variable {base : Nat} {w w1 : World} {d : Nat} {S M : Option Addr} {cS cM g c : Nat} {sub mask t : List Int}
theorem Dg.bg (h : Dg base w d S M cS cM g c sub mask t) : base ≤ g ∧ g < w.heap.size := by
  have hl : 0 < (hashOf sub mask t).length := by rw [hashOf_length]; exact h.m1
  obtain ⟨g', cap, ev, h1, h2, _⟩ := Kd.R_form h.st hl
  injection ev with ev
  injection ev with ev
  injection ev with ev
  subst ev
  exact ⟨h1, h2⟩
theorem Dg.dl (h : Dg base w d S M cS cM g c sub mask t) : d < w.heap.size := World.block_lt_of_cell? w _ h.c0
theorem Dg.kept (h : Dg base w d S M cS cM g c sub mask t) {P : Nat → Prop} (hT : Tch P w w1) (hd : ¬ P d) (hg : ¬ P g) (hS : Off P S sub) (hM : Off P M mask) : Dg base w1 d S M cS cM g c sub mask t :=
  { h with
    c0 := hT.cell h.c0 hd
    c1 := hT.cell h.c1 hd
    c2 := hT.cell h.c2 hd
    c3 := hT.cell h.c3 hd
    z2 := (hT.frozen h.dl hd).trans h.z2
    z3 := (hT.frozen h.dl hd).trans h.z3
    rs := hT.c8 h.rs hS
    rm := hT.c8 h.rm hM
    st := hT.r8 h.st (fun k e => by simp [Value.ownBlock] at e; subst e; exact hg) }
theorem Off.none_ {A : Option Addr} {l : List Int} : Off (fun _ => False) A l := fun _ _ _ h => h
theorem Dg.below (h : Dg base w d S M cS cM g c sub mask t) (hB : Below w.heap.size w w1) : Dg base w1 d S M cS cM g c sub mask t :=
  h.kept (Tch.of_below (S := fun _ => False) hB) id id Off.none_ Off.none_
theorem Dg.drew (h : Dg base w d S M cS cM g c sub mask t) : Dg base w.drew d S M cS cM g c sub mask t := h.below (below_drew (Below.refl _ _))
theorem bytes_snoc {t : List Int} (h : Bytes t) {b : Int} (h0 : 0 ≤ b) (h1 : b ≤ 255) : Bytes (t ++ [b]) := by
  intro i
  rw [List.getD_eq_getElem?_getD, List.getElem?_append]
  by_cases hi : i < t.length
  · rw [if_pos hi, ← List.getD_eq_getElem?_getD]; exact h i
  · rw [if_neg hi]
    rcases Nat.eq_zero_or_pos (i - t.length) with e | e
    · rw [e]; simp; omega
    · rw [List.getElem?_eq_none (by simp; omega)]; simp
/-- One byte more. -/
theorem Dg.one (h : Dg base w d S M cS cM g c sub mask t) {b : Int} (b0 : 0 ≤ b) (b1 : b ≤ 255) {q q1 : Nat} {v : Int} (eq : t.length % mask.length = q) (eq1 : (q + 1) % mask.length = q1)
    (ev : xr (sub.getD (xr ((hashOf sub mask t).getD q 0) b).toNat 0) ((hashOf sub mask t).getD q1 0) = v) :
    Dg base ((w.drew.setCell ⟨g, q, none⟩ (.int .u8 v)).setCell ⟨d, 3, none⟩ (.int .i64 (q1 : Int))) d S M cS cM g c sub mask (t ++ [b]) := by
  have hn : q1 = (t.length + 1) % mask.length := by rw [← eq1, ← eq, Nat.mod_add_mod]
  have hT : Tch (fun k => k = d ∨ k = g) w ((w.drew.setCell ⟨g, q, none⟩ (.int .u8 v)).setCell ⟨d, 3, none⟩ (.int .i64 (q1 : Int))) :=
    ((((Tch.refl _ w).drew).setCell (fun _ => .inr rfl) _).setCell (fun _ => .inl rfl) _)
  have c0 := h.c0
  have c1 := h.c1
  have c2 := h.c2
  have c3 := h.c3
  have z2 := h.z2
  have z3 := h.z3
  have n1 : ¬ g = d := h.ne
  have n2 : ¬ d = g := fun e => h.ne e.symm
  have hst : hashOf sub mask (t ++ [b]) = (hashOf sub mask t).set q v := by
    rw [hashOf, mixN_snoc, Nat.zero_add, stepH, ← hn, eq]
    rw [← ev]; rfl
  refine { h with c0 := ?_, c1 := ?_, c2 := ?_, c3 := ?_, z2 := ?_, z3 := ?_, rs := hT.c8 h.rs h.oS, rm := hT.c8 h.rm h.oM, st := ?_, bt := bytes_snoc h.bt b0 b1 }
  · simp [go_sem, *]
  · simp [go_sem, *]
  · simp [go_sem, *]
  · rw [List.length_append, List.length_singleton, ← hn]; simp [go_sem, *]
  · simp [go_sem, *]
  · simp [go_sem, *]
  · rw [hst]
    have := (Kd.R_putg (Kd.R_drew h.st) (q : Int) v).1
    rw [Int.toNat_natCast] at this
    exact Tch.r8 (S := fun k => k = d) ((Tch.refl (fun k => k = d) _).setCell (p := ⟨d, 3, none⟩) (fun _ => rfl) _) this (fun k e => by simp [Value.ownBlock] at e; subst e; exact h.ne)
end

set_option maxHeartbeats 1600000 in
set_option maxRecDepth 100000 in
theorem write_calls {base : Nat} {w : World} {d : Nat} {S M : Option Addr} {cS cM g c : Nat} {sub mask t : List Int} {P : Option Addr} {cp : Nat} {l : List Int} (h : Dg base w d S M cS cM g c sub mask t)
    (hl : C8 w P l) (ho : Off (fun k => k = d ∨ k = g) P l) (hlB : Bytes l) {n : Nat} (hn : n = l.length) :
    Calls Try.prog 105 #[.pointer (some ⟨d, 0, none⟩), .slice P n cp] w fun e w' => e = .returned (.tuple #[.int .i64 (l.length : Int), .nilIface]) ∧ Dg base w' d S M cS cM g c sub mask (t ++ l) ∧ Tch (fun k => k = d ∨ k = g) w w' := by
  subst hn
  have hmax : l.length ≤ 9223372036854775807 := Kd.C_max hl
  have c2 := h.c2
  have HD := Aside0.mk h
  have HL := Aside0.mk hl
  have HO := Aside0.mk ho
  have HB := Aside0.mk hlB
  clear h hl ho hlB
  go_enter Try.func105, Try.ntmps105
  go_wp2_with fail
  clear c2
  go_loopw [16] (fun i wr => ∃ k : Nat, k ≤ l.length ∧ i = .int .i64 (k : Int) ∧ Aside0 (Dg base wr d S M cS cM g c sub mask (t ++ l.take k)) ∧ Aside0 (Tch (fun k => k = d ∨ k = g) w wr)) (fun i _ => l.length - (intOf i).toNat)
  case atStart => exact ⟨0, Nat.zero_le _, rfl, ⟨by simpa using HD.out⟩, ⟨Tch.refl _ _⟩⟩
  case round =>
    obtain ⟨k, hk, rfl, HR, HT⟩ := hrel
    by_cases hlt : k < l.length
    · have m1 := HR.out.m1
      have m2 := HR.out.m2
      have z1 : ((mask.length : Int) == 0) = false := beq_eq_false_iff_ne.2 (by omega)
      have zz2 : ¬ (mask.length : Int) = 0 := by omega
      have zz3 : ¬ mask = [] := by rintro rfl; simp at m1
      have zz4 : ¬ mask.length = 0 := by omega
      obtain ⟨q, eq⟩ : ∃ q, (t ++ l.take k).length % mask.length = q := ⟨_, rfl⟩
      have hq : q < mask.length := by rw [← eq]; exact Nat.mod_lt _ (by omega)
      obtain ⟨f1, _, f3⟩ := round_nums q mask.length (by omega) (by omega) (by omega)
      obtain ⟨q1, eq1⟩ : ∃ q1, (q + 1) % mask.length = q1 := ⟨_, rfl⟩
      have hq1 : q1 < mask.length := by rw [← eq1]; exact Nat.mod_lt _ (by omega)
      rw [eq1] at f3
      obtain ⟨s, es⟩ : ∃ s, hashOf sub mask (t ++ l.take k) = s := ⟨_, rfl⟩
      have hsl : s.length = mask.length := by rw [← es]; exact hashOf_length ..
      have hsB : Bytes s := by rw [← es]; exact mixN_bytes HR.out.bS HR.out.bt 0 HR.out.bM
      have hst := HR.out.st
      rw [es] at hst
      obtain ⟨x0, x1⟩ := Kd.R_cell (cap := c) (0 : Int) (h1 := fun _ => rfl) (enc := Value.int .u8) (xs := s) (by rw [hsl]; exact hst) (q : Int) (by omega) (by omega)
      obtain ⟨y0, y1⟩ := Kd.R_cell (cap := c) (0 : Int) (h1 := fun _ => rfl) (enc := Value.int .u8) (xs := s) (by rw [hsl]; exact hst) (q1 : Int) (by omega) (by omega)
      have rs : ∀ j : Nat, rdOf 0 s (j : Int) = s.getD j 0 := fun j => by unfold rdOf; rw [Int.toNat_natCast]
      rw [Int.toNat_natCast, rs] at x0 y0
      rw [Int.toNat_natCast] at x1 y1
      obtain ⟨ad, rfl, hx⟩ := Kd.at_int (HT.out.c8 HL.out HO.out) (k : Int) (by omega) (by omega)
      rw [Int.toNat_natCast, rdn] at hx
      have hb := HB.out k
      have hsq := hsB q
      have hsq1 := hsB q1
      obtain ⟨b, eb⟩ : ∃ b, l.getD k 0 = b := ⟨_, rfl⟩
      obtain ⟨sq, esq⟩ : ∃ sq, s.getD q 0 = sq := ⟨_, rfl⟩
      obtain ⟨sq1, esq1⟩ : ∃ sq1, s.getD q1 0 = sq1 := ⟨_, rfl⟩
      rw [eb] at hx hb
      rw [esq] at x0 hsq
      rw [esq1] at y0 hsq1
      have hxr := xr_range hsq.1 hsq.2 hb.1 hb.2
      have sl := HR.out.sl
      obtain ⟨sd, rfl, hz⟩ := Kd.at_int HR.out.rs (xr sq b) hxr.1 (by omega)
      obtain ⟨z, ez⟩ : ∃ z, rd sub (xr sq b) = z := ⟨_, rfl⟩
      rw [ez] at hz
      have hxs : xr sq b < (sub.length : Int) := by omega
      have c0 := HR.out.c0
      have c2 := HR.out.c2
      have c3 := HR.out.c3
      have zf := HR.out.z3
      rw [eq] at c3
      have gd : ¬ g = d := HR.out.ne
      have dg : ¬ d = g := fun e => HR.out.ne e.symm
      have EE := Aside0.mk (And.intro ez (And.intro eb (And.intro esq (And.intro esq1 (And.intro eq (And.intro eq1 es))))))
      clear rs hsl ez eb esq esq1 eq eq1 es hst hsB sl m1
      go_wp2
      go_still_tail 42, (by kernel_rfl)
      change wpList _ _ _ _ _ wr.drew
      go_wp2
      clear f1 f3
      go_roundw
      case rel =>
        obtain ⟨ez, eb, esq, esq1, eq, eq1, es⟩ := EE.out
        refine ⟨k + 1, hlt, by go_num, ⟨?_⟩, ⟨?_⟩⟩
        · have e1 : t ++ l.take (k + 1) = t ++ l.take k ++ [b] := by
            rw [List.take_succ_eq_append_getElem hlt, List.append_assoc]
            congr 2
            rw [← eb, List.getD_eq_getElem?_getD, List.getElem?_eq_getElem hlt, Option.getD_some]
          rw [e1]
          exact HR.out.one hb.1 hb.2 eq eq1 (by rw [es, esq, esq1]; exact congrArg (fun y => xr y sq1) ez)
        · exact ((HT.out.drew).setCell (fun _ => .inr rfl) _).setCell (fun _ => .inl rfl) _
      case measure => simp [intOf]; omega
    · go_wp2
      go_ret2
      obtain rfl : k = l.length := by omega
      rw [List.take_length] at HR
      exact ⟨rfl, HR.out, HT.out⟩
end Go.Proofs.Ytkehjcppgpoobaa.Mix
