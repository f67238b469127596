/- impl.source: what the world keeps of it; its Read. -/
import Derived.Test.YtjdnnpfhlkgooaaDoorCopy
import Derived.Test.YtjdnnpfhlkgooaaDoorCut
import Derived.Test.YtjdnnpfhlkgooaaDoorOct0
import Derived.LaidEql
set_option linter.unusedVariables false
set_option linter.unusedSimpArgs false
namespace Go.Proofs.YtjdnnpfhlkgooaaDoor.Rd
open Go.RowKit Go.Proofs.YtjdnnpfhlkgooaaDoorW.PrintWords Go.Proofs.YtjdnnpfhlkgooaaDoorW.PrintMore Go.Proofs.YtjdnnpfhlkgooaaDoor.Kit

/-- The two errors of package io that tell an end; all below block d. -/
structure Env (w : World) (d : Nat) (aE aU : Addr) : Prop where
  e : w.cell? ⟨0, 0, none⟩ = some (.iface 209 (.pointer (some aE)))
  u : w.cell? ⟨1, 0, none⟩ = some (.iface 209 (.pointer (some aU)))
  ne : aE ≠ aU
  he : ∃ ca ta, w.heap[aE.block]? = some (.cells ca ta (0, 0))
  hu : ∃ ca ta, w.heap[aU.block]? = some (.cells ca ta (0, 0))
  de : aE.block < d
  du : aU.block < d
  ge : 0 < d
  gu : 1 < d
/-- A source at block s that has l left, its bytes below block d. -/
structure Src (w : World) (d s : Nat) (A : Option Addr) (c : Nat) (l : List Int) (split : Int) : Prop where
  c0 : w.cell? ⟨s, 0, none⟩ = some (.slice A l.length c)
  c1 : w.cell? ⟨s, 1, none⟩ = some (.int .i64 split)
  z0 : w.frozen? ⟨s, 0, none⟩ = false
  rd : C8 w A l
  hc : l.length ≤ c
  lo : ∀ ad, A = some ad → 0 < l.length → ad.block < d
  ds : d ≤ s
  by_ : Bytes l
section
variable {w w1 : World} {d s : Nat} {A : Option Addr} {c : Nat} {l : List Int} {split : Int} {aE aU : Addr} {T : Nat → Prop}
theorem Env.kept (h : Env w d aE aU) (hT : Tch T w w1) (hd : ∀ k, T k → d ≤ k) : Env w1 d aE aU := by
  have nt : ∀ k, k < d → ¬ T k := fun k hk t => by have := hd k t; omega
  obtain ⟨ca, ta, h1⟩ := h.he
  obtain ⟨cb, tb, h2⟩ := h.hu
  exact { h with
    e := hT.cell h.e (nt _ h.ge)
    u := hT.cell h.u (nt _ h.gu)
    he := ⟨ca, ta, (hT.block _ (blk_lt h1) (nt _ h.de)).trans h1⟩
    hu := ⟨cb, tb, (hT.block _ (blk_lt h2) (nt _ h.du)).trans h2⟩ }
theorem Env.below (h : Env w d aE aU) (hB : Below w.heap.size w w1) : Env w1 d aE aU := h.kept (Tch.of_below (S := fun _ => False) hB) (fun _ f => f.elim)
theorem Src.kept (h : Src w d s A c l split) (hT : Tch T w w1) (hd : ∀ k, T k → d ≤ k ∧ k ≠ s) : Src w1 d s A c l split :=
  have ns : ¬ T s := fun t => (hd s t).2 rfl
  { h with
    c0 := hT.cell h.c0 ns
    c1 := hT.cell h.c1 ns
    z0 := (hT.frozen (World.block_lt_of_cell? w _ h.c0) ns).trans h.z0
    rd := hT.c8 h.rd (fun ad e hp t => by have := h.lo ad e hp; have := (hd _ t).1; omega) }
theorem Src.below (h : Src w d s A c l split) (hB : Below w.heap.size w w1) : Src w1 d s A c l split := h.kept (Tch.of_below (S := fun _ => False) hB) (fun _ f => f.elim)
theorem Src.lt (h : Src w d s A c l split) : s < w.heap.size := World.block_lt_of_cell? w _ h.c0
/-- s.data = s.data[k:]. -/
theorem Src.cut (h : Src w d s A c l split) {k : Nat} (hk : k ≤ l.length) {A' : Option Addr} (hr : C8 w A' (l.drop k)) (hs : Same A' A) : Src (w.setCell ⟨s, 0, none⟩ (.slice A' (l.length - k) (c - k))) d s A' (c - k) (l.drop k) split := by
  have c0 := h.c0
  have c1 := h.c1
  have z0 := h.z0
  have hT : Tch (fun j => j = s) w (w.setCell ⟨s, 0, none⟩ (.slice A' (l.length - k) (c - k))) := (Tch.refl (fun j => j = s) w).setCell (p := ⟨s, 0, none⟩) (fun _ => rfl) _
  have lo : ∀ ad, A' = some ad → 0 < (l.drop k).length → ad.block < d := fun ad e hp => by
    obtain ⟨ad0, e0, e1⟩ := hs ad e
    rw [e1]
    rw [List.length_drop] at hp
    exact h.lo ad0 e0 (by omega)
  exact {
    c0 := by rw [List.length_drop]; simp [go_sem, *]
    c1 := by simp [go_sem, *]
    z0 := by simp [go_sem, *]
    rd := hT.c8 hr (fun ad e hp t => by have := lo ad e hp; have := h.ds; omega)
    hc := by rw [List.length_drop]; have := h.hc; omega
    lo := lo
    ds := h.ds
    by_ := bytesC_drop h.by_ k }
end

set_option maxHeartbeats 1600000 in
set_option maxRecDepth 100000 in
theorem read_end {w : World} {d s : Nat} {A : Option Addr} {c : Nat} {split : Int} {aE aU : Addr} (h : Src w d s A c [] split) (hE : Env w d aE aU) (B : Option Addr) {m mc : Nat} (hm : 1 ≤ m) :
    Calls Tryd.prog 113 #[.pointer (some ⟨s, 0, none⟩), .slice B m mc] w fun e w' => e = .returned (.tuple #[.int .i64 0, .iface 209 (.pointer (some aE))]) ∧ Below w.heap.size w w' := by
  have c0 := h.c0
  have e0 := hE.e
  have m0 : ((m : Int) == 0) = false := beq_eq_false_iff_ne.2 (by omega)
  have m1 : ¬ m = 0 := by omega
  clear h hE
  go_enter Tryd.func113, Tryd.ntmps113
  go_wp2_with fail
  go_quiet (fail)
  go_wp2
  go_ret2
  exact ⟨rfl, pw_below_drewN (Below.refl _ _) _⟩

set_option maxHeartbeats 1600000 in
set_option maxRecDepth 100000 in
theorem read_all {w : World} {d s : Nat} {A : Option Addr} {c : Nat} {l : List Int} {split : Int} (h : Src w d s A c l split) {e base g off N cap m mc : Nat} {xs : List Int} (hD : R8 e w base (.slice (some ⟨g, 0, none⟩) N cap) xs) (h1 : off + m ≤ N) (hm : 1 ≤ m) (hmc : m ≤ mc) (gs : g ≠ s) (gd : d ≤ g) (hl : 0 < l.length) (hq : split ≤ 0 ∨ (m : Int) ≤ split) :
    Calls Tryd.prog 113 #[.pointer (some ⟨s, 0, none⟩), .slice (some ⟨g, off, none⟩) m mc] w fun en w' => ∃ k, 1 ≤ k ∧ k ≤ m ∧ k ≤ l.length ∧ en = .returned (.tuple #[.int .i64 (k : Int), .nilIface]) ∧ (∃ A' c', Src w' d s A' c' (l.drop k) split) ∧ R8 e w' base (.slice (some ⟨g, 0, none⟩) N cap) (xs.take off ++ (l.take k ++ xs.drop (off + k))) ∧ Tch (fun j => j = g ∨ j = s) w w' := by
  have hmax := Kd.C_max h.rd
  obtain ⟨k, ek⟩ : ∃ k, min l.length m = k := ⟨_, rfl⟩
  have k1 : 1 ≤ k := by omega
  have k2 : k ≤ m := by omega
  have k3 : k ≤ l.length := by omega
  obtain ⟨A', d1, d2, d3⟩ := drop8 (P := Tryd.prog) (t := 22) (e := 5) Tryd.underlying22 infoB A c l k k3 h.hc rfl
  have m0 : ((m : Int) == 0) = false := beq_eq_false_iff_ne.2 (by omega)
  have m1 : ¬ m = 0 := by omega
  have l0 : ((l.length : Int) == 0) = false := beq_eq_false_iff_ne.2 (by omega)
  have l1 : ¬ l = [] := by intro e; rw [e] at hl; simp at hl
  have c0 := h.c0
  have c1 := h.c1
  have hq1 : (decide (0 < split) && decide (split < (m : Int))) = false := by
    rcases hq with hq | hq
    · rw [decide_eq_false (show ¬ 0 < split by omega)]; rfl
    · rw [decide_eq_false (show ¬ split < (m : Int) by omega), Bool.and_false]
  have HH := Aside0.mk h
  have HD := Aside0.mk hD
  have D2 := Aside0.mk (And.intro d2 d3)
  have EK := Aside0.mk ek
  have zlt := Kd.R_base hD g rfl
  have zlt2 := Kd.R_lt hD g rfl
  clear h hD d2 d3 ek hq
  go_enter Tryd.func113, Tryd.ntmps113
  by_cases q1 : 0 < split
  · have q2 : ¬ split < (m : Int) := by
      intro q; rw [decide_eq_true q1, decide_eq_true q] at hq1; cases hq1
    clear hq1
    go_wp2_with ((with_reducible refine gate_dst (N := 42) rfl ?_); refine copyX base (w0 := w) rfl (.tmp 37) (.tmp 41) 22 22 5 e rfl Tryd.underlying22 infoB g N cap off m mc xs l A (some ⟨g, off, none⟩) c rfl (fun _ => rfl) rfl rfl HD.out HH.out.rd (by omega) (Below.refl _ _) (by omega) ?_; intro w2 hR hB hG; rw [EK.out] at hR ⊢; have hT : Tch (fun j => j = g) w w2 := (Tch.of_grown hG).mono (fun j q => by injection q with q; exact q.symm); have H2 := Aside0.mk (HH.out.kept hT (fun j q => ⟨by subst q; exact gd, by subst q; exact gs⟩)); have R2 := Aside0.mk hR; have T2 := Aside0.mk hT; clear hR hB hG hT; have c0 := H2.out.c0; have z0 := H2.out.z0)
    go_ret2
    have H3 := H2.out.cut k3 (D2.out.1 _ H2.out.rd) D2.out.2
    have T3 : Tch (fun j => j = g ∨ j = s) w (w2.setCell ⟨s, 0, none⟩ (.slice A' (l.length - k) (c - k))) := (T2.out.mono (fun j q => .inl q)).setCell (p := ⟨s, 0, none⟩) (fun _ => .inr rfl) _
    have R3 := ((Tch.refl (fun j => j = s) w2).setCell (p := ⟨s, 0, none⟩) (fun _ => rfl) (.slice A' (l.length - k) (c - k))).r8 R2.out (fun j q => by simp [Value.ownBlock] at q; subst q; exact gs)
    exact ⟨k, k1, k2, k3, rfl, ⟨_, _, H3⟩, R3, T3⟩
  · clear hq1
    go_wp2_with ((with_reducible refine gate_dst (N := 42) rfl ?_); refine copyX base (w0 := w) rfl (.tmp 37) (.tmp 41) 22 22 5 e rfl Tryd.underlying22 infoB g N cap off m mc xs l A (some ⟨g, off, none⟩) c rfl (fun _ => rfl) rfl rfl HD.out HH.out.rd (by omega) (Below.refl _ _) (by omega) ?_; intro w2 hR hB hG; rw [EK.out] at hR ⊢; have hT : Tch (fun j => j = g) w w2 := (Tch.of_grown hG).mono (fun j q => by injection q with q; exact q.symm); have H2 := Aside0.mk (HH.out.kept hT (fun j q => ⟨by subst q; exact gd, by subst q; exact gs⟩)); have R2 := Aside0.mk hR; have T2 := Aside0.mk hT; clear hR hB hG hT; have c0 := H2.out.c0; have z0 := H2.out.z0)
    go_ret2
    have H3 := H2.out.cut k3 (D2.out.1 _ H2.out.rd) D2.out.2
    have T3 : Tch (fun j => j = g ∨ j = s) w (w2.setCell ⟨s, 0, none⟩ (.slice A' (l.length - k) (c - k))) := (T2.out.mono (fun j q => .inl q)).setCell (p := ⟨s, 0, none⟩) (fun _ => .inr rfl) _
    have R3 := ((Tch.refl (fun j => j = s) w2).setCell (p := ⟨s, 0, none⟩) (fun _ => rfl) (.slice A' (l.length - k) (c - k))).r8 R2.out (fun j q => by simp [Value.ownBlock] at q; subst q; exact gs)
    exact ⟨k, k1, k2, k3, rfl, ⟨_, _, H3⟩, R3, T3⟩

set_option maxHeartbeats 1600000 in
set_option maxRecDepth 100000 in
theorem read_some {w : World} {d s : Nat} {A : Option Addr} {c : Nat} {l : List Int} {split : Int} (h : Src w d s A c l split) {e base g off N cap m mc : Nat} {xs : List Int} (hD : R8 e w base (.slice (some ⟨g, 0, none⟩) N cap) xs) (h1 : off + m ≤ N) (hm : 1 ≤ m) (hmc : m ≤ mc) (gs : g ≠ s) (gd : d ≤ g) (hl : 0 < l.length) (q : Nat) (hsq : split = (q : Int)) (hq0 : 0 < q) (hqm : q < m) :
    Calls Tryd.prog 113 #[.pointer (some ⟨s, 0, none⟩), .slice (some ⟨g, off, none⟩) m mc] w fun en w' => ∃ k, 1 ≤ k ∧ k ≤ m ∧ k ≤ l.length ∧ en = .returned (.tuple #[.int .i64 (k : Int), .nilIface]) ∧ (∃ A' c', Src w' d s A' c' (l.drop k) split) ∧ R8 e w' base (.slice (some ⟨g, 0, none⟩) N cap) (xs.take off ++ (l.take k ++ xs.drop (off + k))) ∧ Tch (fun j => j = g ∨ j = s) w w' := by
  subst hsq
  have hmax := Kd.C_max h.rd
  obtain ⟨k, ek⟩ : ∃ k, min l.length q = k := ⟨_, rfl⟩
  have k1 : 1 ≤ k := by omega
  have k2 : k ≤ m := by omega
  have k3 : k ≤ l.length := by omega
  obtain ⟨A', d1, d2, d3⟩ := drop8 (P := Tryd.prog) (t := 22) (e := 5) Tryd.underlying22 infoB A c l k k3 h.hc rfl
  have m0 : ((m : Int) == 0) = false := beq_eq_false_iff_ne.2 (by omega)
  have m1 : ¬ m = 0 := by omega
  have l0 : ((l.length : Int) == 0) = false := beq_eq_false_iff_ne.2 (by omega)
  have l1 : ¬ l = [] := by intro e; rw [e] at hl; simp at hl
  have c0 := h.c0
  have c1 := h.c1
  obtain ⟨t1, _⟩ := take8 (P := Tryd.prog) (t := 22) (e := 5) Tryd.underlying22 infoB (some ⟨g, off, none⟩) mc (List.replicate m 0) q (by rw [List.length_replicate]; omega) (by rw [List.length_replicate]; exact hmc) (n := m) List.length_replicate.symm
  have q1 : decide (0 < (q : Int)) = true := decide_eq_true (by omega)
  have q1' : decide (0 < q) = true := decide_eq_true (by omega)
  have q2 : decide ((q : Int) < (m : Int)) = true := decide_eq_true (by omega)
  have q2' : decide (q < m) = true := decide_eq_true (by omega)
  have HH := Aside0.mk h
  have HD := Aside0.mk hD
  have D2 := Aside0.mk (And.intro d2 d3)
  have EK := Aside0.mk ek
  have zlt := Kd.R_base hD g rfl
  have zlt2 := Kd.R_lt hD g rfl
  clear h hD d2 d3 ek 
  go_enter Tryd.func113, Tryd.ntmps113
  go_wp2_with ((with_reducible refine gate_dst (N := 42) rfl ?_); refine copyX base (w0 := w) rfl (.tmp 37) (.tmp 41) 22 22 5 e rfl Tryd.underlying22 infoB g N cap off q mc xs l A (some ⟨g, off, none⟩) c rfl (fun _ => rfl) rfl rfl HD.out HH.out.rd (by omega) (Below.refl _ _) (by omega) ?_; intro w2 hR hB hG; rw [EK.out] at hR ⊢; have hT : Tch (fun j => j = g) w w2 := (Tch.of_grown hG).mono (fun j q => by injection q with q; exact q.symm); have H2 := Aside0.mk (HH.out.kept hT (fun j q => ⟨by subst q; exact gd, by subst q; exact gs⟩)); have R2 := Aside0.mk hR; have T2 := Aside0.mk hT; clear hR hB hG hT; have c0 := H2.out.c0; have z0 := H2.out.z0)
  go_ret2
  have H3 := H2.out.cut k3 (D2.out.1 _ H2.out.rd) D2.out.2
  have T3 : Tch (fun j => j = g ∨ j = s) w (w2.setCell ⟨s, 0, none⟩ (.slice A' (l.length - k) (c - k))) := (T2.out.mono (fun j q => .inl q)).setCell (p := ⟨s, 0, none⟩) (fun _ => .inr rfl) _
  have R3 := ((Tch.refl (fun j => j = s) w2).setCell (p := ⟨s, 0, none⟩) (fun _ => rfl) (.slice A' (l.length - k) (c - k))).r8 R2.out (fun j q => by simp [Value.ownBlock] at q; subst q; exact gs)
  exact ⟨k, k1, k2, k3, rfl, ⟨_, _, H3⟩, R3, T3⟩

theorem read_more {w : World} {d s : Nat} {A : Option Addr} {c : Nat} {l : List Int} {split : Int} (h : Src w d s A c l split) {e base g off N cap m mc : Nat} {xs : List Int} (hD : R8 e w base (.slice (some ⟨g, 0, none⟩) N cap) xs) (h1 : off + m ≤ N) (hm : 1 ≤ m) (hmc : m ≤ mc) (gs : g ≠ s) (gd : d ≤ g) (hl : 0 < l.length) :
    Calls Tryd.prog 113 #[.pointer (some ⟨s, 0, none⟩), .slice (some ⟨g, off, none⟩) m mc] w fun en w' => ∃ k, 1 ≤ k ∧ k ≤ m ∧ k ≤ l.length ∧ en = .returned (.tuple #[.int .i64 (k : Int), .nilIface]) ∧ (∃ A' c', Src w' d s A' c' (l.drop k) split) ∧ R8 e w' base (.slice (some ⟨g, 0, none⟩) N cap) (xs.take off ++ (l.take k ++ xs.drop (off + k))) ∧ Tch (fun j => j = g ∨ j = s) w w' := by
  by_cases hq : split ≤ 0 ∨ (m : Int) ≤ split
  · exact read_all h hD h1 hm hmc gs gd hl hq
  · obtain ⟨q, rfl⟩ : ∃ q : Nat, split = q := ⟨split.toNat, by omega⟩
    exact read_some h hD h1 hm hmc gs gd hl q rfl (by omega) (by omega)
end Go.Proofs.YtjdnnpfhlkgooaaDoor.Rd
