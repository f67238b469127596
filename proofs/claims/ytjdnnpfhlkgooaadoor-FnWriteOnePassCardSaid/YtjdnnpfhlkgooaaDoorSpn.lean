/- packet.spanReader over impl.source: its Read. -/
import Derived.Test.YtjdnnpfhlkgooaaDoorRlen
set_option linter.unusedVariables false
set_option linter.unusedSimpArgs false
namespace Go.Proofs.YtjdnnpfhlkgooaaDoor.Rd
open Go.RowKit Go.Proofs.YtjdnnpfhlkgooaaDoorW.PrintWords Go.Proofs.YtjdnnpfhlkgooaaDoorW.PrintMore Go.Proofs.YtjdnnpfhlkgooaaDoor.Kit

/-- A spanReader at block b: n bytes of the source at s are still to come. -/
structure Spn (w : World) (b s n : Nat) : Prop where
  c0 : w.cell? ⟨b, 0, none⟩ = some (.iface 88 (.pointer (some ⟨s, 0, none⟩)))
  c1 : w.cell? ⟨b, 1, none⟩ = some (.int .i64 (n : Int))
  z1 : w.frozen? ⟨b, 1, none⟩ = false
  ne : b ≠ s
section
variable {w w1 : World} {b s n : Nat} {T : Nat → Prop}
theorem Spn.lt (h : Spn w b s n) : b < w.heap.size := World.block_lt_of_cell? w _ h.c0
theorem Spn.kept (h : Spn w b s n) (hT : Tch T w w1) (hn : ¬ T b) : Spn w1 b s n :=
  { h with
    c0 := hT.cell h.c0 hn
    c1 := hT.cell h.c1 hn
    z1 := (hT.frozen h.lt hn).trans h.z1 }
theorem Spn.put (h : Spn w b s n) (k : Nat) : Spn (w.setCell ⟨b, 1, none⟩ (.int .i64 (k : Int))) b s k := by
  have c0 := h.c0
  have c1 := h.c1
  have z1 := h.z1
  exact ⟨by simp [go_sem, *], by simp [go_sem, *], by simp [go_sem, *], h.ne⟩
end

set_option maxRecDepth 100000 in
theorem spn_eof {w : World} {d s b : Nat} {aE aU : Addr} (hS : Spn w b s 0) (hE : Env w d aE aU) (B : Option Addr) (m mc : Nat) :
    Calls Tryd.prog 127 #[.pointer (some ⟨b, 0, none⟩), .slice B m mc] w fun en w' => en = .returned (.tuple #[.int .i64 0, .iface 209 (.pointer (some aE))]) ∧ Below w.heap.size w w' := by
  have c1 := hS.c1
  have e0 := hE.e
  clear hS hE
  go_enter Tryd.func127, Tryd.ntmps127
  go_wp2_with fail
  go_quiet (fail)
  go_wp2
  go_ret2
  exact ⟨rfl, pw_below_drewN (Below.refl _ _) _⟩
set_option maxHeartbeats 1600000 in
set_option maxRecDepth 100000 in
theorem spn_cut {w : World} {d s b n : Nat} {A : Option Addr} {c : Nat} {split : Int} {aE aU : Addr} (h : Src w d s A c [] split) (hS : Spn w b s n) (hE : Env w d aE aU) (B : Option Addr) {m mc : Nat} (hm : 1 ≤ m) (hmc : m ≤ mc) (hn : 1 ≤ n) (hn2 : n ≤ 4294967296) (db : d ≤ b) :
    Calls Tryd.prog 127 #[.pointer (some ⟨b, 0, none⟩), .slice B m mc] w fun en w' => en = .returned (.tuple #[.int .i64 0, .iface 209 (.pointer (some aU))]) ∧ (∃ A' c', Src w' d s A' c' [] split) ∧ Spn w' b s n ∧ Tch (fun j => j = b) w w' := by
  have g0 : ¬ b = 0 := by have := hE.ge; omega
  have g1 : ¬ b = 1 := by have := hE.gu; omega
  have g2 : ¬ 0 = b := by have := hE.ge; omega
  have g3 : ¬ 1 = b := by have := hE.gu; omega
  have c0 := hS.c0
  have c1 := hS.c1
  have H0 := Aside0.mk h
  have HS := Aside0.mk hS
  have HE := Aside0.mk hE
  clear h hS hE
  have n0 : 0 < n := hn
  by_cases q : n < m
  · go_enter Tryd.func127, Tryd.ntmps127
    go_wp2_with fail
    refine (read_end H0.out HE.out B (m := n) (by omega)).mono ?_
    rintro en w1 ⟨rfl, hB⟩
    have hE1 := HE.out.below hB
    have hS1 := HS.out.kept (Tch.of_below (S := fun _ => False) hB) id
    have e0 := hE1.e
    have u0 := hE1.u
    have ee := eql_same aE
    clear c0 c1
    have c0 := hS1.c0
    have c1 := hS1.c1
    have z1 := hS1.z1
    have H1 := Aside0.mk (And.intro hS1 hB)
    clear hS1 hB hE1
    go_wp2_with fail
    go_ret2
    have hT : Tch (fun j => j = b) w1 (w1.setCell ⟨b, 1, none⟩ (.int .i64 (n : Int))) := (Tch.refl (fun j => j = b) w1).setCell (p := ⟨b, 1, none⟩) (fun _ => rfl) _
    exact ⟨rfl, ⟨A, c, (H0.out.below H1.out.2).kept hT (fun j e => by subst e; exact ⟨db, H1.out.1.ne⟩)⟩, H1.out.1.put n, (Tch.of_below H1.out.2).trans hT⟩
  · go_enter Tryd.func127, Tryd.ntmps127
    go_wp2_with fail
    refine (read_end H0.out HE.out B (m := m) (by omega)).mono ?_
    rintro en w1 ⟨rfl, hB⟩
    have hE1 := HE.out.below hB
    have hS1 := HS.out.kept (Tch.of_below (S := fun _ => False) hB) id
    have e0 := hE1.e
    have u0 := hE1.u
    have ee := eql_same aE
    clear c0 c1
    have c0 := hS1.c0
    have c1 := hS1.c1
    have z1 := hS1.z1
    have H1 := Aside0.mk (And.intro hS1 hB)
    clear hS1 hB hE1
    go_wp2_with fail
    go_ret2
    have hT : Tch (fun j => j = b) w1 (w1.setCell ⟨b, 1, none⟩ (.int .i64 (n : Int))) := (Tch.refl (fun j => j = b) w1).setCell (p := ⟨b, 1, none⟩) (fun _ => rfl) _
    exact ⟨rfl, ⟨A, c, (H0.out.below H1.out.2).kept hT (fun j e => by subst e; exact ⟨db, H1.out.1.ne⟩)⟩, H1.out.1.put n, (Tch.of_below H1.out.2).trans hT⟩
set_option maxHeartbeats 1600000 in
set_option maxRecDepth 100000 in
theorem spn_more {w : World} {d s b n : Nat} {A : Option Addr} {c : Nat} {split : Int} {aE aU : Addr} {L : List Int} (h : Src w d s A c L split) (hS : Spn w b s n) (hE : Env w d aE aU) {e base g off N cap m mc : Nat} {xs : List Int} (hD : R8 e w base (.slice (some ⟨g, 0, none⟩) N cap) xs) (h1 : off + m ≤ N) (hm : 1 ≤ m) (hmc : m ≤ mc) (gs : g ≠ s) (gd : d ≤ g) (gb : g ≠ b) (hn : 1 ≤ n) (hn2 : n ≤ 4294967296) (db : d ≤ b) (hL : 0 < L.length) :
    Calls Tryd.prog 127 #[.pointer (some ⟨b, 0, none⟩), .slice (some ⟨g, off, none⟩) m mc] w fun en w' => ∃ k, 1 ≤ k ∧ k ≤ m ∧ k ≤ n ∧ k ≤ L.length ∧ en = .returned (.tuple #[.int .i64 (k : Int), .nilIface]) ∧ (∃ A' c', Src w' d s A' c' (L.drop k) split) ∧ Spn w' b s (n - k) ∧ R8 e w' base (.slice (some ⟨g, 0, none⟩) N cap) (xs.take off ++ (L.take k ++ xs.drop (off + k))) ∧ Tch (fun j => j = g ∨ j = s ∨ j = b) w w' := by
  have g0 : ¬ b = 0 := by have := hE.ge; omega
  have g1 : ¬ b = 1 := by have := hE.gu; omega
  have g2 : ¬ 0 = b := by have := hE.ge; omega
  have g3 : ¬ 1 = b := by have := hE.gu; omega
  have c0 := hS.c0
  have c1 := hS.c1
  have H0 := Aside0.mk h
  have HS := Aside0.mk hS
  have HE := Aside0.mk hE
  have HD := Aside0.mk hD
  have bs := hS.ne
  have ds := h.ds
  clear h hS hE hD
  have n0 : 0 < n := hn
  by_cases q : n < m
  · go_enter Tryd.func127, Tryd.ntmps127
    go_wp2_with fail
    refine (read_more H0.out HD.out (m := n) (by omega) (by omega) (by omega) gs gd hL).mono ?_
    rintro en w1 ⟨k, k1, k2, k3, rfl, hS1, hR1, hT1⟩
    have hE1 := HE.out.kept hT1 (fun j q => by rcases q with q | q <;> subst q <;> assumption)
    have hP1 := HS.out.kept hT1 (fun q => by rcases q with q | q <;> omega)
    have e0 := hE1.e
    have nl := fun W : World => run_eql_iface_nil_left (P := Tryd.prog) W 209 (.pointer (some aE)) Tryd.underlying85
    clear c0 c1
    have c0 := hP1.c0
    have c1 := hP1.c1
    have z1 := hP1.z1
    have kn : (k : Int) ≤ (n : Int) := by omega
    have H1 := Aside0.mk (And.intro hP1 (And.intro hS1 (And.intro hR1 hT1)))
    clear hP1 hE1 hS1 hR1 hT1
    go_wp2_with fail
    all_goals
      go_ret2
      obtain ⟨hP1, ⟨A', c', hS1⟩, hR1, hT1⟩ := H1.out
      have ek : ((n : Int) - (k : Int)) = ((n - k : Nat) : Int) := by omega
      have hT : Tch (fun j => j = b) w1 (w1.setCell ⟨b, 1, none⟩ (.int .i64 ((n : Int) - (k : Int)))) := (Tch.refl (fun j => j = b) w1).setCell (p := ⟨b, 1, none⟩) (fun _ => rfl) _
      exact ⟨k, k1, by omega, by omega, k3, rfl, ⟨A', c', hS1.kept hT (fun j e => by subst e; exact ⟨db, bs⟩)⟩, by rw [ek]; exact hP1.put (n - k), hT.r8 hR1 (fun j e q => by simp [Value.ownBlock] at e; omega), (hT1.mono (fun j q => by rcases q with q | q; exact .inl q; exact .inr (.inl q))).trans (hT.mono (fun j q => .inr (.inr q)))⟩
  · go_enter Tryd.func127, Tryd.ntmps127
    go_wp2_with fail
    refine (read_more H0.out HD.out (m := m) (by omega) (by omega) (by omega) gs gd hL).mono ?_
    rintro en w1 ⟨k, k1, k2, k3, rfl, hS1, hR1, hT1⟩
    have hE1 := HE.out.kept hT1 (fun j q => by rcases q with q | q <;> subst q <;> assumption)
    have hP1 := HS.out.kept hT1 (fun q => by rcases q with q | q <;> omega)
    have e0 := hE1.e
    have nl := fun W : World => run_eql_iface_nil_left (P := Tryd.prog) W 209 (.pointer (some aE)) Tryd.underlying85
    clear c0 c1
    have c0 := hP1.c0
    have c1 := hP1.c1
    have z1 := hP1.z1
    have kn : (k : Int) ≤ (n : Int) := by omega
    have H1 := Aside0.mk (And.intro hP1 (And.intro hS1 (And.intro hR1 hT1)))
    clear hP1 hE1 hS1 hR1 hT1
    go_wp2_with fail
    all_goals
      go_ret2
      obtain ⟨hP1, ⟨A', c', hS1⟩, hR1, hT1⟩ := H1.out
      have ek : ((n : Int) - (k : Int)) = ((n - k : Nat) : Int) := by omega
      have hT : Tch (fun j => j = b) w1 (w1.setCell ⟨b, 1, none⟩ (.int .i64 ((n : Int) - (k : Int)))) := (Tch.refl (fun j => j = b) w1).setCell (p := ⟨b, 1, none⟩) (fun _ => rfl) _
      exact ⟨k, k1, by omega, by omega, k3, rfl, ⟨A', c', hS1.kept hT (fun j e => by subst e; exact ⟨db, bs⟩)⟩, by rw [ek]; exact hP1.put (n - k), hT.r8 hR1 (fun j e q => by simp [Value.ownBlock] at e; omega), (hT1.mono (fun j q => by rcases q with q | q; exact .inl q; exact .inr (.inl q))).trans (hT.mono (fun j q => .inr (.inr q)))⟩
set_option maxHeartbeats 1600000 in
set_option maxRecDepth 100000 in
/-- An empty buffer. -/
theorem src_zero {w : World} {s : Nat} (B : Option Addr) (mc : Nat) :
    Calls Tryd.prog 113 #[.pointer (some ⟨s, 0, none⟩), .slice B 0 mc] w fun en w' => en = .returned (.tuple #[.int .i64 0, .nilIface]) ∧ w' = w := by
  go_enter Tryd.func113, Tryd.ntmps113
  go_wp2_with fail
  go_ret2
  exact ⟨rfl, rfl⟩
set_option maxHeartbeats 1600000 in
set_option maxRecDepth 100000 in
theorem spn_zero {w : World} {d s b n : Nat} {A : Option Addr} {c : Nat} {split : Int} {aE aU : Addr} (hS : Spn w b s n) (hE : Env w d aE aU) (B : Option Addr) (mc : Nat) (hn : 1 ≤ n) (hn2 : n ≤ 4294967296) (db : d ≤ b) :
    Calls Tryd.prog 127 #[.pointer (some ⟨b, 0, none⟩), .slice B 0 mc] w fun en w' => en = .returned (.tuple #[.int .i64 0, .nilIface]) ∧ Spn w' b s n ∧ Tch (fun j => j = b) w w' := by
  have g0 : ¬ b = 0 := by have := hE.ge; omega
  have g1 : ¬ b = 1 := by have := hE.gu; omega
  have g2 : ¬ 0 = b := by have := hE.ge; omega
  have g3 : ¬ 1 = b := by have := hE.gu; omega
  have c0 := hS.c0
  have c1 := hS.c1
  have z1 := hS.z1
  have e0 := hE.e
  have nl := run_eql_iface_nil_left (P := Tryd.prog) (w.setCell ⟨b, 1, none⟩ (.int .i64 (n : Int))) 209 (.pointer (some aE)) Tryd.underlying85
  have HS := Aside0.mk hS
  clear hS hE
  have n0 : 0 < n := hn
  go_enter Tryd.func127, Tryd.ntmps127
  go_wp2_with fail
  refine (src_zero B mc).mono ?_
  rintro en w1 ⟨rfl, rfl⟩
  go_wp2_with fail
  go_ret2
  exact ⟨rfl, HS.out.put n, (Tch.refl (fun j => j = b) w1).setCell (p := ⟨b, 1, none⟩) (fun _ => rfl) _⟩
end Go.Proofs.YtjdnnpfhlkgooaaDoor.Rd
