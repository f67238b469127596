/- impl.S2kSimple, walked. -/
import Derived.Test.YtkehjcppgpoobaaHashSm
set_option linter.unusedVariables false
set_option linter.unusedSimpArgs false
namespace Go.Proofs.Ytkehjcppgpoobaa.Mix
open Go.RowKit Go.Proofs.YtkehjcppgpoobaaW.PrintWords Go.Proofs.YtkehjcppgpoobaaW.PrintMore Go.Proofs.Ytkehjcppgpoobaa.Kit

theorem Dg.lower {base base' : Nat} {w : World} {d : Nat} {S M : Option Addr} {cS cM g c : Nat} {sub mask t : List Int} (h : Dg base w d S M cS cM g c sub mask t) (hb : base' ≤ base) : Dg base' w d S M cS cM g c sub mask t :=
  { h with st := Kd.R_lower h.st hb, hd := Nat.le_trans hb h.hd }

/-- A new digest beside an area that was made before it. -/
theorem mid_new {w0 W w1 : World} {d : Nat} {S M : Option Addr} {cS cM : Nat} {sub mask x : List Int} {go size : Nat} (hX : DgX W.heap.size w1 d S M cS cM sub mask [] W.heap.size) (hS : ∀ ad, S = some ad → W.heap.size ≤ ad.block) (hM : ∀ ad, M = some ad → W.heap.size ≤ ad.block) (hB : Below W.heap.size W w1)
    (hO : R8 5 W w0.heap.size (.slice (some ⟨go, 0, none⟩) size size) (List.replicate size 0)) (hW : Below w0.heap.size w0 W) : ∃ g c, Mid w0 w1 d S M cS cM g c sub mask x go size 0 (.slice none 0 0) [] := by
  obtain ⟨g, c, h, hg⟩ := hX
  have hgo : go < W.heap.size := own_lt8 hO rfl
  have hd := h.hd
  exact ⟨g, c, h.lower hW.size, ⟨by omega, by omega, fun ad e hp k => by have := hS ad e; omega, fun ad e hp k => by have := hM ad e; omega⟩, fun k hk => by simp [Value.ownBlock] at hk, ⟨[], Kd.R_nil _ _ _ _ _, by simp⟩, by rw [outAt_zero]; exact Kd.R_below hO hB, below_then hW hW.size hB⟩

theorem simple_calls {w0 w : World} {d : Nat} {S M : Option Addr} {cS cM g c : Nat} {sub mask : List Int} {go size : Nat} {t0 : List Int} (I : Option Addr) (ci : Nat) (inl : List Int)
    (h : Mid w0 w d S M cS cM g c sub mask inl go size 0 (.slice none 0 0) t0) (hI : C8 w0 I inl) (hIB : Bytes inl) (hsz : size ≤ 65536) :
    Calls Try.prog 39 #[.slice (some ⟨go, 0, none⟩) size size, .iface 70 (.pointer (some ⟨d, 0, none⟩)), .slice I inl.length ci] w fun e w' => e = .returned (.tuple #[]) ∧ ∃ m, size ≤ m * mask.length ∧ R8 5 w' w0.heap.size (.slice (some ⟨go, 0, none⟩) size size) (outAt sub mask inl size m) ∧ Below w0.heap.size w0 w' := by
  have hn : C8 w0 none [] := (Kd.R_reads' (Kd.R_nil (Kd.int .u8) 0 w0 0 (fun _ => True))).2.2
  have H := Aside0.mk (salted_calls I ci inl none 0 [] (by simpa using h) hI hIB hn nil_bytes hsz)
  have H' : Aside0 (Calls Try.prog 60 #[.slice (some ⟨go, 0, none⟩) size size, .iface 70 (.pointer (some ⟨d, 0, none⟩)), .slice I inl.length ci, .slice none 0 0] w fun e w' => e = .returned (.tuple #[]) ∧ ∃ m, size ≤ m * mask.length ∧ R8 5 w' w0.heap.size (.slice (some ⟨go, 0, none⟩) size size) (outAt sub mask inl size m) ∧ Below w0.heap.size w0 w') := ⟨H.out⟩
  clear h hI hIB hn H
  go_enter Try.func39, Try.ntmps39
  go_wp2_with (go_at_call 60; (with_reducible refine H'.out.mono ?_); rintro e w1 ⟨rfl, hP⟩; have P := Aside0.mk hP; clear hP)
  go_end0
  exact ⟨rfl, P.out⟩

set_option maxHeartbeats 1600000 in
set_option maxRecDepth 100000 in
theorem is2k_calls (As : Option Addr) (cs : Nat) (sub : List Int) (Am : Option Addr) (cm : Nat) (mask : List Int) (A : Option Addr) (c : Nat) (x : List Int) (size : Nat) (w : World)
    (hs : C8 w As sub) (hsl : sub.length = 256) (hsB : Bytes sub) (hm : C8 w Am mask) (hm1 : 1 ≤ mask.length) (hm2 : mask.length ≤ 64) (hmB : Bytes mask) (hl : C8 w A x) (hlB : Bytes x) (hsz : size ≤ 65536) :
    Calls Try.prog 14 #[.agg #[.slice As sub.length cs, .slice Am mask.length cm], .int .i64 (size : Int), .slice A x.length c] w fun e w' => ∃ go m, size ≤ m * mask.length ∧ e = .returned (.tuple #[.slice (some ⟨go, 0, none⟩) size size, .bool true]) ∧ R8 5 w' w.heap.size (.slice (some ⟨go, 0, none⟩) size size) ((cat sub mask x m).take size) ∧ Below w.heap.size w w' := by
  have HS := Aside0.mk hs
  have HM := Aside0.mk hm
  have HL := Aside0.mk hl
  have HB := Aside0.mk (And.intro hsB (And.intro hmB hlB))
  have HN := Aside0.mk (And.intro hm1 (And.intro hm2 hsl))
  have d1 : decide ((65536 : Int) < (size : Int)) = false := decide_eq_false (by omega)
  have d1' : decide (65536 < size) = false := decide_eq_false (by omega)
  have hs0 : (0 : Int) ≤ (size : Int) := by omega
  have B0 := Aside0.mk (show Below w.heap.size w ((w.alloc (.cells #[.slice As sub.length cs, .slice Am mask.length cm] 24)).alloc (.cells #[.slice As sub.length cs, .slice Am mask.length cm] 24)) by go_grown)
  clear hs hm hl hsB hmB hlB hm1 hm2 hsl
  go_enter Try.func14, Try.ntmps14
  go_wp2_with (first | (go_at_call 38; (with_reducible refine (iright_yes _ _ _ _ _ _ HN.out.1 HN.out.2.1 _ HN.out.2.2).mono ?_); rintro e w' ⟨rfl, rfl⟩) | ((with_reducible refine gate_dst (N := 21) rfl ?_); refine make8 w.heap.size (w0 := w) rfl (N := 21) rfl 22 5 (.tmp 20) (.tmp 20) rfl size rfl rfl rfl Try.underlying22 infoB (by omega) B0.out (by simp; omega) ?_; intro go w1 _ _ _ hR hB1 hB2; have k0 := pw_cell_below hB2 (a := ⟨w.heap.size, 0, none⟩) (v := .slice As sub.length cs) (by simp [go_sem]); have k1 := pw_cell_below hB2 (a := ⟨w.heap.size, 1, none⟩) (v := .slice Am mask.length cm) (by simp [go_sem]); have R1 := Aside0.mk hR; have B1 := Aside0.mk hB1; clear hR hB1 hB2 B0) | (go_at_call 40; (with_reducible refine (make_calls As cs sub Am cm mask _ (Kd.C_below HS.out B1.out) HN.out.2.2 HB.out.1 (Kd.C_below HM.out B1.out) HN.out.1 HN.out.2.1 HB.out.2.1).mono ?_); rintro e w2 ⟨d, S, M, cS, cM, rfl, hX, hS, hM, hB⟩; obtain ⟨g, c2, hMid⟩ := mid_new (w0 := w) (x := x) (go := go) (size := size) hX hS hM hB R1.out B1.out; have D1 := Aside0.mk hMid; clear hX hS hM hB hMid) | (go_at_call 39; (with_reducible refine (simple_calls A c x D1.out HL.out HB.out.2.2 hsz).mono ?_); rintro e w3 ⟨rfl, m, h1, h2, h3⟩; have P := Aside0.mk (And.intro h1 (And.intro h2 h3)); clear h1 h2 h3))
  go_ret2
  obtain ⟨h1, h2, h3⟩ := P.out
  exact ⟨go, m, h1, rfl, by rw [← outAt_end sub mask x size m h1]; exact h2, h3⟩

theorem sspec_calls (As : Option Addr) (cs : Nat) (sub : List Int) (Am : Option Addr) (cm : Nat) (mask : List Int) (A : Option Addr) (c : Nat) (x : List Int) (size : Nat) (w : World)
    (hs : C8 w As sub) (hsl : sub.length = 256) (hsB : Bytes sub) (hm : C8 w Am mask) (hm1 : 1 ≤ mask.length) (hm2 : mask.length ≤ 64) (hmB : Bytes mask) (hl : C8 w A x) (hlB : Bytes x) (hx : x.length ≤ 100000000) (hsz : size ≤ 65536) :
    Calls Try.prog 16 #[.iface 73 (.agg #[.slice As sub.length cs, .slice Am mask.length cm]), .int .i64 (size : Int), .slice A x.length c] w fun e w' => ∃ B d m, size ≤ m * mask.length ∧ e = .returned (.slice B size d) ∧ C8 w' B ((cat sub mask x m).take size) ∧ Below w.heap.size w w' := by
  have H := Aside0.mk (stretched_calls As cs sub Am cm mask A c x size w hs hsl hsB hm hm1 hm2 hmB hl hlB hx hsz)
  clear hs hsl hsB hm hm1 hm2 hmB hl hlB hx hsz
  go_enter Try.func16, Try.ntmps16
  go_wp2_with (go_at_call 41; (with_reducible refine H.out.mono ?_); rintro e w1 ⟨B, d, m, h1, rfl, h2, h3⟩; have P := Aside0.mk (And.intro h1 (And.intro h2 h3)); clear h1 h2 h3)
  go_ret
  exact ⟨B, d, m, P.out.1, rfl, P.out.2.1, P.out.2.2⟩
end Go.Proofs.Ytkehjcppgpoobaa.Mix
