/- The verifier of sequences: its stack, and what Next does, case by case. -/
import Derived.Test.YtchihobchpipfaaProg
import Derived.Test.YtchihobchpipfaaKit
import Derived.Test.YtchihobchpipfaaOct0
import Derived.Deep.RegionLaw
import Derived.Handy
set_option linter.unusedVariables false
set_option linter.unusedSimpArgs false
namespace Go.Proofs.Ytchihobchpipfaa.Seq
open Go.RowKit Go.Proofs.YtchihobchpipfaaW.PrintWords Go.Proofs.YtchihobchpipfaaW.PrintLast Go.Proofs.YtchihobchpipfaaW.PrintMore Go.Proofs.Ytchihobchpipfaa.Kit

/-- The verifier at b, its stack at g: n symbols of 3 and x; the state st. -/
structure Rep (w : World) (b g n : Nat) (x st : Int) : Prop where
  s0 : w.cell? ⟨b, 0, none⟩ = some (.slice (some ⟨g, 0, none⟩) n 2)
  s1 : w.cell? ⟨b, 1, none⟩ = some (.int .i8 st)
  g0 : w.cell? ⟨g, 0, none⟩ = some (.int .i8 3)
  g1 : w.cell? ⟨g, 1, none⟩ = some (.int .i8 x)
  fb0 : w.frozen? ⟨b, 0, none⟩ = false
  fb1 : w.frozen? ⟨b, 1, none⟩ = false
  fg0 : w.frozen? ⟨g, 0, none⟩ = false
  fg1 : w.frozen? ⟨g, 1, none⟩ = false

/-- So it is, and below base nothing is otherwise than in w0. -/
structure Ok (w0 : World) (base : Nat) (w : World) (b g n : Nat) (x st : Int) : Prop where
  rep : Rep w b g n x st
  bel : Below base w0 w
  bw : base ≤ w.heap.size
  hb : base ≤ b
  hg : base ≤ g
  ne : b ≠ g

theorem Ok.lts {w0 w : World} {base b g n : Nat} {x st : Int} (h : Ok w0 base w b g n x st) : b < w.heap.size ∧ g < w.heap.size := by
  have lb := World.block_lt_of_cell? w _ h.rep.s0
  have lg := World.block_lt_of_cell? w _ h.rep.g0
  exact ⟨lb, lg⟩
theorem Ok.alloc {w0 w : World} {base b g n : Nat} {x st : Int} (h : Ok w0 base w b g n x st) (o : Obj) : Ok w0 base (w.alloc o) b g n x st := by
  obtain ⟨⟨s0, s1, g0, g1, fb0, fb1, fg0, fg1⟩, h1, h2, h3, h4, h5⟩ := h
  have lb := World.block_lt_of_cell? w _ s0
  have lg := World.block_lt_of_cell? w _ g0
  simp only at lb lg
  exact ⟨by constructor <;> simp [go_sem, *], h1.alloc h2 _, by simp; omega, h3, h4, h5⟩
theorem Ok.setState {w0 w : World} {base b g n : Nat} {x st : Int} (h : Ok w0 base w b g n x st) (st' : Int) : Ok w0 base (w.setCell ⟨b, 1, none⟩ (.int .i8 st')) b g n x st' := by
  obtain ⟨⟨s0, s1, g0, g1, fb0, fb1, fg0, fg1⟩, h1, h2, h3, h4, h5⟩ := h
  have hgb : ¬ g = b := fun e => h5 e.symm
  exact ⟨by constructor <;> simp [go_sem, *], h1.setCell h3 _, by simp; omega, h3, h4, h5⟩

/-- It ended with v, and so it is. -/
def To (v : Value) (w0 : World) (base b g n : Nat) (x st : Int) (e : Ending) (w' : World) : Prop := e = .returned v ∧ Ok w0 base w' b g n x st
/-- What lay elsewhere is as it was. -/
def Kept (w w' : World) (b g : Nat) : Prop := ∀ c i, c ≠ b → c ≠ g → c < w.heap.size → w'.cell? ⟨c, i, none⟩ = w.cell? ⟨c, i, none⟩
def ToK (v : Value) (w w0 : World) (base b g n : Nat) (x st : Int) (e : Ending) (w' : World) : Prop := e = .returned v ∧ Ok w0 base w' b g n x st ∧ Kept w w' b g
/-- Next ends with an error. -/
def Fell (w0 : World) (base b g : Nat) (st : Int) (e : Ending) (w' : World) : Prop := (∃ t v, e = .returned (.iface t v)) ∧ ∃ n x, Ok w0 base w' b g n x st
set_option maxHeartbeats 1600000 in
set_option maxRecDepth 100000 in
theorem pop2 {w0 w : World} {base b g : Nat} {x st : Int} (h : Ok w0 base w b g 2 x st) :
    Calls Try.prog 49 #[.pointer (some ⟨b, 0, none⟩)] w (To (.int .i8 x) w0 base b g 1 x st) := by
  obtain ⟨⟨s0, s1, g0, g1, fb0, fb1, fg0, fg1⟩, h1, h2, h3, h4, h5⟩ := h
  have hgb : ¬ g = b := fun e => h5 e.symm
  have H := Aside0.mk (And.intro h1 h2)
  clear h1 h2
  go_enter Try.func49, Try.ntmps49
  go_wp2
  go_ret
  exact ⟨rfl, by constructor <;> simp [go_sem, *], H.out.1.setCell h3 _, by have := H.out.2; simp; omega, h3, h4, h5⟩
set_option maxHeartbeats 1600000 in
set_option maxRecDepth 100000 in
theorem pop1 {w0 w : World} {base b g : Nat} {x st : Int} (h : Ok w0 base w b g 1 x st) :
    Calls Try.prog 49 #[.pointer (some ⟨b, 0, none⟩)] w (To (.int .i8 3) w0 base b g 0 x st) := by
  obtain ⟨⟨s0, s1, g0, g1, fb0, fb1, fg0, fg1⟩, h1, h2, h3, h4, h5⟩ := h
  have hgb : ¬ g = b := fun e => h5 e.symm
  have H := Aside0.mk (And.intro h1 h2)
  clear h1 h2
  go_enter Try.func49, Try.ntmps49
  go_wp2
  go_ret
  exact ⟨rfl, by constructor <;> simp [go_sem, *], H.out.1.setCell h3 _, by have := H.out.2; simp; omega, h3, h4, h5⟩
set_option maxHeartbeats 1600000 in
set_option maxRecDepth 100000 in
theorem push1 {w0 w : World} {base b g : Nat} {x st : Int} (y : Int) (h : Ok w0 base w b g 1 x st) :
    Calls Try.prog 51 #[.pointer (some ⟨b, 0, none⟩), .int .i8 y] w (ToK (.tuple #[]) w w0 base b g 2 y st) := by
  obtain ⟨⟨s0, s1, g0, g1, fb0, fb1, fg0, fg1⟩, h1, h2, h3, h4, h5⟩ := h
  have hgb : ¬ g = b := fun e => h5 e.symm
  have lb := World.block_lt_of_cell? w _ s0
  have lg := World.block_lt_of_cell? w _ g0
  simp only at lb lg
  have H := Aside0.mk (And.intro h1 h2)
  clear h1 h2
  go_enter Try.func51, Try.ntmps51
  go_wp2
  go_end0
  have H1 := H.out.1
  have H2 := H.out.2
  exact ⟨rfl, ⟨by constructor <;> simp [go_sem, *], by go_grown, by simp; omega, h3, h4, h5⟩, fun c i q1 q2 q3 => by
    have q1' : ¬ b = c := fun e => q1 e.symm
    have q2' : ¬ g = c := fun e => q2 e.symm
    simp [go_sem, *]⟩
set_option maxHeartbeats 1600000 in
set_option maxRecDepth 100000 in
theorem push0 {w0 w : World} {base b g : Nat} {x st : Int} (h : Ok w0 base w b g 0 x st) :
    Calls Try.prog 51 #[.pointer (some ⟨b, 0, none⟩), .int .i8 3] w (ToK (.tuple #[]) w w0 base b g 1 x st) := by
  obtain ⟨⟨s0, s1, g0, g1, fb0, fb1, fg0, fg1⟩, h1, h2, h3, h4, h5⟩ := h
  have hgb : ¬ g = b := fun e => h5 e.symm
  have lb := World.block_lt_of_cell? w _ s0
  have lg := World.block_lt_of_cell? w _ g0
  simp only at lb lg
  have H := Aside0.mk (And.intro h1 h2)
  clear h1 h2
  go_enter Try.func51, Try.ntmps51
  go_wp2
  go_end0
  have H1 := H.out.1
  have H2 := H.out.2
  exact ⟨rfl, ⟨by constructor <;> simp [go_sem, *], by go_grown, by simp; omega, h3, h4, h5⟩, fun c i q1 q2 q3 => by
    have q1' : ¬ b = c := fun e => q1 e.symm
    have q2' : ¬ g = c := fun e => q2 e.symm
    simp [go_sem, *]⟩
set_option maxHeartbeats 1600000 in
set_option maxRecDepth 100000 in
theorem next_msg_esk {w0 w : World} {base b g : Nat} (h : Ok w0 base w b g 2 0 0) :
    Calls Try.prog 35 #[.pointer (some ⟨b, 0, none⟩), .int .u8 4] w (To .nilIface w0 base b g 2 2 1) := by
  have H0 := Aside0.mk h
  clear h
  go_enter Try.func35, Try.ntmps35
  go_wp2_with fail
  refine wp_loop_rounds 1 ?_
  rw [rounds_succ]
  go_wp2_with (first | (go_at_call 49; (with_reducible refine (pop2 H0.out).mono ?_); rintro e w1 ⟨rfl, hO⟩; have s1 := hO.rep.s1; have fb1 := hO.rep.fb1; have L1 := Aside0.mk hO.lts; have H1 := Aside0.mk hO; clear hO H0) | go_in)
  refine wp_loop_rounds 2 ?_
  rw [rounds_succ]
  go_wp2_with (first | (go_at_call 51; (with_reducible refine (push1 2 (H1.out.alloc _)).mono ?_); rintro e w2 ⟨rfl, hO, hk2⟩; have K2 := Aside0.mk hk2; clear hk2; have t1 := hO.rep.s1; have tf1 := hO.rep.fb1; have H2 := Aside0.mk hO; clear hO H1 s1 fb1; have s1 := t1; have fb1 := tf1; clear t1 tf1))
  rw [rounds_succ]
  go_wp2
  go_ret
  exact ⟨rfl, H2.out.setState _⟩
set_option maxHeartbeats 1600000 in
set_option maxRecDepth 100000 in
theorem next_esk_esk {w0 w : World} {base b g : Nat} (h : Ok w0 base w b g 2 2 1) :
    Calls Try.prog 35 #[.pointer (some ⟨b, 0, none⟩), .int .u8 4] w (To .nilIface w0 base b g 2 2 1) := by
  have H0 := Aside0.mk h
  clear h
  go_enter Try.func35, Try.ntmps35
  go_wp2_with fail
  refine wp_loop_rounds 1 ?_
  rw [rounds_succ]
  go_wp2_with (first | (go_at_call 49; (with_reducible refine (pop2 H0.out).mono ?_); rintro e w1 ⟨rfl, hO⟩; have s1 := hO.rep.s1; have fb1 := hO.rep.fb1; have L1 := Aside0.mk hO.lts; have H1 := Aside0.mk hO; clear hO H0) | go_in)
  refine wp_loop_rounds 2 ?_
  rw [rounds_succ]
  go_wp2_with (first | (go_at_call 51; (with_reducible refine (push1 2 (H1.out.alloc _)).mono ?_); rintro e w2 ⟨rfl, hO, hk2⟩; have K2 := Aside0.mk hk2; clear hk2; have t1 := hO.rep.s1; have tf1 := hO.rep.fb1; have H2 := Aside0.mk hO; clear hO H1 s1 fb1; have s1 := t1; have fb1 := tf1; clear t1 tf1))
  rw [rounds_succ]
  go_wp2
  go_ret
  exact ⟨rfl, H2.out.setState _⟩
set_option maxHeartbeats 1600000 in
set_option maxRecDepth 100000 in
theorem next_msg_enc {w0 w : World} {base b g : Nat} (h : Ok w0 base w b g 2 0 0) :
    Calls Try.prog 35 #[.pointer (some ⟨b, 0, none⟩), .int .u8 5] w (To .nilIface w0 base b g 1 0 4) := by
  have H0 := Aside0.mk h
  clear h
  go_enter Try.func35, Try.ntmps35
  go_wp2_with fail
  refine wp_loop_rounds 1 ?_
  rw [rounds_succ]
  go_wp2_with (first | (go_at_call 49; (with_reducible refine (pop2 H0.out).mono ?_); rintro e w1 ⟨rfl, hO⟩; have s1 := hO.rep.s1; have fb1 := hO.rep.fb1; have L1 := Aside0.mk hO.lts; have H1 := Aside0.mk hO; clear hO H0) | go_in)
  refine wp_loop_rounds 2 ?_
  rw [rounds_succ]
  go_wp2
  go_ret
  exact ⟨rfl, H1.out.setState _⟩
set_option maxHeartbeats 1600000 in
set_option maxRecDepth 100000 in
theorem next_esk_enc {w0 w : World} {base b g : Nat} (h : Ok w0 base w b g 2 2 1) :
    Calls Try.prog 35 #[.pointer (some ⟨b, 0, none⟩), .int .u8 5] w (To .nilIface w0 base b g 1 2 4) := by
  have H0 := Aside0.mk h
  clear h
  go_enter Try.func35, Try.ntmps35
  go_wp2_with fail
  refine wp_loop_rounds 1 ?_
  rw [rounds_succ]
  go_wp2_with (first | (go_at_call 49; (with_reducible refine (pop2 H0.out).mono ?_); rintro e w1 ⟨rfl, hO⟩; have s1 := hO.rep.s1; have fb1 := hO.rep.fb1; have L1 := Aside0.mk hO.lts; have H1 := Aside0.mk hO; clear hO H0) | go_in)
  refine wp_loop_rounds 2 ?_
  rw [rounds_succ]
  go_wp2
  go_ret
  exact ⟨rfl, H1.out.setState _⟩
set_option maxHeartbeats 1600000 in
set_option maxRecDepth 100000 in
theorem next_enc_eos {w0 w : World} {base b g : Nat} {x : Int} (h : Ok w0 base w b g 1 x 4) :
    Calls Try.prog 35 #[.pointer (some ⟨b, 0, none⟩), .int .u8 6] w (To .nilIface w0 base b g 0 x 5) := by
  have H0 := Aside0.mk h
  clear h
  go_enter Try.func35, Try.ntmps35
  go_wp2_with fail
  refine wp_loop_rounds 1 ?_
  rw [rounds_succ]
  go_wp2_with (first | (go_at_call 49; (with_reducible refine (pop1 H0.out).mono ?_); rintro e w1 ⟨rfl, hO⟩; have s1 := hO.rep.s1; have fb1 := hO.rep.fb1; have L1 := Aside0.mk hO.lts; have H1 := Aside0.mk hO; clear hO H0) | go_in)
  refine wp_loop_rounds 2 ?_
  rw [rounds_succ]
  go_wp2
  go_ret
  exact ⟨rfl, H1.out.setState _⟩
set_option maxHeartbeats 1600000 in
set_option maxRecDepth 100000 in
theorem next_esk_eos {w0 w : World} {base b g : Nat} (h : Ok w0 base w b g 2 2 1) :
    Calls Try.prog 35 #[.pointer (some ⟨b, 0, none⟩), .int .u8 6] w (Fell w0 base b g 1) := by
  have H0 := Aside0.mk h
  clear h
  go_enter Try.func35, Try.ntmps35
  go_wp2_with fail
  refine wp_loop_rounds 1 ?_
  rw [rounds_succ]
  go_wp2_with (first | (go_at_call 49; (with_reducible refine (pop2 H0.out).mono ?_); rintro e w1 ⟨rfl, hO⟩; have s1 := hO.rep.s1; have fb1 := hO.rep.fb1; have L1 := Aside0.mk hO.lts; have H1 := Aside0.mk hO; clear hO H0) | go_in)
  go_ret
  exact ⟨⟨_, _, rfl⟩, _, _, H1.out⟩
set_option maxHeartbeats 1600000 in
set_option maxRecDepth 100000 in
theorem next_msg_eos {w0 w : World} {base b g : Nat} (h : Ok w0 base w b g 2 0 0) :
    Calls Try.prog 35 #[.pointer (some ⟨b, 0, none⟩), .int .u8 6] w (Fell w0 base b g 0) := by
  have H0 := Aside0.mk h
  clear h
  go_enter Try.func35, Try.ntmps35
  go_wp2_with fail
  refine wp_loop_rounds 1 ?_
  rw [rounds_succ]
  go_wp2_with (first | (go_at_call 49; (with_reducible refine (pop2 H0.out).mono ?_); rintro e w1 ⟨rfl, hO⟩; have s1 := hO.rep.s1; have fb1 := hO.rep.fb1; have L1 := Aside0.mk hO.lts; have H1 := Aside0.mk hO; clear hO H0) | go_in)
  go_ret
  exact ⟨⟨_, _, rfl⟩, _, _, H1.out⟩
set_option maxHeartbeats 1600000 in
set_option maxRecDepth 100000 in
theorem next_enc_esk {w0 w : World} {base b g : Nat} {x : Int} (h : Ok w0 base w b g 1 x 4) :
    Calls Try.prog 35 #[.pointer (some ⟨b, 0, none⟩), .int .u8 4] w (To .nilIface w0 base b g 2 2 1) := by
  have H0 := Aside0.mk h
  clear h
  go_enter Try.func35, Try.ntmps35
  go_wp2_with fail
  refine wp_loop_rounds 2 ?_
  rw [rounds_succ]
  go_wp2_with (first | (go_at_call 49; (with_reducible refine (pop1 H0.out).mono ?_); rintro e w1 ⟨rfl, hO⟩; have s1 := hO.rep.s1; have fb1 := hO.rep.fb1; have L1 := Aside0.mk hO.lts; have H1 := Aside0.mk hO; clear hO H0) | (go_at_call 51; (with_reducible refine (push0 (H1.out.alloc _)).mono ?_); rintro e w2 ⟨rfl, hO, hk2⟩; have K2 := Aside0.mk hk2; clear hk2; have t1 := hO.rep.s1; have tf1 := hO.rep.fb1; have H2 := Aside0.mk hO; clear hO H1 s1 fb1; have s1 := t1; have fb1 := tf1; clear t1 tf1) | go_in)
  have c0 : w2.cell? ⟨w1.heap.size, 0, none⟩ = some (.int .i8 0) := by
    rw [K2.out w1.heap.size 0 (by have := L1.out.1; omega) (by have := L1.out.2; omega) (by simp)]
    simp [go_sem]
  refine wp_loop_rounds 2 ?_
  rw [rounds_succ]
  go_wp2_with (first | (go_at_call 51; (with_reducible refine (push1 0 H2.out).mono ?_); rintro e w3 ⟨rfl, hO, hk3⟩; have K3 := Aside0.mk hk3; clear hk3; have t1 := hO.rep.s1; have tf1 := hO.rep.fb1; have H3 := Aside0.mk hO; clear hO H2 s1 fb1; have s1 := t1; have fb1 := tf1; clear t1 tf1))
  rw [rounds_succ]
  go_wp2
  have H4 := Aside0.mk (H3.out.setState 0)
  clear H3 s1 fb1
  rw [rounds_succ]
  go_wp2_with (first | (go_at_call 49; (with_reducible refine (pop2 H4.out).mono ?_); rintro e w5 ⟨rfl, hO⟩; have s1 := hO.rep.s1; have fb1 := hO.rep.fb1; have L5 := Aside0.mk hO.lts; have H5 := Aside0.mk hO; clear hO H4) | go_in)
  refine wp_loop_rounds 2 ?_
  rw [rounds_succ]
  go_wp2_with (first | (go_at_call 51; (with_reducible refine (push1 2 (H5.out.alloc _)).mono ?_); rintro e w6 ⟨rfl, hO, hk6⟩; have K6 := Aside0.mk hk6; clear hk6; have t1 := hO.rep.s1; have tf1 := hO.rep.fb1; have H6 := Aside0.mk hO; clear hO H5 s1 fb1; have s1 := t1; have fb1 := tf1; clear t1 tf1))
  rw [rounds_succ]
  go_wp2
  go_ret
  exact ⟨rfl, H6.out.setState _⟩
end Go.Proofs.Ytchihobchpipfaa.Seq
