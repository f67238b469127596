/- packet.nextSubpacket where there is none. -/
import Derived.Test.YtfhefoaieefnkaaDoorNsp
import Derived.ScopeJumps
import Derived.WalkMore
set_option linter.unusedVariables false
set_option linter.unusedSimpArgs false
namespace Go.Proofs.YtfhefoaieefnkaaDoor.Rd
open Go.RowKit Go.Proofs.YtfhefoaieefnkaaDoorW.PrintWords Go.Proofs.YtfhefoaieefnkaaDoorW.PrintMore Go.Proofs.YtfhefoaieefnkaaDoor.Kit

theorem spread110 (tm : Array Value) (h : tm.size = 110) : ∃ f : Nat → Value, tm = #[f 0, f 1, f 2, f 3, f 4, f 5, f 6, f 7, f 8, f 9, f 10, f 11, f 12, f 13, f 14, f 15, f 16, f 17, f 18, f 19, f 20, f 21, f 22, f 23, f 24, f 25, f 26, f 27, f 28, f 29, f 30, f 31, f 32, f 33, f 34, f 35, f 36, f 37, f 38, f 39, f 40, f 41, f 42, f 43, f 44, f 45, f 46, f 47, f 48, f 49, f 50, f 51, f 52, f 53, f 54, f 55, f 56, f 57, f 58, f 59, f 60, f 61, f 62, f 63, f 64, f 65, f 66, f 67, f 68, f 69, f 70, f 71, f 72, f 73, f 74, f 75, f 76, f 77, f 78, f 79, f 80, f 81, f 82, f 83, f 84, f 85, f 86, f 87, f 88, f 89, f 90, f 91, f 92, f 93, f 94, f 95, f 96, f 97, f 98, f 99, f 100, f 101, f 102, f 103, f 104, f 105, f 106, f 107, f 108, f 109] := by
  refine ⟨fun i => tm.getD i undef, ?_⟩
  have e : tm = ((List.range 110).map (fun i => tm.getD i undef)).toArray := by
    apply Array.ext
    · simp [h]
    · intro i h1 h2
      simp [h1]
  exact e.trans rfl
/-- What nextSubpacket comes to where there is none. -/
def NspNo (w : World) (en : Ending) (w' : World) : Prop :=
  ∃ (k : Int) (p : Value) (m : ByteArray), en = .returned (.tuple #[.int .i64 k, p, .iface 168 (.string m)]) ∧ Below w.heap.size w w'
/-- The frame at the jump to 'Truncated'. -/
def AtCut (w : World) (a' : Act) (w' : World) : Prop := Below w.heap.size w w' ∧ ∃ tm : Array Value, a' = { tmps := tm, defers := [] } ∧ tm.size = 110 ∧ ∃ k, tm[2]? = some (.int .i64 k)
set_option maxHeartbeats 1600000 in
set_option maxRecDepth 100000 in
theorem nsn_one_cut {w : World} {A : Option Addr} {c : Nat} {a : Int} {t l : List Int} (el : l = a :: t) (hr : C8 w A l) (hc : l.length ≤ c) (hl : l.length ≤ 100000000) (a2 : a < 192) (ht : l.length < 2) :
    Calls Tryd.prog 77 #[.slice A l.length c] w (NspNo w) := by
  have l0 : 0 < l.length := by rw [el]; simp
  obtain ⟨W, eW, ⟨x0, x1, x2⟩, ⟨z0, z1, z2⟩, hB⟩ := sb_new w
  have hr1 := Kd.C_below hr hB
  obtain ⟨ad, eA, ya⟩ := Kd.at_int hr 0 (by omega) (by omega)
  subst eA
  clear ya
  have y0 : W.cell? ad = some (.int .u8 a) := (cell_at0 hr1 (by omega)).trans (by rw [el]; rfl)
  obtain ⟨m, em⟩ : ∃ m, l.length = m := ⟨_, rfl⟩
  have B0 := Aside0.mk hB
  have m4 : ¬ (m : Int) < 1 := by omega
  have m5 : (m : Int) < 2 := by omega
  have m6 : 0 < m := by omega
  rw [em]
  clear hr hr1 hB el em hl hc ht
  go_enter Tryd.func77, Tryd.ntmps77
  go_wp2_with fail
  refine wp_scope_jumps 0 (AtCut w) (fun _ _ => 0) rfl ?_ ?_
  · go_upto_region 10 with (fail)
    clear eW
    obtain ⟨g, eg⟩ : ∃ g, w.heap.size = g := ⟨_, rfl⟩
    have EG := Aside0.mk eg
    rw [eg] at x0 x1 x2 z0 z1 z2
    rw [eg]
    go_wp2_with fail
    go_step3
    exact ⟨rfl, B0.out, _, rfl, rfl, _, rfl⟩
  · rintro a' w' ⟨hB, tm, rfl, hs, k, hk⟩
    obtain ⟨f, rfl⟩ := spread110 tm hs
    have hk' : f 2 = .int .i64 k := by injection hk
    have BB := Aside0.mk hB
    have HK := Aside0.mk hk'
    clear hB hs hk hk'
    go_wp2_with fail
    go_ret3
    exact ⟨k, f 3, _, congrArg (fun z => Ending.returned (.tuple #[z, f 3, _])) HK.out, BB.out⟩
set_option maxHeartbeats 1600000 in
set_option maxRecDepth 100000 in
theorem nsn_two_cut {w : World} {A : Option Addr} {c : Nat} {a : Int} {t l : List Int} (el : l = a :: t) (hr : C8 w A l) (hc : l.length ≤ c) (hl : l.length ≤ 100000000) (a1 : 192 ≤ a) (a2 : a < 255) (ht : l.length < 3) :
    Calls Tryd.prog 77 #[.slice A l.length c] w (NspNo w) := by
  have l0 : 0 < l.length := by rw [el]; simp
  obtain ⟨W, eW, ⟨x0, x1, x2⟩, ⟨z0, z1, z2⟩, hB⟩ := sb_new w
  have hr1 := Kd.C_below hr hB
  obtain ⟨ad, eA, ya⟩ := Kd.at_int hr 0 (by omega) (by omega)
  subst eA
  clear ya
  have y0 : W.cell? ad = some (.int .u8 a) := (cell_at0 hr1 (by omega)).trans (by rw [el]; rfl)
  obtain ⟨m, em⟩ : ∃ m, l.length = m := ⟨_, rfl⟩
  have B0 := Aside0.mk hB
  have m4 : ¬ (m : Int) < 1 := by omega
  have m5 : (m : Int) < 3 := by omega
  have m6 : 0 < m := by omega
  rw [em]
  clear hr hr1 hB el em hl hc ht
  go_enter Tryd.func77, Tryd.ntmps77
  go_wp2_with fail
  refine wp_scope_jumps 0 (AtCut w) (fun _ _ => 0) rfl ?_ ?_
  · go_upto_region 10 with (fail)
    clear eW
    obtain ⟨g, eg⟩ : ∃ g, w.heap.size = g := ⟨_, rfl⟩
    have EG := Aside0.mk eg
    rw [eg] at x0 x1 x2 z0 z1 z2
    rw [eg]
    go_wp2_with fail
    go_step3
    exact ⟨rfl, B0.out, _, rfl, rfl, _, rfl⟩
  · rintro a' w' ⟨hB, tm, rfl, hs, k, hk⟩
    obtain ⟨f, rfl⟩ := spread110 tm hs
    have hk' : f 2 = .int .i64 k := by injection hk
    have BB := Aside0.mk hB
    have HK := Aside0.mk hk'
    clear hB hs hk hk'
    go_wp2_with fail
    go_ret3
    exact ⟨k, f 3, _, congrArg (fun z => Ending.returned (.tuple #[z, f 3, _])) HK.out, BB.out⟩
set_option maxHeartbeats 1600000 in
set_option maxRecDepth 100000 in
theorem nsn_five_cut {w : World} {A : Option Addr} {c : Nat} {a : Int} {t l : List Int} (el : l = a :: t) (hr : C8 w A l) (hc : l.length ≤ c) (hl : l.length ≤ 100000000) (a1 : 255 ≤ a) (ht : l.length < 6) :
    Calls Tryd.prog 77 #[.slice A l.length c] w (NspNo w) := by
  have l0 : 0 < l.length := by rw [el]; simp
  obtain ⟨W, eW, ⟨x0, x1, x2⟩, ⟨z0, z1, z2⟩, hB⟩ := sb_new w
  have hr1 := Kd.C_below hr hB
  obtain ⟨ad, eA, ya⟩ := Kd.at_int hr 0 (by omega) (by omega)
  subst eA
  clear ya
  have y0 : W.cell? ad = some (.int .u8 a) := (cell_at0 hr1 (by omega)).trans (by rw [el]; rfl)
  obtain ⟨m, em⟩ : ∃ m, l.length = m := ⟨_, rfl⟩
  have B0 := Aside0.mk hB
  have m4 : ¬ (m : Int) < 1 := by omega
  have m5 : (m : Int) < 6 := by omega
  have m6 : 0 < m := by omega
  rw [em]
  clear hr hr1 hB el em hl hc ht
  go_enter Tryd.func77, Tryd.ntmps77
  go_wp2_with fail
  refine wp_scope_jumps 0 (AtCut w) (fun _ _ => 0) rfl ?_ ?_
  · go_upto_region 10 with (fail)
    clear eW
    obtain ⟨g, eg⟩ : ∃ g, w.heap.size = g := ⟨_, rfl⟩
    have EG := Aside0.mk eg
    rw [eg] at x0 x1 x2 z0 z1 z2
    rw [eg]
    go_wp2_with fail
    go_step3
    exact ⟨rfl, B0.out, _, rfl, rfl, _, rfl⟩
  · rintro a' w' ⟨hB, tm, rfl, hs, k, hk⟩
    obtain ⟨f, rfl⟩ := spread110 tm hs
    have hk' : f 2 = .int .i64 k := by injection hk
    have BB := Aside0.mk hB
    have HK := Aside0.mk hk'
    clear hB hs hk hk'
    go_wp2_with fail
    go_ret3
    exact ⟨k, f 3, _, congrArg (fun z => Ending.returned (.tuple #[z, f 3, _])) HK.out, BB.out⟩
set_option maxHeartbeats 1600000 in
set_option maxRecDepth 100000 in
theorem nsn_one_big {w : World} {A : Option Addr} {c n : Nat} {b : Int} {t l : List Int} (el : l = (n : Int) :: b :: t) (hr : C8 w A l) (hc : l.length ≤ c) (hl : l.length ≤ 100000000) (a2 : n < 192) (b1 : 0 ≤ b) (b2 : b ≤ 255)  (hn : (n : Int) = (n : Int)) (hn2 : t.length + 1 < n) :
    Calls Tryd.prog 77 #[.slice A l.length c] w (NspNo w) := by
  have ln : l.length = t.length + 2 := by rw [el]; rfl
  obtain ⟨W, eW, ⟨x0, x1, x2⟩, ⟨z0, z1, z2⟩, hB⟩ := sb_new w
  have hr1 := Kd.C_below hr hB
  obtain ⟨ad, eA, ya⟩ := Kd.at_int hr 0 (by omega) (by omega)
  subst eA
  clear ya
  have y0 : W.cell? ad = some (.int .u8 (n : Int)) := (cell_at0 hr1 (by omega)).trans (by rw [el]; rfl)
  have y1 : W.cell? ⟨ad.block, ad.off + 1, none⟩ = some (.int .u8 b) := (cell_at hr1 (k := 1) (by omega) (by omega)).trans (by rw [el]; rfl)
  obtain ⟨m, em⟩ : ∃ m, l.length = m := ⟨_, rfl⟩
  obtain ⟨r, er⟩ : ∃ r, t.length + 1 = r := ⟨_, rfl⟩
  have e1 : ∀ W : World, (Instr.slice 22 (.slice (some ad) m c) (some (.int .i64 1)) none none).run Tryd.prog W = .ok (.slice (some ⟨ad.block, ad.off + 1, none⟩) r (c - 1)) W := by
    obtain ⟨i, hi, _, hsz, _⟩ := info_partsC infoB
    intro W
    have hel : Tryd.prog.elem 22 = 5 := by simp [Program.elem, Tryd.underlying22]
    have hu : Tryd.prog.underlying 22 = some (.slice (Tryd.prog.elem 22)) := by rw [hel]; exact Tryd.underlying22
    rw [run_slice_l W 22 (some ad) m c hu .i64 1 (by omega) (by omega), hel]
    have e1 : m - 1 = r := by omega
    simp [sizeOf, typeInfo, hi, hsz, sliced, Result.andThen, e1, show ¬ c = 1 by omega, Addr.add]
  have B0 := Aside0.mk hB
  have wl : IntKind.u32.wrap (r : Int) = (r : Int) := IntWalk.u32_in _ (by omega)
  have n2 : (r : Int) < (n : Int) := by omega
  have n4 : (n : Int) > (r : Int) := by omega
  have mc : m ≤ c := by omega
  have m2 : ¬ (m : Int) < 2 := by omega
  have m3 : (1 : Int) < (m : Int) := by omega
  have m4 : ¬ (m : Int) < 1 := by omega
  have k0 : 0 < m := by omega
  have k1 : 1 < m := by omega
  have j1 : (1 : Int) < (m : Int) := by omega
  rw [em]
  clear hr hr1 hB el em er ln hl hc
  have hn2' := Aside0.mk hn2
  clear hn2
  go_enter Tryd.func77, Tryd.ntmps77
  go_wp2_with fail
  refine wp_scope_jumps 0 (AtCut w) (fun _ _ => 0) rfl ?_ ?_
  · go_upto_region 10 with (fail)
    clear eW
    obtain ⟨g, eg⟩ : ∃ g, w.heap.size = g := ⟨_, rfl⟩
    have EG := Aside0.mk eg
    rw [eg] at x0 x1 x2 z0 z1 z2
    rw [eg]
    go_wp2_with fail
    go_step3
    exact ⟨rfl, B0.out, _, rfl, rfl, _, rfl⟩
  · rintro a' w' ⟨hB, tm, rfl, hs, k, hk⟩
    obtain ⟨f, rfl⟩ := spread110 tm hs
    have hk' : f 2 = .int .i64 k := by injection hk
    have BB := Aside0.mk hB
    have HK := Aside0.mk hk'
    clear hB hs hk hk'
    go_wp2_with fail
    go_ret3
    exact ⟨k, f 3, _, congrArg (fun z => Ending.returned (.tuple #[z, f 3, _])) HK.out, BB.out⟩
set_option maxHeartbeats 1600000 in
set_option maxRecDepth 100000 in
theorem nsn_one_zero {w : World} {A : Option Addr} {c n : Nat} {b : Int} {t l : List Int} (el : l = (n : Int) :: b :: t) (hr : C8 w A l) (hc : l.length ≤ c) (hl : l.length ≤ 100000000) (b1 : 0 ≤ b) (b2 : b ≤ 255)  (hn : (n : Int) = (n : Int)) (hn2 : n = 0) :
    Calls Tryd.prog 77 #[.slice A l.length c] w (NspNo w) := by
  have ln : l.length = t.length + 2 := by rw [el]; rfl
  obtain ⟨W, eW, ⟨x0, x1, x2⟩, ⟨z0, z1, z2⟩, hB⟩ := sb_new w
  have hr1 := Kd.C_below hr hB
  obtain ⟨ad, eA, ya⟩ := Kd.at_int hr 0 (by omega) (by omega)
  subst eA
  clear ya
  have y0 : W.cell? ad = some (.int .u8 (n : Int)) := (cell_at0 hr1 (by omega)).trans (by rw [el]; rfl)
  have y1 : W.cell? ⟨ad.block, ad.off + 1, none⟩ = some (.int .u8 b) := (cell_at hr1 (k := 1) (by omega) (by omega)).trans (by rw [el]; rfl)
  obtain ⟨m, em⟩ : ∃ m, l.length = m := ⟨_, rfl⟩
  obtain ⟨r, er⟩ : ∃ r, t.length + 1 = r := ⟨_, rfl⟩
  have e1 : ∀ W : World, (Instr.slice 22 (.slice (some ad) m c) (some (.int .i64 1)) none none).run Tryd.prog W = .ok (.slice (some ⟨ad.block, ad.off + 1, none⟩) r (c - 1)) W := by
    obtain ⟨i, hi, _, hsz, _⟩ := info_partsC infoB
    intro W
    have hel : Tryd.prog.elem 22 = 5 := by simp [Program.elem, Tryd.underlying22]
    have hu : Tryd.prog.underlying 22 = some (.slice (Tryd.prog.elem 22)) := by rw [hel]; exact Tryd.underlying22
    rw [run_slice_l W 22 (some ad) m c hu .i64 1 (by omega) (by omega), hel]
    have e1 : m - 1 = r := by omega
    simp [sizeOf, typeInfo, hi, hsz, sliced, Result.andThen, e1, show ¬ c = 1 by omega, Addr.add]
  have B0 := Aside0.mk hB
  have wl : IntKind.u32.wrap (r : Int) = (r : Int) := IntWalk.u32_in _ (by omega)
  have n4 : ¬ (n : Int) > (r : Int) := by omega
  have mc : m ≤ c := by omega
  have m2 : ¬ (m : Int) < 2 := by omega
  have m3 : (1 : Int) < (m : Int) := by omega
  have m4 : ¬ (m : Int) < 1 := by omega
  have k0 : 0 < m := by omega
  have k1 : 1 < m := by omega
  have j1 : (1 : Int) < (m : Int) := by omega
  rw [em]
  clear hr hr1 hB el em er ln hl hc
  subst hn2
  go_enter Tryd.func77, Tryd.ntmps77
  go_wp2_with fail
  refine wp_scope_jumps 0 (AtCut w) (fun _ _ => 0) rfl ?_ ?_
  · go_upto_region 10 with (fail)
    clear eW
    obtain ⟨g, eg⟩ : ∃ g, w.heap.size = g := ⟨_, rfl⟩
    have EG := Aside0.mk eg
    rw [eg] at x0 x1 x2 z0 z1 z2
    rw [eg]
    go_wp2_with fail
    go_step3
    exact ⟨rfl, B0.out, _, rfl, rfl, _, rfl⟩
  · rintro a' w' ⟨hB, tm, rfl, hs, k, hk⟩
    obtain ⟨f, rfl⟩ := spread110 tm hs
    have hk' : f 2 = .int .i64 k := by injection hk
    have BB := Aside0.mk hB
    have HK := Aside0.mk hk'
    clear hB hs hk hk'
    go_wp2_with fail
    go_ret3
    exact ⟨k, f 3, _, congrArg (fun z => Ending.returned (.tuple #[z, f 3, _])) HK.out, BB.out⟩
set_option maxHeartbeats 1600000 in
set_option maxRecDepth 100000 in
theorem nsn_two_big {w : World} {A : Option Addr} {c n : Nat} {a b x : Int} {t l : List Int} (el : l = a :: b :: x :: t) (hr : C8 w A l) (hc : l.length ≤ c) (hl : l.length ≤ 100000000) (a1 : 192 ≤ a) (a2 : a < 255) (b1 : 0 ≤ b) (b2 : b ≤ 255)  (hn : (a - 192) * 256 + b + 192 = (n : Int)) (hn2 : t.length + 1 < n) :
    Calls Tryd.prog 77 #[.slice A l.length c] w (NspNo w) := by
  have ln : l.length = t.length + 3 := by rw [el]; rfl
  obtain ⟨W, eW, ⟨x0, x1, x2⟩, ⟨z0, z1, z2⟩, hB⟩ := sb_new w
  have hr1 := Kd.C_below hr hB
  obtain ⟨ad, eA, ya⟩ := Kd.at_int hr 0 (by omega) (by omega)
  subst eA
  clear ya
  have y0 : W.cell? ad = some (.int .u8 a) := (cell_at0 hr1 (by omega)).trans (by rw [el]; rfl)
  have y1 : W.cell? ⟨ad.block, ad.off + 1, none⟩ = some (.int .u8 b) := (cell_at hr1 (k := 1) (by omega) (by omega)).trans (by rw [el]; rfl)
  have y2 : W.cell? ⟨ad.block, ad.off + 2, none⟩ = some (.int .u8 x) := (cell_at hr1 (k := 2) (by omega) (by omega)).trans (by rw [el]; rfl)
  obtain ⟨m, em⟩ : ∃ m, l.length = m := ⟨_, rfl⟩
  obtain ⟨r, er⟩ : ∃ r, t.length + 1 = r := ⟨_, rfl⟩
  have e1 : ∀ W : World, (Instr.slice 22 (.slice (some ad) m c) (some (.int .i64 2)) none none).run Tryd.prog W = .ok (.slice (some ⟨ad.block, ad.off + 2, none⟩) r (c - 2)) W := by
    obtain ⟨i, hi, _, hsz, _⟩ := info_partsC infoB
    intro W
    have hel : Tryd.prog.elem 22 = 5 := by simp [Program.elem, Tryd.underlying22]
    have hu : Tryd.prog.underlying 22 = some (.slice (Tryd.prog.elem 22)) := by rw [hel]; exact Tryd.underlying22
    rw [run_slice_l W 22 (some ad) m c hu .i64 2 (by omega) (by omega), hel]
    have e1 : m - 2 = r := by omega
    simp [sizeOf, typeInfo, hi, hsz, sliced, Result.andThen, e1, show ¬ c = 2 by omega, Addr.add]
  have B0 := Aside0.mk hB
  have wl : IntKind.u32.wrap (r : Int) = (r : Int) := IntWalk.u32_in _ (by omega)
  have n2 : (r : Int) < (n : Int) := by omega
  have n4 : (n : Int) > (r : Int) := by omega
  have mc : m ≤ c := by omega
  have m2 : ¬ (m : Int) < 3 := by omega
  have m3 : (2 : Int) < (m : Int) := by omega
  have m4 : ¬ (m : Int) < 1 := by omega
  have k0 : 0 < m := by omega
  have k1 : 1 < m := by omega
  have j1 : (1 : Int) < (m : Int) := by omega
  have k2 : 2 < m := by omega
  have j2 : (2 : Int) < (m : Int) := by omega
  rw [em]
  clear hr hr1 hB el em er ln hl hc
  have hn2' := Aside0.mk hn2
  clear hn2
  go_enter Tryd.func77, Tryd.ntmps77
  go_wp2_with fail
  refine wp_scope_jumps 0 (AtCut w) (fun _ _ => 0) rfl ?_ ?_
  · go_upto_region 10 with (fail)
    clear eW
    obtain ⟨g, eg⟩ : ∃ g, w.heap.size = g := ⟨_, rfl⟩
    have EG := Aside0.mk eg
    rw [eg] at x0 x1 x2 z0 z1 z2
    rw [eg]
    go_wp2_with fail
    go_region_held3 (fun w' => w'.cell? ad = some (.int .u8 a) ∧ w'.cell? ⟨ad.block, ad.off + 1, none⟩ = some (.int .u8 b) ∧ w'.cell? ⟨ad.block, ad.off + 2, none⟩ = some (.int .u8 x)) (first | assumption | go_keep) (fail)
    go_wp2_with fail
    go_step3
    exact ⟨rfl, below_drew B0.out, _, rfl, rfl, _, rfl⟩
  · rintro a' w' ⟨hB, tm, rfl, hs, k, hk⟩
    obtain ⟨f, rfl⟩ := spread110 tm hs
    have hk' : f 2 = .int .i64 k := by injection hk
    have BB := Aside0.mk hB
    have HK := Aside0.mk hk'
    clear hB hs hk hk'
    go_wp2_with fail
    go_ret3
    exact ⟨k, f 3, _, congrArg (fun z => Ending.returned (.tuple #[z, f 3, _])) HK.out, BB.out⟩
set_option maxHeartbeats 1600000 in
set_option maxRecDepth 100000 in
theorem nsn_five_big {w : World} {A : Option Addr} {c n : Nat} {b d e f x : Int} {t l : List Int} (el : l = (255 : Int) :: b :: d :: e :: f :: x :: t) (hr : C8 w A l) (hc : l.length ≤ c) (hl : l.length ≤ 100000000) (b1 : 0 ≤ b) (b2 : b ≤ 255) (d1 : 0 ≤ d) (d2 : d ≤ 255) (e1 : 0 ≤ e) (e2' : e ≤ 255) (f1 : 0 ≤ f) (f2 : f ≤ 255) (hn : b * 16777216 + d * 65536 + e * 256 + f = (n : Int)) (hn2 : t.length + 1 < n) :
    Calls Tryd.prog 77 #[.slice A l.length c] w (NspNo w) := by
  have ln : l.length = t.length + 6 := by rw [el]; rfl
  obtain ⟨W, eW, ⟨x0, x1, x2⟩, ⟨z0, z1, z2⟩, hB⟩ := sb_new w
  have hr1 := Kd.C_below hr hB
  obtain ⟨ad, eA, ya⟩ := Kd.at_int hr 0 (by omega) (by omega)
  subst eA
  clear ya
  have y0 : W.cell? ad = some (.int .u8 (255 : Int)) := (cell_at0 hr1 (by omega)).trans (by rw [el]; rfl)
  have y1 : W.cell? ⟨ad.block, ad.off + 1, none⟩ = some (.int .u8 b) := (cell_at hr1 (k := 1) (by omega) (by omega)).trans (by rw [el]; rfl)
  have y2 : W.cell? ⟨ad.block, ad.off + 2, none⟩ = some (.int .u8 d) := (cell_at hr1 (k := 2) (by omega) (by omega)).trans (by rw [el]; rfl)
  have y3 : W.cell? ⟨ad.block, ad.off + 3, none⟩ = some (.int .u8 e) := (cell_at hr1 (k := 3) (by omega) (by omega)).trans (by rw [el]; rfl)
  have y4 : W.cell? ⟨ad.block, ad.off + 4, none⟩ = some (.int .u8 f) := (cell_at hr1 (k := 4) (by omega) (by omega)).trans (by rw [el]; rfl)
  have y5 : W.cell? ⟨ad.block, ad.off + 5, none⟩ = some (.int .u8 x) := (cell_at hr1 (k := 5) (by omega) (by omega)).trans (by rw [el]; rfl)
  obtain ⟨m, em⟩ : ∃ m, l.length = m := ⟨_, rfl⟩
  obtain ⟨r, er⟩ : ∃ r, t.length + 1 = r := ⟨_, rfl⟩
  have e1 : ∀ W : World, (Instr.slice 22 (.slice (some ad) m c) (some (.int .i64 5)) none none).run Tryd.prog W = .ok (.slice (some ⟨ad.block, ad.off + 5, none⟩) r (c - 5)) W := by
    obtain ⟨i, hi, _, hsz, _⟩ := info_partsC infoB
    intro W
    have hel : Tryd.prog.elem 22 = 5 := by simp [Program.elem, Tryd.underlying22]
    have hu : Tryd.prog.underlying 22 = some (.slice (Tryd.prog.elem 22)) := by rw [hel]; exact Tryd.underlying22
    rw [run_slice_l W 22 (some ad) m c hu .i64 5 (by omega) (by omega), hel]
    have e1 : m - 5 = r := by omega
    simp [sizeOf, typeInfo, hi, hsz, sliced, Result.andThen, e1, show ¬ c = 5 by omega, Addr.add]
  have B0 := Aside0.mk hB
  have wl : IntKind.u32.wrap (r : Int) = (r : Int) := IntWalk.u32_in _ (by omega)
  have n2 : (r : Int) < (n : Int) := by omega
  have n4 : (n : Int) > (r : Int) := by omega
  have mc : m ≤ c := by omega
  have m2 : ¬ (m : Int) < 6 := by omega
  have m3 : (5 : Int) < (m : Int) := by omega
  have m4 : ¬ (m : Int) < 1 := by omega
  have k0 : 0 < m := by omega
  have k1 : 1 < m := by omega
  have j1 : (1 : Int) < (m : Int) := by omega
  have k2 : 2 < m := by omega
  have j2 : (2 : Int) < (m : Int) := by omega
  have k3 : 3 < m := by omega
  have j3 : (3 : Int) < (m : Int) := by omega
  have k4 : 4 < m := by omega
  have j4 : (4 : Int) < (m : Int) := by omega
  have k5 : 5 < m := by omega
  have j5 : (5 : Int) < (m : Int) := by omega
  have hz : Go.bits .or .u32 (Go.bits .or .u32 (Go.bits .or .u32 (b * 16777216) (d * 65536)) (e * 256)) f = (n : Int) := by
    rw [u32_join 24 (b * 16777216) (d * 65536) (by omega) (by omega) (by omega) (by omega) (by omega) (by omega), u32_join 16 _ (e * 256) (by omega) (by omega) (by omega) (by omega) (by omega) (by omega), u32_join 8 _ f (by omega) (by omega) (by omega) (by omega) (by omega) (by omega)]
    exact hn
  have hn' := Aside0.mk hn
  clear hn
  rw [em]
  clear hr hr1 hB el em er ln hl hc
  have hn2' := Aside0.mk hn2
  clear hn2
  go_enter Tryd.func77, Tryd.ntmps77
  go_wp2_with fail
  refine wp_scope_jumps 0 (AtCut w) (fun _ _ => 0) rfl ?_ ?_
  · go_upto_region 10 with (fail)
    clear eW
    obtain ⟨g, eg⟩ : ∃ g, w.heap.size = g := ⟨_, rfl⟩
    have EG := Aside0.mk eg
    rw [eg] at x0 x1 x2 z0 z1 z2
    rw [eg]
    go_wp2_with fail
    go_region_held3 (fun w' => w'.cell? ad = some (.int .u8 (255 : Int)) ∧ w'.cell? ⟨ad.block, ad.off + 1, none⟩ = some (.int .u8 b) ∧ w'.cell? ⟨ad.block, ad.off + 2, none⟩ = some (.int .u8 d) ∧ w'.cell? ⟨ad.block, ad.off + 3, none⟩ = some (.int .u8 e) ∧ w'.cell? ⟨ad.block, ad.off + 4, none⟩ = some (.int .u8 f) ∧ w'.cell? ⟨ad.block, ad.off + 5, none⟩ = some (.int .u8 x)) (first | assumption | go_keep) (fail)
    go_wp2_with fail
    go_step3
    exact ⟨rfl, below_drew B0.out, _, rfl, rfl, _, rfl⟩
  · rintro a' w' ⟨hB, tm, rfl, hs, k, hk⟩
    obtain ⟨f, rfl⟩ := spread110 tm hs
    have hk' : f 2 = .int .i64 k := by injection hk
    have BB := Aside0.mk hB
    have HK := Aside0.mk hk'
    clear hB hs hk hk'
    go_wp2_with fail
    go_ret3
    exact ⟨k, f 3, _, congrArg (fun z => Ending.returned (.tuple #[z, f 3, _])) HK.out, BB.out⟩
set_option maxHeartbeats 1600000 in
set_option maxRecDepth 100000 in
theorem nsn_five_zero {w : World} {A : Option Addr} {c n : Nat} {b d e f x : Int} {t l : List Int} (el : l = (255 : Int) :: b :: d :: e :: f :: x :: t) (hr : C8 w A l) (hc : l.length ≤ c) (hl : l.length ≤ 100000000) (b1 : 0 ≤ b) (b2 : b ≤ 255) (d1 : 0 ≤ d) (d2 : d ≤ 255) (e1 : 0 ≤ e) (e2' : e ≤ 255) (f1 : 0 ≤ f) (f2 : f ≤ 255) (hn : b * 16777216 + d * 65536 + e * 256 + f = (n : Int)) (hn2 : n = 0) :
    Calls Tryd.prog 77 #[.slice A l.length c] w (NspNo w) := by
  have ln : l.length = t.length + 6 := by rw [el]; rfl
  obtain ⟨W, eW, ⟨x0, x1, x2⟩, ⟨z0, z1, z2⟩, hB⟩ := sb_new w
  have hr1 := Kd.C_below hr hB
  obtain ⟨ad, eA, ya⟩ := Kd.at_int hr 0 (by omega) (by omega)
  subst eA
  clear ya
  have y0 : W.cell? ad = some (.int .u8 (255 : Int)) := (cell_at0 hr1 (by omega)).trans (by rw [el]; rfl)
  have y1 : W.cell? ⟨ad.block, ad.off + 1, none⟩ = some (.int .u8 b) := (cell_at hr1 (k := 1) (by omega) (by omega)).trans (by rw [el]; rfl)
  have y2 : W.cell? ⟨ad.block, ad.off + 2, none⟩ = some (.int .u8 d) := (cell_at hr1 (k := 2) (by omega) (by omega)).trans (by rw [el]; rfl)
  have y3 : W.cell? ⟨ad.block, ad.off + 3, none⟩ = some (.int .u8 e) := (cell_at hr1 (k := 3) (by omega) (by omega)).trans (by rw [el]; rfl)
  have y4 : W.cell? ⟨ad.block, ad.off + 4, none⟩ = some (.int .u8 f) := (cell_at hr1 (k := 4) (by omega) (by omega)).trans (by rw [el]; rfl)
  have y5 : W.cell? ⟨ad.block, ad.off + 5, none⟩ = some (.int .u8 x) := (cell_at hr1 (k := 5) (by omega) (by omega)).trans (by rw [el]; rfl)
  obtain ⟨m, em⟩ : ∃ m, l.length = m := ⟨_, rfl⟩
  obtain ⟨r, er⟩ : ∃ r, t.length + 1 = r := ⟨_, rfl⟩
  have e1 : ∀ W : World, (Instr.slice 22 (.slice (some ad) m c) (some (.int .i64 5)) none none).run Tryd.prog W = .ok (.slice (some ⟨ad.block, ad.off + 5, none⟩) r (c - 5)) W := by
    obtain ⟨i, hi, _, hsz, _⟩ := info_partsC infoB
    intro W
    have hel : Tryd.prog.elem 22 = 5 := by simp [Program.elem, Tryd.underlying22]
    have hu : Tryd.prog.underlying 22 = some (.slice (Tryd.prog.elem 22)) := by rw [hel]; exact Tryd.underlying22
    rw [run_slice_l W 22 (some ad) m c hu .i64 5 (by omega) (by omega), hel]
    have e1 : m - 5 = r := by omega
    simp [sizeOf, typeInfo, hi, hsz, sliced, Result.andThen, e1, show ¬ c = 5 by omega, Addr.add]
  have B0 := Aside0.mk hB
  have wl : IntKind.u32.wrap (r : Int) = (r : Int) := IntWalk.u32_in _ (by omega)
  have n4 : ¬ (n : Int) > (r : Int) := by omega
  have mc : m ≤ c := by omega
  have m2 : ¬ (m : Int) < 6 := by omega
  have m3 : (5 : Int) < (m : Int) := by omega
  have m4 : ¬ (m : Int) < 1 := by omega
  have k0 : 0 < m := by omega
  have k1 : 1 < m := by omega
  have j1 : (1 : Int) < (m : Int) := by omega
  have k2 : 2 < m := by omega
  have j2 : (2 : Int) < (m : Int) := by omega
  have k3 : 3 < m := by omega
  have j3 : (3 : Int) < (m : Int) := by omega
  have k4 : 4 < m := by omega
  have j4 : (4 : Int) < (m : Int) := by omega
  have k5 : 5 < m := by omega
  have j5 : (5 : Int) < (m : Int) := by omega
  have hz : Go.bits .or .u32 (Go.bits .or .u32 (Go.bits .or .u32 (b * 16777216) (d * 65536)) (e * 256)) f = (n : Int) := by
    rw [u32_join 24 (b * 16777216) (d * 65536) (by omega) (by omega) (by omega) (by omega) (by omega) (by omega), u32_join 16 _ (e * 256) (by omega) (by omega) (by omega) (by omega) (by omega) (by omega), u32_join 8 _ f (by omega) (by omega) (by omega) (by omega) (by omega) (by omega)]
    exact hn
  have hn' := Aside0.mk hn
  clear hn
  rw [em]
  clear hr hr1 hB el em er ln hl hc
  subst hn2
  go_enter Tryd.func77, Tryd.ntmps77
  go_wp2_with fail
  refine wp_scope_jumps 0 (AtCut w) (fun _ _ => 0) rfl ?_ ?_
  · go_upto_region 10 with (fail)
    clear eW
    obtain ⟨g, eg⟩ : ∃ g, w.heap.size = g := ⟨_, rfl⟩
    have EG := Aside0.mk eg
    rw [eg] at x0 x1 x2 z0 z1 z2
    rw [eg]
    go_wp2_with fail
    go_region_held3 (fun w' => w'.cell? ad = some (.int .u8 (255 : Int)) ∧ w'.cell? ⟨ad.block, ad.off + 1, none⟩ = some (.int .u8 b) ∧ w'.cell? ⟨ad.block, ad.off + 2, none⟩ = some (.int .u8 d) ∧ w'.cell? ⟨ad.block, ad.off + 3, none⟩ = some (.int .u8 e) ∧ w'.cell? ⟨ad.block, ad.off + 4, none⟩ = some (.int .u8 f) ∧ w'.cell? ⟨ad.block, ad.off + 5, none⟩ = some (.int .u8 x)) (first | assumption | go_keep) (fail)
    go_wp2_with fail
    go_step3
    exact ⟨rfl, below_drew B0.out, _, rfl, rfl, _, rfl⟩
  · rintro a' w' ⟨hB, tm, rfl, hs, k, hk⟩
    obtain ⟨f, rfl⟩ := spread110 tm hs
    have hk' : f 2 = .int .i64 k := by injection hk
    have BB := Aside0.mk hB
    have HK := Aside0.mk hk'
    clear hB hs hk hk'
    go_wp2_with fail
    go_ret3
    exact ⟨k, f 3, _, congrArg (fun z => Ending.returned (.tuple #[z, f 3, _])) HK.out, BB.out⟩
end Go.Proofs.YtfhefoaieefnkaaDoor.Rd
