/- The law FnXors: all of it, walked. -/
import Derived.Test.YtchihobchpipfaaXorWalk
set_option linter.unusedVariables false
set_option linter.unusedSimpArgs false
namespace Go.Proofs.Ytchihobchpipfaa.Xor
open Go.RowKit Go.Proofs.YtchihobchpipfaaW.PrintWords Go.Proofs.YtchihobchpipfaaW.PrintLast Go.Proofs.YtchihobchpipfaaW.PrintMore Go.Proofs.Ytchihobchpipfaa.Kit Go.Proofs.Ytchihobchpipfaa.PFnXors

def T11 : Bool × List (List Nat × List Nat) := (true, [([], []), ([], []), ([], []), ([1, 2], [1, 2]), ([0, 3, 3], [0, 3]), ([4, 4], [4]), ([5], [5]), ([5], [5]), ([7, 5], [5, 7]), ([6, 8, 5], [5, 6, 8]), ([5], [5]), ([5], [5]), ([11, 5], [5, 11]), ([10, 12, 5], [5, 10, 12]), ([9, 13, 5, 5], [5, 9, 13]), ([5, 14], [5, 14]), ([15, 14], [15]), ([16], [16]), ([16], [16]), ([17, 18, 16, 16], [16, 17, 18]), ([16, 19], [16, 19]), ([20, 19, 0, 1, 2, 3, 4, 5, 6, 7, 8, 9, 10, 11, 12, 13, 14, 15, 16, 17, 18, 19, 20], [20])])
def B11 : List Nat := [0, 0, 0, 6, 15, 31, 63, 63, 191, 511, 63, 63, 2111, 7231, 16383, 32767, 65535, 131071, 131071, 524287, 1048575, 2097151]
theorem tab11 : rtab .any (opsOf Try.f3 11) = T11 := by kernel_rfl
theorem bits11 : waitsOk T11.2 B11 = true := by kernel_rfl

set_option maxHeartbeats 3200000 in
set_option maxRecDepth 100000 in
theorem law_main (A : Option Addr) (c : Nat) (l : List Int) (B : Option Addr) (d : Nat) (m : List Int) (w : World) (hl : C8 w A l) (hc : l.length ≤ c) (hm : C8 w B m) (hd : m.length ≤ d) (hle : m.length ≤ l.length) (hb : l.length ≤ 4096) :
    Calls Try.prog 3 #[.slice A l.length c, .slice B m.length d] w fun e w' => e = .returned (.bool true) ∧ Below w.heap.size w w' := by
  have HL := Aside0.mk hl
  have HC := Aside0.mk hc
  have HM := Aside0.mk hm
  have HD := Aside0.mk hd
  have HB := Aside0.mk (show m.length ≤ l.length ∧ l.length ≤ 4096 from ⟨hle, hb⟩)
  have FX := Aside0.mk (xor_f l m hle (by omega))
  have FS := Aside0.mk (xored_f l m hle (by omega))
  have FR := Aside0.mk (right_f l m hle (by omega))
  have hz : (zmix l m m.length).length = l.length := zmix_length l m m.length
  have hx0 : (mix 0 l m m.length).length = l.length := mix_length 0 l m m.length
  have hx1 : (mix (l.length - m.length) l m m.length).length = l.length := mix_length _ l m m.length
  have d1 : decide (2147483647 < (l.length : Int)) = false := decide_eq_false (by omega)
  have d2 : decide (2147483647 < (m.length : Int)) = false := decide_eq_false (by omega)
  have d3 : decide ((l.length : Int) < (m.length : Int)) = false := decide_eq_false (by omega)
  have d1' : decide (2147483647 < l.length) = false := decide_eq_false (by omega)
  have d2' : decide (2147483647 < m.length) = false := decide_eq_false (by omega)
  have d3' : decide (l.length < m.length) = false := decide_eq_false (by omega)
  clear hl hm hle hb hd hc
  go_enter Try.func3, Try.ntmps3
  go_wp2_with (first | (go_at_call 8; refine (Brief.brief_yes (A := A) (c := c) (n := l.length) (by simp) HB.out.2).mono ?_; rintro e w' ⟨rfl, rfl⟩; have BB := Aside0.mk (below_alloc (Below.refl w.heap.size w) (.cells #[.slice A l.length c] 22))) | ((with_reducible refine gate_dst (N := 32) rfl ?_); refine lit8 w.heap.size 5 (w0 := w) rfl (N := 32) rfl [] ?hr BB.out (below_size BB.out) (by simp) ?_; (case hr => first | (go_simp; done) | (go_simp; rfl)); intro g0 w1 _ _ _ hR hB _; clear BB; have RO := Aside0.mk hR; have BB := Aside0.mk hB; clear hR hB) | ((with_reducible refine gate_dst (N := 34) rfl ?_); refine append8 w.heap.size (w0 := w) rfl (.tmp 32) (.tmp 33) 22 5 rfl Try.underlying22 infoB _ _ l _ _ rfl rfl rfl RO.out (Kd.C_below HL.out BB.out) BB.out (below_size BB.out) ?hl ?_; (case hl => have := HB.out; simp; omega); intro v2 w2 hR hB _ _; rw [List.nil_append] at hR; clear RO BB; obtain ⟨A1, c1, e1, hc1, hr1⟩ := r8_reads hR; subst e1; have C1 := Aside0.mk hr1; have BB := Aside0.mk hB; clear hR hB hc1 hr1) | (go_at_call 9; with_reducible refine (irx_calls A1 c1 l B d m _ C1.out (Kd.C_below HM.out BB.out) HB.out.1 HB.out.2).mono ?_; rintro e w3 ⟨v, rfl, hR, hB⟩; obtain ⟨A2, c2, e2, hc2, hr2⟩ := r8_reads hR; subst e2; have CA := Aside0.mk hr2; have n1 := Aside0.mk (below_step BB.out hB); clear BB C1; have BB := n1; clear n1 hR hB hc2 hr2) | (go_at_call 10; with_reducible refine (impl_Xor.calls (m.length + 1) A c l B d m _ true _ (Kd.C_below HL.out BB.out) HC.out (Kd.C_below HM.out BB.out) HD.out FX.out).mono ?_; rintro e w4 ⟨v, rfl, hR, hB⟩; obtain ⟨A3, c3, e3, hc3, hr3⟩ := r8_reads hR; subst e3; have CB := Aside0.mk hr3; have HC3 := Aside0.mk hc3; have n1 := Aside0.mk (below_step BB.out hB); have n2 := Aside0.mk (Kd.C_below CA.out hB); clear BB CA; have BB := n1; have CA := n2; clear n1 n2 hR hB hc3 hr3) | ((with_reducible refine gate_dst (N := 46) rfl ?_); refine lit8 w.heap.size 5 (w0 := w) rfl (N := 46) rfl [] ?hr BB.out (below_size BB.out) (by simp) ?_; (case hr => first | (go_simp; done) | (go_simp; rfl)); intro g1 w1 _ hg2 _ hR hB hB2; have FA := Aside0.mk (far_c8 CA.out hg2); have FB := Aside0.mk (far_c8 CB.out hg2); have n1 := Aside0.mk (Kd.C_below CA.out hB2); have n2 := Aside0.mk (Kd.C_below CB.out hB2); clear BB CA CB; have CA := n1; have CB := n2; have RO := Aside0.mk hR; have BB := Aside0.mk hB; clear n1 n2 hR hB hB2 hg2) | ((with_reducible refine gate_dst (N := 48) rfl ?_); refine append8 w.heap.size (w0 := w) rfl (.tmp 46) (.tmp 47) 22 5 rfl Try.underlying22 infoB _ _ l _ _ rfl rfl rfl RO.out (Kd.C_below HL.out BB.out) BB.out (below_size BB.out) ?hl ?_; (case hl => have := HB.out; simp; omega); intro v5 w5 hR hB hG _; rw [List.nil_append] at hR; have n1 := Aside0.mk (c8_grown CA.out FA.out hG); have n2 := Aside0.mk (c8_grown CB.out FB.out hG); clear RO BB CA CB FA FB; have CA := n1; have CB := n2; obtain ⟨A5, c5, e5, hc5, hr5⟩ := r8_reads hR; subst e5; have C5 := Aside0.mk hr5; have BB := Aside0.mk hB; clear n1 n2 hR hB hG hc5 hr5) | (go_at_call 11; with_reducible refine (imut_calls A5 c5 l B d m _ C5.out (Kd.C_below HM.out BB.out) HD.out HB.out.1 HB.out.2).mono ?_; rintro e w6 ⟨v, rfl, hR, hB⟩; obtain ⟨A6, c6, e6, hc6, hr6⟩ := r8_reads hR; subst e6; have CC := Aside0.mk hr6; have n1 := Aside0.mk (below_step BB.out hB); have n2 := Aside0.mk (Kd.C_below CA.out hB); have n3 := Aside0.mk (Kd.C_below CB.out hB); clear BB CA CB C5; have BB := n1; have CA := n2; have CB := n3; clear n1 n2 n3 hR hB hc6 hr6) | (go_at_call 12; with_reducible refine (spec_Xored.calls (m.length + 1) A c l B d m _ _ (Kd.C_below HL.out BB.out) HC.out (Kd.C_below HM.out BB.out) HD.out FS.out).mono ?_; rintro e w7 ⟨v, rfl, hR, hB⟩; obtain ⟨A7, c7, e7, hc7, hr7⟩ := r8_reads hR; subst e7; have CW := Aside0.mk hr7; have HC7 := Aside0.mk hc7; have n1 := Aside0.mk (below_step BB.out hB); have n2 := Aside0.mk (Kd.C_below CA.out hB); have n3 := Aside0.mk (Kd.C_below CB.out hB); have n4 := Aside0.mk (Kd.C_below CC.out hB); clear BB CA CB CC; have BB := n1; have CA := n2; have CB := n3; have CC := n4; clear n1 n2 n3 n4 hR hB hc7 hr7))
  obtain ⟨i0, hi0, _, hsz, _⟩ := info_parts infoB
  obtain ⟨k1, r1, _⟩ := print_take_of (P := Try.prog) (Value.int .u8) (0 : Int) 22 5 .i64 Try.underlying22 hi0 hsz A3 c3 (zmix l m m.length) (m.length : Int) (by omega) (by rw [hz]; have := HB.out.1; omega) HC3.out
  obtain ⟨k2, r2, _⟩ := print_take_of (P := Try.prog) (Value.int .u8) (0 : Int) 22 5 .i64 Try.underlying22 hi0 hsz A7 c7 (mix 0 l m m.length) (m.length : Int) (by omega) (by rw [hx0]; have := HB.out.1; omega) HC7.out
  rw [hz] at k1
  rw [hx0] at k2
  rw [Int.toNat_natCast] at k1 k2 r1 r2
  have r1' := fun W (h : C8 W A3 (zmix l m m.length)) => (Kd.C_of_reads (h1 := fun _ => rfl) (r1 W (Kd.reads_of_C h)) : C8 W A3 ((zmix l m m.length).take m.length))
  have r2' := fun W (h : C8 W A7 (mix 0 l m m.length)) => (Kd.C_of_reads (h1 := fun _ => rfl) (r2 W (Kd.reads_of_C h)) : C8 W A7 ((mix 0 l m m.length).take m.length))
  have R1 := Aside0.mk r1'
  have R2 := Aside0.mk r2'
  have HTK := Aside0.mk (zmix_take l m m.length HB.out.1)
  clear r1 r2 r1' r2' hi0 hsz
  have n1 := Aside0.mk (below_drew1 BB.out)
  have nCA := Aside0.mk (Kd.C_drew CA.out)
  have nCB := Aside0.mk (Kd.C_drew CB.out)
  have nCC := Aside0.mk (Kd.C_drew CC.out)
  have nCW := Aside0.mk (Kd.C_drew CW.out)
  clear BB CA CB CC CW
  have BB := n1
  have CA := nCA
  have CB := nCB
  have CC := nCC
  have CW := nCW
  clear n1 nCA nCB nCC nCW
  refine start_ (n := 22) (S := fun w' => True) (ds := []) #[false, false, false, false, false, false, false, false, false, false, false, false, false, false, false, false, false, false, false, false, false, false] (by kernel_rfl) rfl rfl trivial (fun hHeld => ?_)
  refine with_tabW tab11 bits11 (fun HT_ HW_ => ?_)
  generalize w7.drew = w7d at BB CA CB CC CW hHeld ⊢
  refine pure_ (i := 0) (N := some 73) (v := ?_) (a' := ?_) #[true, false, false, false, false, false, false, false, false, false, false, false, false, false, false, false, false, false, false, false, false, false] rfl rfl (any_of HT_.out (by kernel_rfl)) (fun _ _ _ h => h) (Or.inl ⟨by rfl, ?_⟩) ?_ ?_
  rotate_left
  · intro w'
    go_simp
    with_reducible rfl
  rotate_left
  · simp only [Act.put, List.setIfInBounds_toArray, List.set_cons_zero, List.set_cons_succ, i64_w, i32_w]
    rfl
  refine pure_ (i := 1) (N := some 74) (v := ?_) (a' := ?_) #[true, true, false, false, false, false, false, false, false, false, false, false, false, false, false, false, false, false, false, false, false, false] rfl rfl (any_of HT_.out (by kernel_rfl)) (fun _ _ _ h => h) (Or.inl ⟨by rfl, ?_⟩) ?_ ?_
  rotate_left
  · intro w'
    go_simp
    with_reducible rfl
  rotate_left
  · simp only [Act.put, List.setIfInBounds_toArray, List.set_cons_zero, List.set_cons_succ, i64_w, i32_w]
    rfl
  refine pure_ (i := 2) (N := some 75) (v := ?_) (a' := ?_) #[true, true, true, false, false, false, false, false, false, false, false, false, false, false, false, false, false, false, false, false, false, false] rfl rfl (any_of HT_.out (by kernel_rfl)) (fun _ _ _ h => h) (Or.inl ⟨by rfl, ?_⟩) ?_ ?_
  rotate_left
  · intro w'
    go_simp
    with_reducible rfl
  rotate_left
  · simp only [Act.put, List.setIfInBounds_toArray, List.set_cons_zero, List.set_cons_succ, i64_w, i32_w]
    rfl
  refine one_ (i := 3) (N := some 76) #[true, true, true, true, false, false, false, false, false, false, false, false, false, false, false, false, false, false, false, false, false, false] rfl rfl (one_of HT_.out (by kernel_rfl)) (by decide) (fun K hK => ?_)
  refine goes_ Try.func14 (by kernel_rfl) rfl #[.slice A l.length c, .slice B m.length d] (by rfl) rfl rfl (by (try simp only [List.map_toArray, List.map_cons, List.map_nil]); first | done | rfl) ?_
  with_reducible refine (spec_XoredRight.calls (m.length + 1) A c l B d m _ _ (Kd.C_below HL.out BB.out) HC.out (Kd.C_below HM.out BB.out) HD.out FR.out).mono ?_
  rintro e w8 ⟨v, rfl, hR, hB⟩
  obtain ⟨A8, c8, e8, hc8, hr8⟩ := r8_reads hR
  subst e8
  refine ⟨_, rfl, ?_⟩
  have CX := Aside0.mk hr8
  have n1 := Aside0.mk (below_step BB.out hB)
  have n2 := Aside0.mk (Kd.C_below CA.out hB)
  have n3 := Aside0.mk (Kd.C_below CB.out hB)
  have n4 := Aside0.mk (Kd.C_below CC.out hB)
  have n5 := Aside0.mk (Kd.C_below CW.out hB)
  clear BB CA CB CC CW
  have BB := n1
  have CA := n2
  have CB := n3
  have CC := n4
  have CW := n5
  clear n1 n2 n3 n4 n5 hR hB hc8 hr8
  refine hK.out _ _ trivial (fun hHeld => ?_)
  clear hK K
  refine norm_ (a' := ?_) ?_ ?_
  rotate_left
  · show Act.put _ (some 76) _ = _
    simp only [Act.put, List.setIfInBounds_toArray, List.set_cons_zero, List.set_cons_succ, i64_w, i32_w]
    rfl
  refine one_ (i := 4) (N := some 77) #[true, true, true, true, true, false, false, false, false, false, false, false, false, false, false, false, false, false, false, false, false, false] rfl rfl (one_of HT_.out (by kernel_rfl)) (by decide) (fun K hK => ?_)
  refine goes_ Try.func13 (by kernel_rfl) rfl #[.slice A2 l.length c2, .slice A8 (mix (l.length - m.length) l m m.length).length c8] (by rfl) rfl rfl (by (try simp only [List.map_toArray, List.map_cons, List.map_nil]); first | done | rfl) ?_
  with_reducible refine (same_calls CA.out CX.out rfl hx1.symm rfl).mono ?_
  rintro e w9 ⟨rfl, hB⟩
  refine ⟨_, rfl, ?_⟩
  have n1 := Aside0.mk (below_step BB.out hB)
  have n3 := Aside0.mk (Kd.C_below CB.out hB)
  have n4 := Aside0.mk (Kd.C_below CC.out hB)
  have n5 := Aside0.mk (Kd.C_below CW.out hB)
  clear BB CA CB CC CW CX
  have BB := n1
  have CB := n3
  have CC := n4
  have CW := n5
  clear n1 n3 n4 n5 hB
  refine hK.out _ _ trivial (fun hHeld => ?_)
  clear hK K
  refine norm_ (a' := ?_) ?_ ?_
  rotate_left
  · show Act.put _ (some 77) _ = _
    simp only [Act.put, List.setIfInBounds_toArray, List.set_cons_zero, List.set_cons_succ, i64_w, i32_w]
    rfl
  refine pure_ (i := 5) (N := some 78) (v := ?_) (a' := ?_) #[true, true, true, true, true, true, false, false, false, false, false, false, false, false, false, false, false, false, false, false, false, false] rfl rfl (any_of HT_.out (by kernel_rfl)) (fun _ _ _ h => h) (Or.inl ⟨by rfl, ?_⟩) ?_ ?_
  rotate_left
  · intro w'
    go_simp
    with_reducible rfl
  rotate_left
  · simp only [Act.put, List.setIfInBounds_toArray, List.set_cons_zero, List.set_cons_succ, i64_w, i32_w]
    rfl
  refine pure_ (i := 6) (N := some 79) (v := ?_) (a' := ?_) #[true, true, true, true, true, true, true, false, false, false, false, false, false, false, false, false, false, false, false, false, false, false] rfl rfl (any_of HT_.out (by kernel_rfl)) (fun _ _ _ h => h) (Or.inl ⟨by rfl, ?_⟩) ?_ ?_
  rotate_left
  · intro w'
    go_simp
    with_reducible rfl
  rotate_left
  · simp only [Act.put, List.setIfInBounds_toArray, List.set_cons_zero, List.set_cons_succ, i64_w, i32_w]
    rfl
  refine pure_ (i := 7) (N := some 80) (v := ?_) (a' := ?_) #[true, true, true, true, true, true, true, true, false, false, false, false, false, false, false, false, false, false, false, false, false, false] rfl rfl (any_of HT_.out (by kernel_rfl)) (fun _ _ _ h => h) (Or.inl ⟨by rfl, ?_⟩) ?_ ?_
  rotate_left
  · intro w'
    go_simp
    with_reducible rfl
  rotate_left
  · simp only [Act.put, List.setIfInBounds_toArray, List.set_cons_zero, List.set_cons_succ, i64_w, i32_w]
    rfl
  refine pure_ (i := 8) (N := some 81) (v := ?_) (a' := ?_) #[true, true, true, true, true, true, true, true, true, false, false, false, false, false, false, false, false, false, false, false, false, false] rfl rfl (any_of HT_.out (by kernel_rfl)) (fun _ _ _ h => h) (Or.inl ⟨by rfl, ?_⟩) ?_ ?_
  rotate_left
  · intro w'
    go_simp
    with_reducible rfl
  rotate_left
  · simp only [Act.put, List.setIfInBounds_toArray, List.set_cons_zero, List.set_cons_succ, i64_w, i32_w]
    rfl
  refine pure_ (i := 9) (N := some 82) (v := ?_) (a' := ?_) #[true, true, true, true, true, true, true, true, true, true, false, false, false, false, false, false, false, false, false, false, false, false] rfl rfl (any_of HT_.out (by kernel_rfl)) (fun _ _ _ h => h) (Or.inl ⟨by rfl, ?_⟩) ?_ ?_
  rotate_left
  · intro w'
    go_simp
    with_reducible rfl
  rotate_left
  · simp only [Act.put, List.setIfInBounds_toArray, List.set_cons_zero, List.set_cons_succ, i64_w, i32_w]
    rfl
  refine pure_ (i := 10) (N := some 83) (v := ?_) (a' := ?_) #[true, true, true, true, true, true, true, true, true, true, true, false, false, false, false, false, false, false, false, false, false, false] rfl rfl (any_of HT_.out (by kernel_rfl)) (fun _ _ _ h => h) (Or.inl ⟨by rfl, ?_⟩) ?_ ?_
  rotate_left
  · intro w'
    go_simp
    with_reducible rfl
  rotate_left
  · simp only [Act.put, List.setIfInBounds_toArray, List.set_cons_zero, List.set_cons_succ, i64_w, i32_w]
    rfl
  refine pure_ (i := 11) (N := some 84) (v := ?_) (a' := ?_) #[true, true, true, true, true, true, true, true, true, true, true, true, false, false, false, false, false, false, false, false, false, false] rfl rfl (any_of HT_.out (by kernel_rfl)) (fun _ _ _ h => h) (Or.inl ⟨by rfl, ?_⟩) ?_ ?_
  rotate_left
  · intro w'
    go_simp
    with_reducible rfl
  rotate_left
  · simp only [Act.put, List.setIfInBounds_toArray, List.set_cons_zero, List.set_cons_succ, i64_w, i32_w]
    rfl
  refine pure_ (i := 12) (N := some 85) (v := ?_) (a' := ?_) #[true, true, true, true, true, true, true, true, true, true, true, true, true, false, false, false, false, false, false, false, false, false] rfl rfl (any_of HT_.out (by kernel_rfl)) (fun _ _ _ h => h) (Or.inl ⟨by rfl, ?_⟩) ?_ ?_
  rotate_left
  · intro w'
    go_simp
    with_reducible rfl
  rotate_left
  · simp only [Act.put, List.setIfInBounds_toArray, List.set_cons_zero, List.set_cons_succ, i64_w, i32_w]
    rfl
  refine pure_ (i := 13) (N := some 86) (v := ?_) (a' := ?_) #[true, true, true, true, true, true, true, true, true, true, true, true, true, true, false, false, false, false, false, false, false, false] rfl rfl (any_of HT_.out (by kernel_rfl)) (fun _ _ _ h => h) (Or.inl ⟨by rfl, ?_⟩) ?_ ?_
  rotate_left
  · intro w'
    go_simp
    with_reducible rfl
  rotate_left
  · simp only [Act.put, List.setIfInBounds_toArray, List.set_cons_zero, List.set_cons_succ, i64_w, i32_w]
    rfl
  refine one_ (i := 14) (N := some 87) #[true, true, true, true, true, true, true, true, true, true, true, true, true, true, true, false, false, false, false, false, false, false] rfl rfl (one_of HT_.out (by kernel_rfl)) (by decide) (fun K hK => ?_)
  refine goes_ Try.func13 (by kernel_rfl) rfl #[.slice A3 (min m.length l.length) c3, .slice A7 (min m.length l.length) c7] (by rfl) rfl rfl (by (try simp only [List.map_toArray, List.map_cons, List.map_nil]); first | done | rfl) ?_
  refine (same_calls (l := (zmix l m m.length).take m.length) (l' := (mix 0 l m m.length).take m.length) (R1.out _ CB.out) (R2.out _ CW.out) HTK.out (by rw [List.length_take, hz]) (by rw [List.length_take, hx0])).mono ?_
  rintro e w10 ⟨rfl, hB⟩
  refine ⟨_, rfl, ?_⟩
  have n1 := Aside0.mk (below_step BB.out hB)
  have n4 := Aside0.mk (Kd.C_below CC.out hB)
  have n5 := Aside0.mk (Kd.C_below CW.out hB)
  clear BB CB CC CW
  have BB := n1
  have CC := n4
  have CW := n5
  clear n1 n4 n5 hB
  refine hK.out _ _ trivial (fun hHeld => ?_)
  clear hK K
  refine norm_ (a' := ?_) ?_ ?_
  rotate_left
  · show Act.put _ (some 87) _ = _
    simp only [Act.put, List.setIfInBounds_toArray, List.set_cons_zero, List.set_cons_succ, i64_w, i32_w]
    rfl
  refine pure_ (i := 15) (N := some 88) (v := ?_) (a' := ?_) #[true, true, true, true, true, true, true, true, true, true, true, true, true, true, true, true, false, false, false, false, false, false] rfl rfl (any_of HT_.out (by kernel_rfl)) (fun _ _ _ h => h) (Or.inl ⟨by rfl, ?_⟩) ?_ ?_
  rotate_left
  · intro w'
    go_simp
    with_reducible rfl
  rotate_left
  · simp only [Act.put, List.setIfInBounds_toArray, List.set_cons_zero, List.set_cons_succ, i64_w, i32_w]
    rfl
  refine pure_ (i := 16) (N := some 89) (v := ?_) (a' := ?_) #[true, true, true, true, true, true, true, true, true, true, true, true, true, true, true, true, true, false, false, false, false, false] rfl rfl (any_of HT_.out (by kernel_rfl)) (fun _ _ _ h => h) (Or.inl ⟨by rfl, ?_⟩) ?_ ?_
  rotate_left
  · intro w'
    go_simp
    with_reducible rfl
  rotate_left
  · simp only [Act.put, List.setIfInBounds_toArray, List.set_cons_zero, List.set_cons_succ, i64_w, i32_w]
    rfl
  refine pure_ (i := 17) (N := some 90) (v := ?_) (a' := ?_) #[true, true, true, true, true, true, true, true, true, true, true, true, true, true, true, true, true, true, false, false, false, false] rfl rfl (any_of HT_.out (by kernel_rfl)) (fun _ _ _ h => h) (Or.inl ⟨by rfl, ?_⟩) ?_ ?_
  rotate_left
  · intro w'
    go_simp
    with_reducible rfl
  rotate_left
  · simp only [Act.put, List.setIfInBounds_toArray, List.set_cons_zero, List.set_cons_succ, i64_w, i32_w]
    rfl
  refine pure_ (i := 18) (N := some 91) (v := ?_) (a' := ?_) #[true, true, true, true, true, true, true, true, true, true, true, true, true, true, true, true, true, true, true, false, false, false] rfl rfl (any_of HT_.out (by kernel_rfl)) (fun _ _ _ h => h) (Or.inl ⟨by rfl, ?_⟩) ?_ ?_
  rotate_left
  · intro w'
    go_simp
    with_reducible rfl
  rotate_left
  · simp only [Act.put, List.setIfInBounds_toArray, List.set_cons_zero, List.set_cons_succ, i64_w, i32_w]
    rfl
  refine one_ (i := 19) (N := some 92) #[true, true, true, true, true, true, true, true, true, true, true, true, true, true, true, true, true, true, true, true, false, false] rfl rfl (one_of HT_.out (by kernel_rfl)) (by decide) (fun K hK => ?_)
  refine goes_ Try.func13 (by kernel_rfl) rfl #[.slice A6 l.length c6, .slice A7 l.length c7] (by rfl) rfl rfl (by (try simp only [List.map_toArray, List.map_cons, List.map_nil]); first | done | rfl) ?_
  with_reducible refine (same_calls CC.out CW.out rfl hx0.symm hx0.symm).mono ?_
  rintro e w11 ⟨rfl, hB⟩
  refine ⟨_, rfl, ?_⟩
  have n1 := Aside0.mk (below_step BB.out hB)
  clear BB
  have BB := n1
  clear n1 hB
  refine hK.out _ _ trivial (fun hHeld => ?_)
  clear hK K
  refine norm_ (a' := ?_) ?_ ?_
  rotate_left
  · show Act.put _ (some 92) _ = _
    simp only [Act.put, List.setIfInBounds_toArray, List.set_cons_zero, List.set_cons_succ, i64_w, i32_w]
    rfl
  refine pure_ (i := 20) (N := some 93) (v := ?_) (a' := ?_) #[true, true, true, true, true, true, true, true, true, true, true, true, true, true, true, true, true, true, true, true, true, false] rfl rfl (any_of HT_.out (by kernel_rfl)) (fun _ _ _ h => h) (Or.inl ⟨by rfl, ?_⟩) ?_ ?_
  rotate_left
  · intro w'
    go_simp
    with_reducible rfl
  rotate_left
  · simp only [Act.put, List.setIfInBounds_toArray, List.set_cons_zero, List.set_cons_succ, i64_w, i32_w]
    rfl
  refine pure_ (i := 21) (N := some 4) (v := ?_) (a' := ?_) #[true, true, true, true, true, true, true, true, true, true, true, true, true, true, true, true, true, true, true, true, true, true] rfl rfl (any_of HT_.out (by kernel_rfl)) (fun _ _ _ h => h) (Or.inl ⟨by rfl, ?_⟩) ?_ ?_
  rotate_left
  · intro w'
    go_simp
    with_reducible rfl
  rotate_left
  · simp only [Act.put, List.setIfInBounds_toArray, List.set_cons_zero, List.set_cons_succ, i64_w, i32_w]
    rfl
  refine done_ (done_of HT_.out (by kernel_rfl)) ?_
  try go_wp2
  go_ret
  exact ⟨rfl, BB.out⟩
end Go.Proofs.Ytchihobchpipfaa.Xor
