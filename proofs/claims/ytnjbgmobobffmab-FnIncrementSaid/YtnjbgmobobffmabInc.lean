/- The next number of a chunk: what the program and the statement make of some bytes, walked. -/
import Derived.Test.YtnjbgmobobffmabOwn
import Derived.Test.YtnjbgmobobffmabSame
set_option linter.unusedVariables false
set_option linter.unusedSimpArgs false
namespace Go.Proofs.Ytnjbgmobobffmab.Inc
open Go.RowKit Go.Proofs.YtnjbgmobobffmabW.PrintWords Go.Proofs.YtnjbgmobobffmabW.PrintMore Go.Proofs.Ytnjbgmobobffmab.Kit

/-- The first m bytes, and zeros behind them. -/
def Z (l : List Int) (m : Nat) : List Int := l.take m ++ List.replicate (l.length - m) 0
theorem z_all (l : List Int) : l = Z l l.length := by unfold Z; rw [List.take_length, Nat.sub_self]; simp
theorem z_length (l : List Int) (m : Nat) (h : m ≤ l.length) : (Z l m).length = l.length := by
  unfold Z
  rw [List.length_append, List.length_take, List.length_replicate]; omega
theorem z_set (l : List Int) (m : Nat) (h : m < l.length) : (Z l (m + 1)).set m 0 = Z l m := by
  have hl : (l.take m).length = m := by rw [List.length_take]; omega
  unfold Z
  rw [List.take_add_one, List.getElem?_eq_getElem h, Option.toList_some, List.append_assoc, List.set_append_right _ _ (by rw [hl]; exact Nat.le_refl _), hl, Nat.sub_self]
  congr 1
  obtain ⟨d, hd⟩ : ∃ d, l.length - m = d + 1 := ⟨l.length - m - 1, by omega⟩
  rw [hd, show l.length - (m + 1) = d by omega]
  rfl
theorem z_rd (l : List Int) (m : Nat) (h : m < l.length) : rdOf 0 (Z l (m + 1)) ((m : Int)) = l.getD m 0 := by
  unfold rdOf Z
  rw [Int.toNat_natCast, List.getD_eq_getElem?_getD, List.getElem?_append_left (by rw [List.length_take]; omega), List.getElem?_take, if_pos (by omega), ← List.getD_eq_getElem?_getD]
/-- One more at the place m. -/
def up (l : List Int) (m : Nat) : List Int := (Z l (m + 1)).set m (l.getD m 0 + 1)
theorem up_length (l : List Int) (m : Nat) (h : m < l.length) : (up l m).length = l.length := by unfold up; rw [List.length_set, z_length _ _ (by omega)]

set_option maxHeartbeats 1600000 in
set_option maxRecDepth 100000 in
theorem index (b g cap base : Nat) (l : List Int) (p : Nat) (w : World) (hb : w.cell? ⟨b, 4, none⟩ = some (.slice (some ⟨g, 0, none⟩) l.length cap)) (hbg : b ≠ g)
    (hr : R8 5 w base (.slice (some ⟨g, 0, none⟩) l.length cap) l) (hl : l.length ≤ 4096) (hB : Bytes l) (hp : p < l.length) (hx : l.getD p 0 < 255) (hz : ∀ j, p < j → j < l.length → l.getD j 0 = 255) :
    Calls Try.prog 39 #[.pointer (some ⟨b, 0, none⟩)] w fun e w' => e = .returned .nilIface ∧ R8 5 w' base (.slice (some ⟨g, 0, none⟩) l.length cap) (up l p) ∧ Below base w w' := by
  have HR := Aside0.mk hr
  have HBY := Aside0.mk hB
  have HX := Aside0.mk hx
  have HZ := Aside0.mk hz
  have HG : Aside0 (base ≤ g) := ⟨Kd.R_base hr g (by simp [Value.ownBlock])⟩
  have HN := Aside0.mk hbg
  have d1 : ((l.length : Int) == 0) = false := by
    have : (l.length : Int) ≠ 0 := by omega
    simpa using this
  clear hr hB hx hz hbg
  go_enter Try.func39, Try.ntmps39
  go_wp2
  go_loopw [4] (fun i wr => ∃ m : Nat, p ≤ m ∧ m < l.length ∧ i = .int .i64 (m : Int) ∧ Aside0 (R8 5 wr base (.slice (some ⟨g, 0, none⟩) l.length cap) (Z l (m + 1))) ∧ Aside0 (Below base w wr)) (fun i _ => (intOf i).toNat)
  case atStart => exact ⟨l.length - 1, by omega, by omega, by go_num, ⟨by rw [show l.length - 1 + 1 = l.length by omega, ← z_all]; exact HR.out⟩, ⟨Below.refl _ _⟩⟩
  case round =>
    obtain ⟨m, hpm, hm, rfl, RR, BB⟩ := hrel
    obtain ⟨x, hx⟩ : ∃ x, l.getD m 0 = x := ⟨_, rfl⟩
    have hx0 := HBY.out m
    rw [hx] at hx0
    obtain ⟨hx1, hx2⟩ := hx0
    obtain ⟨hc, hf⟩ := Kd.R_cell (cap := cap) (0 : Int) (h1 := fun _ => rfl) (enc := Value.int .u8) (xs := Z l (m + 1)) (by rw [z_length _ _ (by omega)]; exact RR.out) (m : Int) (by omega) (by rw [z_length _ _ (by omega)]; omega)
    rw [z_rd _ _ hm, hx, Int.toNat_natCast] at hc
    rw [Int.toNat_natCast] at hf
    by_cases e : m = p
    · subst e
      have hlt : x < 255 := by have := HX.out; omega
      have HXE := Aside0.mk hx
      clear hx
      go_wp2
      go_ret
      refine ⟨rfl, ?_, BB.out.setCell HG.out _⟩
      have := (Kd.R_putg RR.out (m : Int) (x + 1)).1
      rw [Int.toNat_natCast] at this
      unfold up
      rw [HXE.out]
      exact this
    · have hx255 : x = 255 := by rw [← hx]; exact HZ.out m (by omega) hm
      subst hx255
      clear hx hx1 hx2
      obtain ⟨q, rfl⟩ : ∃ q, m = q + 1 := ⟨m - 1, by omega⟩
      go_wp2
      go_roundw
      case rel => exact ⟨q, by omega, by omega, by go_num, ⟨by rw [← z_set _ _ hm]; have := (Kd.R_putg RR.out ((q + 1 : Nat) : Int) 0).1; rw [Int.toNat_natCast] at this; exact this⟩, ⟨BB.out.setCell HG.out _⟩⟩
      case measure => simp [intOf] <;> omega

set_option maxHeartbeats 800000 in
set_option maxRecDepth 100000 in
theorem zzInc (g cap base : Nat) (l : List Int) (p : Nat) (w : World) (hb : base ≤ w.heap.size)
    (hr : R8 5 w base (.slice (some ⟨g, 0, none⟩) l.length cap) l) (hl : l.length ≤ 4096) (hB : Bytes l) (hp : p < l.length) (hx : l.getD p 0 < 255) (hz : ∀ j, p < j → j < l.length → l.getD j 0 = 255) :
    Calls Try.prog 30 #[.slice (some ⟨g, 0, none⟩) l.length cap] w fun e w' => e = .returned .nilIface ∧ R8 5 w' base (.slice (some ⟨g, 0, none⟩) l.length cap) (up l p) ∧ Below base w w' := by
  have hgl : g < w.heap.size := Kd.R_lt hr g (by simp [Value.ownBlock])
  have H := fun (W : World) (h1 : W.cell? ⟨w.heap.size, 4, none⟩ = some (.slice (some ⟨g, 0, none⟩) l.length cap)) (h2 : R8 5 W base (.slice (some ⟨g, 0, none⟩) l.length cap) l) => index w.heap.size g cap base l p W h1 (by omega) h2 hl hB hp hx hz
  have HH := Aside0.mk H
  have HR := Aside0.mk hr
  have HB := Aside0.mk hb
  clear H hr hB hp hx hz hl hb
  go_enter Try.func30, Try.ntmps30
  go_wp2_with (go_at_call 39; refine (HH.out _ (by simp) (Kd.R_alloc HR.out _)).mono ?_; rintro e w1 ⟨rfl, hR, hB⟩; have R1 := Aside0.mk hR; have B1 := Aside0.mk ((Below.refl _ _).alloc HB.out _ |>.trans hB); clear hR hB)
  go_ret
  exact ⟨rfl, R1.out, B1.out⟩

set_option maxHeartbeats 800000 in
set_option maxRecDepth 100000 in
theorem impl (A : Option Addr) (c : Nat) (l : List Int) (p : Nat) (w : World) (hr : C8 w A l) (hl : l.length ≤ 4096) (hB : Bytes l) (hp : p < l.length) (hx : l.getD p 0 < 255) (hz : ∀ j, p < j → j < l.length → l.getD j 0 = 255) :
    Calls Try.prog 16 #[.slice A l.length c] w fun e w' => ∃ v, e = .returned (.tuple #[v, .bool true]) ∧ R8 5 w' w.heap.size v (up l p) ∧ Below w.heap.size w w' := by
  have H := fun (g cap : Nat) (W : World) (h0 : w.heap.size ≤ W.heap.size) (h2 : R8 5 W w.heap.size (.slice (some ⟨g, 0, none⟩) l.length cap) l) => zzInc g cap w.heap.size l p W h0 h2 hl hB hp hx hz
  have HH := Aside0.mk H
  have HR := Aside0.mk hr
  have HL := Aside0.mk hl
  have HP := Aside0.mk hp
  clear H hr hB hp hx hz hl
  go_enter Try.func16, Try.ntmps16
  go_wp2_with (first | (go_at_call 27; refine (own_calls HR.out rfl (by have := HL.out; omega)).mono ?_; rintro e w1 ⟨v, rfl, hR, hB⟩; obtain ⟨g, cap, ev, hg1, hg2, hcells⟩ := Kd.R_form hR (by have := HP.out; omega); subst ev; have R1 := Aside0.mk hR; have B1 := Aside0.mk hB; clear hR hB hcells hg1 hg2) | (go_at_call 30; refine (HH.out _ _ _ B1.out.size R1.out).mono ?_; rintro e w2 ⟨rfl, hR, hB⟩; have R2 := Aside0.mk hR; have B2 := Aside0.mk (B1.out.trans hB); clear hR hB))
  go_ret2
  exact ⟨_, rfl, R2.out, B2.out⟩

theorem C_one {w : World} {A : Option Addr} {c : Nat} {l : List Int} (h : C8 w A l) (hc : l.length ≤ c) (t : Nat) :
    Kd.C (Kd.slice 5 (Kd.int .u8)) (w.alloc (.cells #[.slice A l.length c] t)) (some ⟨w.heap.size, 0, none⟩) 1 [l] := by
  refine ⟨rfl, by decide, fun _ => ⟨_, rfl, fun j p hj => ?_⟩⟩
  match j, hj with
  | 0, hj =>
    obtain rfl : l = p := by simpa using hj
    refine ⟨[.slice A l.length c], rfl, ⟨A, c, rfl, hc, Kd.C_alloc h _⟩, fun i u hu => ?_⟩
    match i, hu with
    | 0, hu =>
      obtain rfl : Value.slice A l.length c = u := by simpa using hu
      simp [Addr.add]

/-- brief of one text. -/
theorem brief_no {w : World} {B : Nat} {A : Option Addr} {c n : Nat} (hcell : w.cell? ⟨B, 0, none⟩ = some (.slice A n c)) (hb : 4096 < n) :
    Calls Try.prog 15 #[.slice (some ⟨B, 0, none⟩) 1 1] w fun e w' => e = .returned (.bool false) ∧ w = w' := by
  have d1 : decide (4096 < (n : Int)) = true := decide_eq_true (by omega)
  have d2 : decide (4096 < n) = true := decide_eq_true hb
  clear hb
  go_enter Try.func15, Try.ntmps15
  go_wp2
  go_loop [3] (fun i => i = .int .i64 0) (fun _ => 0)
  case atStart => rfl
  case round =>
    obtain rfl := hrel
    go_wp2
    go_ret
    exact ⟨rfl, rfl⟩
theorem brief_yes {w : World} {B : Nat} {A : Option Addr} {c n : Nat} (hcell : w.cell? ⟨B, 0, none⟩ = some (.slice A n c)) (hb : n ≤ 4096) :
    Calls Try.prog 15 #[.slice (some ⟨B, 0, none⟩) 1 1] w fun e w' => e = .returned (.bool true) ∧ w = w' := by
  have d1 : decide (4096 < (n : Int)) = false := decide_eq_false (by omega)
  have d2 : decide (4096 < n) = false := decide_eq_false (by omega)
  clear hb
  go_enter Try.func15, Try.ntmps15
  go_wp2
  go_loop [3] (fun i => ∃ m : Nat, m ≤ 1 ∧ i = .int .i64 (m : Int)) (fun i => 1 - (intOf i).toNat)
  case atStart => exact ⟨0, by decide, rfl⟩
  case round =>
    obtain ⟨m, hm, rfl⟩ := hrel
    match m, hm with
    | 0, _ =>
      go_wp2
      go_round
      case rel => exact ⟨1, by decide, by go_num⟩
      case measure => simp [intOf]
    | 1, _ =>
      go_wp2
      go_ret
      exact ⟨rfl, rfl⟩


set_option maxHeartbeats 1600000 in
set_option maxRecDepth 100000 in
theorem law_main (A : Option Addr) (c : Nat) (l : List Int) (w : World) (hr : C8 w A l) (hc : l.length ≤ c) (h1 : 0 < l.length) (h2 : l.length ≤ 4096) (hB : Bytes l) :
    Calls Try.prog 4 #[.slice A l.length c] w fun e w' => e = .returned (.bool true) ∧ Below w.heap.size w w' := by
  have HR := Aside0.mk hr
  have HC := Aside0.mk hc
  have HBY := Aside0.mk hB
  have HL := Aside0.mk h2
  have d1 : decide (2147483647 < (l.length : Int)) = false := decide_eq_false (by omega)
  have d2 : ((l.length : Int) == 0) = false := by
    have : (l.length : Int) ≠ 0 := by omega
    simpa using this
  clear hr hc hB
  go_enter Try.func4, Try.ntmps4
  go_wp2_with (first | (go_at_call 15; refine (brief_yes (A := A) (c := c) (n := l.length) (by simp) HL.out).mono ?_; rintro e w' ⟨rfl, rfl⟩) | ((with_reducible refine gate_dst (N := 19) rfl ?_); refine lit8 w.heap.size 5 (w0 := w) rfl (N := 19) rfl [] ?hr (below_alloc (Below.refl _ _) _) (by simp) (by simp) ?_; (case hr => first | (go_simp; done) | (go_simp; rfl)); intro g0 w1 _ _ _ hR hB _; have RO := Aside0.mk hR; have BB := Aside0.mk hB; clear hR hB) | ((with_reducible refine gate_dst (N := 21) rfl ?_); refine append8 w.heap.size (w0 := w) rfl (.tmp 19) (.tmp 20) 25 5 rfl Try.underlying25 infoB _ _ l _ _ rfl rfl rfl RO.out (Kd.C_below HR.out BB.out) BB.out (below_size BB.out) ?hl ?_; (case hl => have := HL.out; simp; omega); intro v2 w2 hR hB _ _; rw [List.nil_append] at hR; obtain ⟨g, cap, ev, hg1, hg2, hcells⟩ := Kd.R_form hR h1; subst ev; clear RO BB; have RO := Aside0.mk hR; have BB := Aside0.mk hB; clear hR hB hcells hg1 hg2))
  have HG : Aside0 (w.heap.size ≤ g) := ⟨Kd.R_base RO.out g (by simp [Value.ownBlock])⟩
  go_loopw [4] (fun i wr => ∃ m : Nat, m ≤ l.length ∧ i = .int .i64 ((m : Int) - 1) ∧ Aside0 (∀ j, m ≤ j → j < l.length → l.getD j 0 = 255) ∧ Aside0 (R8 5 wr w.heap.size (.slice (some ⟨g, 0, none⟩) l.length cap) (Z l m)) ∧ Aside0 (Below w.heap.size w wr)) (fun i _ => (intOf i + 1).toNat)
  case atStart => exact ⟨l.length, Nat.le_refl _, rfl, ⟨fun j h1 h2 => by omega⟩, ⟨by rw [← z_all]; exact RO.out⟩, BB⟩
  case round =>
    clear RO BB
    obtain ⟨m, hm, rfl, HZ, RO, BB⟩ := hrel
    cases m with
    | zero =>
      go_wp2
      go_ret
      exact ⟨rfl, BB.out⟩
    | succ m =>
      obtain ⟨x, hx⟩ : ∃ x, l.getD m 0 = x := ⟨_, rfl⟩
      have hx0 := HBY.out m
      rw [hx] at hx0
      obtain ⟨hx1, hx2⟩ := hx0
      obtain ⟨hcl, hf⟩ := Kd.R_cell (cap := cap) (0 : Int) (h1 := fun _ => rfl) (enc := Value.int .u8) (xs := Z l (m + 1)) (by rw [z_length _ _ (by omega)]; exact RO.out) (m : Int) (by omega) (by rw [z_length _ _ (by omega)]; omega)
      rw [z_rd _ _ (by omega), hx, Int.toNat_natCast] at hcl
      rw [Int.toNat_natCast] at hf
      rw [show ((m + 1 : Nat) : Int) - 1 = (m : Int) by omega]
      by_cases e : x = 255
      · subst e
        clear hx1 hx2
        have HXE := Aside0.mk hx
        clear hx
        go_wp2
        go_roundw
        case rel => exact ⟨m, by omega, by go_num, ⟨fun j h1 h2 => by
          by_cases hj : j = m
          · rw [hj]; exact HXE.out
          · exact HZ.out j (by omega) h2⟩, ⟨by rw [← z_set _ _ (by omega)]; have := (Kd.R_putg RO.out (m : Int) 0).1; rw [Int.toNat_natCast] at this; exact this⟩, ⟨BB.out.setCell HG.out _⟩⟩
        case measure => simp [intOf] <;> omega
      · have hlt : x < 255 := by omega
        have HXE := Aside0.mk hx
        have HM : Aside0 (m < l.length) := ⟨by omega⟩
        clear hx
        have hru : R8 5 (wr.setCell ⟨g, m, none⟩ (.int .u8 (x + 1))) w.heap.size (.slice (some ⟨g, 0, none⟩) l.length cap) (up l m) := by
          have := (Kd.R_putg RO.out (m : Int) (x + 1)).1
          rw [Int.toNat_natCast] at this
          unfold up
          rw [HXE.out]
          exact this
        have CU : Aside0 (C8 (wr.setCell ⟨g, m, none⟩ (.int .u8 (x + 1))) (some ⟨g, 0, none⟩) (up l m)) := ⟨(Kd.R_reads' hru).2.2⟩
        have BU := Aside0.mk (BB.out.setCell (p := ⟨g, m, none⟩) HG.out (.int .u8 (x + 1)))
        have HI := Aside0.mk (fun (B : Option Addr) (d : Nat) (W : World) (h : C8 W B l) => impl B d l m W h HL.out HBY.out HM.out (by rw [HXE.out]; exact hlt) (fun j h1 h2 => HZ.out j (by omega) h2))
        clear hru RO BB HZ
        go_wp2_with (first | ((with_reducible refine gate_dst (N := 48) rfl ?_); refine lit8 w.heap.size 5 (w0 := w) rfl (N := 48) rfl [] ?hr BU.out (below_size BU.out) (by simp) ?_; (case hr => first | (go_simp; done) | (go_simp; rfl)); intro g1 w3 _ hg2 _ hR hB hB2; have FU := Aside0.mk (far_c8 CU.out hg2); have n1 := Aside0.mk (Kd.C_below CU.out hB2); clear CU BU; have CU := n1; have RO := Aside0.mk hR; have BU := Aside0.mk hB; clear n1 hR hB hB2 hg2) | ((with_reducible refine gate_dst (N := 50) rfl ?_); refine append8 w.heap.size (w0 := w) rfl (.tmp 48) (.tmp 49) 25 5 rfl Try.underlying25 infoB _ _ l _ _ rfl rfl rfl RO.out (Kd.C_below HR.out BU.out) BU.out (below_size BU.out) ?hl ?_; (case hl => have := HL.out; simp; omega); intro v4 w4 hR hB hG _; have n1 := Aside0.mk (c8_grown CU.out FU.out hG); clear CU BU RO; have CU := n1; have BU := Aside0.mk hB; rw [List.nil_append] at hR; obtain ⟨A5, c5, e5, hc5, hr5⟩ := r8_reads hR; subst e5; have C5 := Aside0.mk hr5; clear n1 hR hB hG hc5 hr5) | (go_at_call 16; refine (HI.out _ _ _ C5.out).mono ?_; rintro e w5 ⟨v5, rfl, hR, hB⟩; obtain ⟨A6, c6, e6, hc6, hr6⟩ := r8_reads hR; subst e6; have C6 := Aside0.mk hr6; have n1 := Aside0.mk (Kd.C_below CU.out hB); have n2 := Aside0.mk (below_step BU.out hB); clear CU BU; have CU := n1; have BU := n2; clear n1 n2 hR hB hc6 hr6) | (go_at_call 14; refine (same_calls C6.out CU.out rfl rfl (up_length _ _ HM.out).symm).mono ?_; rintro e w6 ⟨rfl, hB⟩; have n2 := Aside0.mk (below_step BU.out hB); clear BU; have BU := n2; clear n2 hB))
        go_ret
        exact ⟨rfl, BU.out⟩

set_option maxHeartbeats 800000 in
set_option maxRecDepth 100000 in
theorem law_big (A : Option Addr) (c : Nat) (l : List Int) (w : World) (h : 2147483647 < l.length) :
    Calls Try.prog 4 #[.slice A l.length c] w fun e w' => e = .returned (.bool true) ∧ Below w.heap.size w w' := by
  have d1 : decide (2147483647 < (l.length : Int)) = true := decide_eq_true (by omega)
  have d1' : decide (2147483647 < l.length) = true := decide_eq_true h
  clear h
  go_enter Try.func4, Try.ntmps4
  go_wp2
  go_ret
  exact ⟨rfl, Below.refl _ _⟩

set_option maxHeartbeats 800000 in
set_option maxRecDepth 100000 in
theorem law_none (A : Option Addr) (c : Nat) (w : World) :
    Calls Try.prog 4 #[.slice A 0 c] w fun e w' => e = .returned (.bool true) ∧ Below w.heap.size w w' := by
  go_enter Try.func4, Try.ntmps4
  go_wp2
  go_ret
  exact ⟨rfl, Below.refl _ _⟩

set_option maxHeartbeats 800000 in
set_option maxRecDepth 100000 in
theorem law_long (A : Option Addr) (c : Nat) (l : List Int) (w : World) (h1 : l.length ≤ 2147483647) (h2 : 4096 < l.length) :
    Calls Try.prog 4 #[.slice A l.length c] w fun e w' => e = .returned (.bool true) ∧ Below w.heap.size w w' := by
  have H2 := Aside0.mk h2
  have d1 : decide (2147483647 < (l.length : Int)) = false := decide_eq_false (by omega)
  have d2 : ((l.length : Int) == 0) = false := by
    have : (l.length : Int) ≠ 0 := by omega
    simpa using this
  clear h1 h2
  go_enter Try.func4, Try.ntmps4
  go_wp2_with (go_at_call 15; refine (brief_no (A := A) (c := c) (n := l.length) (by simp) H2.out).mono ?_; rintro e w' ⟨rfl, rfl⟩)
  go_ret
  exact ⟨rfl, below_alloc (Below.refl _ _) _⟩

theorem law (A : Option Addr) (c : Nat) (l : List Int) (w : World) (hr : C8 w A l) (hc : l.length ≤ c) (_hm : l.length ≤ maxLen) (hw : ∀ x ∈ l, (Lit.int .u8 x).wf = true) :
    Calls Try.prog 4 #[.slice A l.length c] w fun e w' => e = .returned (.bool true) ∧ Below w.heap.size w w' := by
  by_cases h0 : 2147483647 < l.length
  · exact law_big A c l w h0
  by_cases h1 : l.length = 0
  · rw [h1]; exact law_none A c w
  by_cases h2 : 4096 < l.length
  · exact law_long A c l w (by omega) h2
  exact law_main A c l w hr hc (by omega) (by omega) (bytes_of hw)
end Go.Proofs.Ytnjbgmobobffmab.Inc
