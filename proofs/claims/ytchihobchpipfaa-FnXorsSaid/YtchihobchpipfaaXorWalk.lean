/- The law FnXors, walked. -/
import Derived.Test.YtchihobchpipfaaXor0
import Derived.Test.YtchihobchpipfaaBrief
import Derived.Deep.RegionWith
set_option linter.unusedVariables false
set_option linter.unusedSimpArgs false
namespace Go.Proofs.Ytchihobchpipfaa.Xor
open Go.RowKit Go.Proofs.YtchihobchpipfaaW.PrintWords Go.Proofs.YtchihobchpipfaaW.PrintLast Go.Proofs.YtchihobchpipfaaW.PrintMore Go.Proofs.Ytchihobchpipfaa.Kit Go.Proofs.Ytchihobchpipfaa.PFnXors

theorem addr_facts (o k n m : Nat) (h : n = o + m) (hb : n ≤ 4096) (hk : k < m) :
    wrap64 ((o : Int) + (k : Int)) = (o : Int) + (k : Int) ∧ (o : Int) + (k : Int) < (n : Int) ∧ (0 : Int) ≤ (o : Int) + (k : Int) ∧ ((o : Int) + (k : Int)).toNat = o + k ∧ IntKind.i64.wrap ((o : Int) + (k : Int)) = (o : Int) + (k : Int) := by
  have f1 : wrap64 ((o : Int) + (k : Int)) = (o : Int) + (k : Int) := wrap64_id (by omega) (by omega)
  exact ⟨f1, by omega, by omega, by omega, (i64_w _).trans f1⟩

set_option maxHeartbeats 1600000 in
set_option maxRecDepth 100000 in
theorem rx_calls (A : Option Addr) (c : Nat) (l : List Int) (B : Option Addr) (d : Nat) (m : List Int) (w : World) (hl : C8 w A l) (hm : C8 w B m) (hle : m.length ≤ l.length) (hb : l.length ≤ 4096) :
    Calls Try.prog 25 #[.slice A l.length c, .slice B m.length d] w fun e w' => ∃ v, e = .returned v ∧ R8 5 w' w.heap.size v (mix (l.length - m.length) l m m.length) ∧ Below w.heap.size w w' := by
  obtain ⟨o, ho⟩ : ∃ o, l.length = o + m.length := ⟨l.length - m.length, by omega⟩
  have e0 : l.length - m.length = o := by omega
  have e3 : (l.length : Int) - (m.length : Int) = (o : Int) := by omega
  have e1 : wrap64 (o : Int) = (o : Int) := wrap64_id (by omega) (by omega)
  rw [e0]
  have HL := Aside0.mk hl
  have HM := Aside0.mk hm
  have HB := Aside0.mk (show m.length ≤ l.length ∧ l.length ≤ 4096 ∧ l.length = o + m.length from ⟨hle, hb, ho⟩)
  clear hl hm hle hb e0 ho
  go_enter Try.func25, Try.ntmps25
  go_wp2_with (first | ((with_reducible refine gate_dst (N := 15) rfl ?_); refine make8 w.heap.size (w0 := w) rfl (N := 15) rfl 22 5 (.tmp 14) (.tmp 14) rfl l.length rfl rfl rfl Try.underlying22 infoB (by have := HB.out; omega) (Below.refl _ _) (Nat.le_refl _) ?_; intro g w1 hg _ _ hR hB1 _; have R1 := Aside0.mk hR; have B1 := Aside0.mk hB1; have G1 := Aside0.mk hg; clear hR hB1 hg) | ((with_reducible refine gate_dst (N := 18) rfl ?_); go_loud (refine copy8 w.heap.size (w0 := w) rfl (.tmp 16) (.tmp 17) 22 22 5 rfl Try.underlying22 infoB g l.length l.length 0 l.length l.length (List.replicate l.length 0) l A (some ⟨g, 0, none⟩) c rfl (fun _ => rfl) rfl rfl R1.out (Kd.C_below HL.out B1.out) (by omega) B1.out (below_size B1.out) ?_); intro w2 hR hB1 _; have R2 := Aside0.mk (show R8 5 w2 w.heap.size (.slice (some ⟨g, 0, none⟩) l.length l.length) (mix o l m 0) by simpa [mix] using hR); have B2 := Aside0.mk hB1; clear hR hB1 R1 B1))
  go_loopw [7] (fun i wr => ∃ k : Nat, k ≤ m.length ∧ i = .int .i64 (k : Int) ∧ Aside0 (R8 5 wr w.heap.size (.slice (some ⟨g, 0, none⟩) l.length l.length) (mix o l m k)) ∧ Aside0 (Below w.heap.size w wr)) (fun i _ => m.length - (intOf i).toNat)
  case atStart => exact ⟨0, Nat.zero_le _, rfl, R2, B2⟩
  case round =>
    clear R2 B2
    obtain ⟨k, hk, rfl, HR, HBl⟩ := hrel
    by_cases hlt : k < m.length
    · have hbb := HB.out
      obtain ⟨hx, hf⟩ := Kd.R_cell (cap := l.length) (0 : Int) (h1 := fun _ => rfl) (enc := Value.int .u8) (xs := mix o l m k) (by rw [mix_length]; exact HR.out) ((o + k : Nat) : Int) (by omega) (by rw [mix_length]; omega)
      rw [Int.toNat_natCast] at hx hf
      rw [show rdOf 0 (mix o l m k) ((o + k : Nat) : Int) = l.getD (o + k) 0 by unfold rdOf; rw [Int.toNat_natCast]; exact mix_getD o l m (o + k) k (Nat.le_refl _)] at hx
      obtain ⟨bd, rfl, hy⟩ := Kd.at_int (Kd.C_below HM.out HBl.out) (k : Int) (by omega) (by omega)
      rw [Int.toNat_natCast, rd_nat] at hy
      obtain ⟨xv, hxv⟩ : ∃ xv, l.getD (o + k) 0 = xv := ⟨_, rfl⟩
      obtain ⟨yv, hyv⟩ : ∃ yv, m.getD k 0 = yv := ⟨_, rfl⟩
      rw [hxv] at hx
      rw [hyv] at hy
      have HXV := Aside0.mk hxv
      have HYV := Aside0.mk hyv
      obtain ⟨f1, f2, f3, f4, f5⟩ := addr_facts o k l.length m.length hbb.2.2 hbb.2.1 hlt
      have hmm : m.length ≤ 4096 := Nat.le_trans hbb.1 hbb.2.1
      clear hxv hyv hbb
      go_wp2
      go_still_tail 12, (by kernel_rfl)
      change wpList _ _ _ _ _ wr.drew
      go_wp2
      clear f1 f2 f3 f4 f5
      go_roundw
      case rel =>
        refine ⟨k + 1, hlt, by go_num, ⟨?_⟩, ⟨?_⟩⟩
        · have := (Kd.R_putg (Kd.R_drew HR.out) ((o + k : Nat) : Int) (Go.bits .xor .u8 xv yv)).1
          rw [Int.toNat_natCast] at this
          rw [mix, HXV.out, HYV.out]
          exact this
        · exact (below_drew HBl.out).setCell G1.out _
      case measure => simp [intOf]; omega
    · go_wp2
      go_ret
      obtain rfl : k = m.length := by omega
      exact ⟨_, rfl, HR.out, HBl.out⟩

set_option maxHeartbeats 800000 in
set_option maxRecDepth 100000 in
theorem irx_calls (A : Option Addr) (c : Nat) (l : List Int) (B : Option Addr) (d : Nat) (m : List Int) (w : World) (hl : C8 w A l) (hm : C8 w B m) (hle : m.length ≤ l.length) (hb : l.length ≤ 4096) :
    Calls Try.prog 9 #[.slice A l.length c, .slice B m.length d] w fun e w' => ∃ v, e = .returned (.tuple #[v, .bool true]) ∧ R8 5 w' w.heap.size v (mix (l.length - m.length) l m m.length) ∧ Below w.heap.size w w' := by
  have H := Aside0.mk (rx_calls A c l B d m w hl hm hle hb)
  have d1 : decide ((l.length : Int) < (m.length : Int)) = false := decide_eq_false (by omega)
  have d1' : decide (l.length < m.length) = false := decide_eq_false (by omega)
  clear hl hm hle hb
  go_enter Try.func9, Try.ntmps9
  go_wp2_with (go_at_call 25; refine H.out.mono ?_; rintro e w1 ⟨v, rfl, hR, hB⟩; have R1 := Aside0.mk hR; have B1 := Aside0.mk hB; clear hR hB)
  go_ret2
  exact ⟨_, rfl, R1.out, B1.out⟩

set_option maxHeartbeats 800000 in
set_option maxRecDepth 100000 in
theorem imut_calls (A : Option Addr) (c : Nat) (l : List Int) (B : Option Addr) (d : Nat) (m : List Int) (w : World) (hl : C8 w A l) (hm : C8 w B m) (hd : m.length ≤ d) (hle : m.length ≤ l.length) (hb : l.length ≤ 4096) :
    Calls Try.prog 11 #[.slice A l.length c, .slice B m.length d] w fun e w' => ∃ v, e = .returned (.tuple #[v, .bool true]) ∧ R8 5 w' w.heap.size v (mix 0 l m m.length) ∧ Below w.heap.size w w' := by
  have HL := Aside0.mk hl
  have HM := Aside0.mk hm
  have HD := Aside0.mk hd
  have HB := Aside0.mk (show m.length ≤ l.length ∧ l.length ≤ 4096 from ⟨hle, hb⟩)
  have HF := Aside0.mk (mut_f l m hle (by omega))
  have d1 : decide ((l.length : Int) < (m.length : Int)) = false := decide_eq_false (by omega)
  have d1' : decide (l.length < m.length) = false := decide_eq_false (by omega)
  clear hl hm hle hb hd
  go_enter Try.func11, Try.ntmps11
  go_wp2_with (first | (go_at_call 27; refine (own_calls HL.out rfl (by have := HB.out; omega)).mono ?_; rintro e w1 ⟨v1, rfl, hR, hB⟩; obtain ⟨Ao, co, ev, _, _⟩ := r8_reads hR; subst ev; have R1 := Aside0.mk hR; have B1 := Aside0.mk hB; clear hR hB) | (go_at_call 28; refine (byteutil_XorBytesMut.calls (m.length + 1) (fun k_ => some k_ = (.slice Ao l.length co : Value).ownBlock) (.slice Ao l.length co) l B d m _ w _ B1.out ?own ?reads HD.out HF.out).mono ?_; (case own => exact Kd.R_tight rfl R1.out); (case reads => exact Kd.C_kept_came (Kd.heap_int .u8) HM.out B1.out (fun k_ hs_ => (fun e_ => Kd.R_base R1.out k_ e_.symm) hs_)); rintro e w2 ⟨rfl, hR, hB, _⟩; have R2 := Aside0.mk (Kd.R_mono hR (fun _ _ => trivial)); have B2 := Aside0.mk hB; clear hR hB))
  go_ret2
  exact ⟨_, rfl, R2.out, B2.out⟩

end Go.Proofs.Ytchihobchpipfaa.Xor
