/- The law on a notation's data, walked through its calls. -/
import Derived.Test.YtnjbgmobobffmaaNote
import Derived.Test.YtnjbgmobobffmaaSame
set_option linter.unusedVariables false
set_option linter.unusedSimpArgs false
namespace Go.Proofs.Ytnjbgmobobffmaa.Note
open Go.RowKit Go.Proofs.YtnjbgmobobffmaaW.PrintWords Go.Proofs.YtnjbgmobobffmaaW.PrintMore Go.Proofs.Ytnjbgmobobffmaa.Kit

set_option maxHeartbeats 800000 in
set_option maxRecDepth 100000 in
theorem zzData (b : Nat) (s : ByteArray) (A : Option Addr) (c : Nat) (l : List Int) (human : Bool) (w : World)
    (hp0 : w.cell? ⟨b, 0, none⟩ = some (.string s)) (hp1 : w.cell? ⟨b, 1, none⟩ = some (.slice A l.length c)) (hp3 : w.cell? ⟨b, 3, none⟩ = some (.bool human))
    (hr : C8 w A l) (hc : l.length ≤ c) (h1 : s.size ≤ 65535) (h2 : l.length ≤ 65535) :
    Calls Try.prog 26 #[.pointer (some ⟨b, 0, none⟩)] w fun e w' => ∃ v, e = .returned v ∧ R8 5 w' w.heap.size v (ntf (flag human) (bytesOf s) l) ∧ Below w.heap.size w w' := by
  have H := Aside0.mk (getData b s A c l human w hp0 hp1 hp3 hr hc h1 h2)
  clear hp0 hp1 hp3 hr hc h1 h2
  go_enter Try.func26, Try.ntmps26
  go_wp2_with (go_at_call 31; refine H.out.mono ?_; rintro e w1 ⟨v, rfl, hR, hB⟩; have R := Aside0.mk hR; have B := Aside0.mk hB; clear hR hB)
  go_ret
  exact ⟨_, rfl, R.out, B.out⟩

set_option maxHeartbeats 800000 in
set_option maxRecDepth 100000 in
theorem impl (s : ByteArray) (A : Option Addr) (c : Nat) (l : List Int) (human : Bool) (w : World)
    (hr : C8 w A l) (hc : l.length ≤ c) (h1 : s.size ≤ 65535) (h2 : l.length ≤ 65535) :
    Calls Try.prog 16 #[.string s, .slice A l.length c, .bool human] w fun e w' => ∃ v, e = .returned v ∧ R8 5 w' w.heap.size v (ntf (flag human) (bytesOf s) l) ∧ Below w.heap.size w w' := by
  have HR := Aside0.mk hr
  have HC := Aside0.mk hc
  have H1 := Aside0.mk h1
  have H2 := Aside0.mk h2
  clear hr hc h1 h2
  go_enter Try.func16, Try.ntmps16
  go_wp2_with (go_at_call 26; refine (zzData _ s A c l human _ (by simp) (by simp) (by simp) (Kd.C_alloc HR.out _) HC.out H1.out H2.out).mono ?_; rintro e w1 ⟨v, rfl, hR, hB⟩; have R := Aside0.mk (Kd.R_lower hR (by simp : w.heap.size ≤ _)); have B := Aside0.mk (below_step (below_alloc (Below.refl _ _) _) hB); clear hR hB)
  go_ret
  exact ⟨_, rfl, R.out, B.out⟩

/-- What the standard lays out is the same. -/
theorem ntf_eq (x : Int) (S l : List Int) (h1 : S.length ≤ 65535) (h2 : l.length ≤ 65535) : ([x, 0, 0, 0] ++ oct (S.length : Int) 2 ++ oct (l.length : Int) 2 ++ S) ++ l = ntf x S l := by
  have e : ∀ n : Nat, n ≤ 65535 → oct (n : Int) 2 = [(n : Int) / 256, (n : Int) % 256] := by
    intro n hn
    have : oct (n : Int) 2 = [(n : Int) / 2 ^ 8 % 256, (n : Int) / 2 ^ 0 % 256] := rfl
    rw [this]
    simp only [Int.reducePow, Int.pow_zero, Int.ediv_one]
    rw [show (n : Int) / 256 % 256 = (n : Int) / 256 by omega]
  rw [e _ h1, e _ h2]
  unfold ntf
  simp

set_option maxHeartbeats 800000 in
set_option maxRecDepth 100000 in
theorem spec_true (s : ByteArray) (A : Option Addr) (c : Nat) (l : List Int) (w : World)
    (hr : C8 w A l) (hc : l.length ≤ c) (h1 : s.size ≤ 65535) (h2 : l.length ≤ 65535) :
    Calls Try.prog 17 #[.bool true, .string s, .slice A l.length c] w fun e w' => ∃ v, e = .returned v ∧ R8 5 w' w.heap.size v (ntf 128 (bytesOf s) l) ∧ Below w.heap.size w w' := by
  have HR := Aside0.mk hr
  have HC := Aside0.mk hc
  clear hr hc
  go_enter Try.func17, Try.ntmps17
  go_wp2_with (first | ((with_reducible refine gate_dst (N := 8) rfl ?_); refine lit8 w.heap.size 5 (w0 := w) rfl (N := 8) rfl [0, 0, 0, 0] ?hr (Below.refl _ _) (Nat.le_refl _) (by simp) ?_; (case hr => first | (go_simp; done) | (go_simp; rfl)); intro g w1 hg _ _ hR hB _; have RO := Aside0.mk hR; have BB := Aside0.mk hB; have GG := Aside0.mk hg; clear hR hB hg) | ((with_reducible refine gate_store (t := 5) (p := 11) rfl ?_); refine store8 w.heap.size (w0 := w) rfl rfl 5 (.tmp 11) (.const (.int .u8 128)) rfl 5 g _ _ 0 _ _ rfl rfl infoB1 RO.out (by simp) BB.out ?_; intro w2 hR hB hG; clear RO BB; have RO := Aside0.mk hR; have BB := Aside0.mk hB; clear hR hB hG) | (go_at_call 27; refine (octets_calls _ 2 _ (by omega) (by omega) (by decide)).mono ?_; rintro e w3 ⟨v5, rfl, hR, hB⟩; obtain ⟨A5, c5, e5, hc5, hr5⟩ := r8_reads hR; subst e5; have RC := Aside0.mk hr5; have n1 := Aside0.mk (Kd.R_below RO.out hB); have n2 := Aside0.mk (below_step BB.out hB); clear RO BB; have RO := n1; have BB := n2; clear n1 n2; clear hR hB hc5 hr5) | ((with_reducible refine gate_dst (N := 16) rfl ?_); refine append8 w.heap.size (w0 := w) rfl (.tmp 12) (.tmp 15) 24 5 rfl Try.underlying24 infoB _ _ _ _ _ rfl rfl ?hm RO.out RC.out BB.out (below_size BB.out) ?hl ?_; (case hm => first | rfl | (simp [oct_length]; done)); (case hl => simp [oct_length, bytesOf_len] <;> omega); intro v6 w4 hR hB _ _; clear RO BB RC; have RO := Aside0.mk hR; have BB := Aside0.mk hB; clear hR hB) | ((with_reducible refine gate_dst (N := 21) rfl ?_); refine append8 w.heap.size (w0 := w) rfl (.tmp 17) (.tmp 20) 24 5 rfl Try.underlying24 infoB _ _ _ _ _ rfl rfl ?hm RO.out RC.out BB.out (below_size BB.out) ?hl ?_; (case hm => first | rfl | (simp [oct_length]; done)); (case hl => simp [oct_length, bytesOf_len] <;> omega); intro v6 w4 hR hB _ _; clear RO BB RC; have RO := Aside0.mk hR; have BB := Aside0.mk hB; clear hR hB) | ((with_reducible refine gate_dst (N := 24) rfl ?_); refine appstr8 w.heap.size (w0 := w) rfl (.tmp 22) (.tmp 23) 24 9 5 rfl Try.underlying24 Try.underlying9 infoB _ _ s rfl rfl RO.out BB.out (below_size BB.out) ?hl ?_; (case hl => simp [oct_length] <;> omega); intro v6 w4 hR hB _; clear RO BB; have RO := Aside0.mk hR; have BB := Aside0.mk hB; have RC := Aside0.mk (Kd.C_below HR.out hB); clear hR hB) | ((with_reducible refine gate_dst (N := 27) rfl ?_); refine append8 w.heap.size (w0 := w) rfl (.tmp 25) (.tmp 26) 24 5 rfl Try.underlying24 infoB _ _ _ _ _ rfl rfl ?hm RO.out RC.out BB.out (below_size BB.out) ?hl ?_; (case hm => first | rfl | (simp [oct_length]; done)); (case hl => simp [oct_length, bytesOf_len] <;> omega); intro v6 w4 hR hB _ _; clear RO BB RC; have RO := Aside0.mk hR; have BB := Aside0.mk hB; clear hR hB))
  go_ret
  have HF := RO.out
  refine ⟨_, rfl, ?_, BB.out⟩
  have hl := bytesOf_len s
  rw [← ntf_eq 128 (bytesOf s) l (by omega) h2, hl]
  exact HF

set_option maxHeartbeats 800000 in
set_option maxRecDepth 100000 in
theorem spec_false (s : ByteArray) (A : Option Addr) (c : Nat) (l : List Int) (w : World)
    (hr : C8 w A l) (hc : l.length ≤ c) (h1 : s.size ≤ 65535) (h2 : l.length ≤ 65535) :
    Calls Try.prog 17 #[.bool false, .string s, .slice A l.length c] w fun e w' => ∃ v, e = .returned v ∧ R8 5 w' w.heap.size v (ntf 0 (bytesOf s) l) ∧ Below w.heap.size w w' := by
  have HR := Aside0.mk hr
  have HC := Aside0.mk hc
  clear hr hc
  go_enter Try.func17, Try.ntmps17
  go_wp2_with (first | ((with_reducible refine gate_dst (N := 8) rfl ?_); refine lit8 w.heap.size 5 (w0 := w) rfl (N := 8) rfl [0, 0, 0, 0] ?hr (Below.refl _ _) (Nat.le_refl _) (by simp) ?_; (case hr => first | (go_simp; done) | (go_simp; rfl)); intro g w1 hg _ _ hR hB _; have RO := Aside0.mk hR; have BB := Aside0.mk hB; have GG := Aside0.mk hg; clear hR hB hg) | (go_at_call 27; refine (octets_calls _ 2 _ (by omega) (by omega) (by decide)).mono ?_; rintro e w3 ⟨v5, rfl, hR, hB⟩; obtain ⟨A5, c5, e5, hc5, hr5⟩ := r8_reads hR; subst e5; have RC := Aside0.mk hr5; have n1 := Aside0.mk (Kd.R_below RO.out hB); have n2 := Aside0.mk (below_step BB.out hB); clear RO BB; have RO := n1; have BB := n2; clear n1 n2; clear hR hB hc5 hr5) | ((with_reducible refine gate_dst (N := 16) rfl ?_); refine append8 w.heap.size (w0 := w) rfl (.tmp 12) (.tmp 15) 24 5 rfl Try.underlying24 infoB _ _ _ _ _ rfl rfl ?hm RO.out RC.out BB.out (below_size BB.out) ?hl ?_; (case hm => first | rfl | (simp [oct_length]; done)); (case hl => simp [oct_length, bytesOf_len] <;> omega); intro v6 w4 hR hB _ _; clear RO BB RC; have RO := Aside0.mk hR; have BB := Aside0.mk hB; clear hR hB) | ((with_reducible refine gate_dst (N := 21) rfl ?_); refine append8 w.heap.size (w0 := w) rfl (.tmp 17) (.tmp 20) 24 5 rfl Try.underlying24 infoB _ _ _ _ _ rfl rfl ?hm RO.out RC.out BB.out (below_size BB.out) ?hl ?_; (case hm => first | rfl | (simp [oct_length]; done)); (case hl => simp [oct_length, bytesOf_len] <;> omega); intro v6 w4 hR hB _ _; clear RO BB RC; have RO := Aside0.mk hR; have BB := Aside0.mk hB; clear hR hB) | ((with_reducible refine gate_dst (N := 24) rfl ?_); refine appstr8 w.heap.size (w0 := w) rfl (.tmp 22) (.tmp 23) 24 9 5 rfl Try.underlying24 Try.underlying9 infoB _ _ s rfl rfl RO.out BB.out (below_size BB.out) ?hl ?_; (case hl => simp [oct_length] <;> omega); intro v6 w4 hR hB _; clear RO BB; have RO := Aside0.mk hR; have BB := Aside0.mk hB; have RC := Aside0.mk (Kd.C_below HR.out hB); clear hR hB) | ((with_reducible refine gate_dst (N := 27) rfl ?_); refine append8 w.heap.size (w0 := w) rfl (.tmp 25) (.tmp 26) 24 5 rfl Try.underlying24 infoB _ _ _ _ _ rfl rfl ?hm RO.out RC.out BB.out (below_size BB.out) ?hl ?_; (case hm => first | rfl | (simp [oct_length]; done)); (case hl => simp [oct_length, bytesOf_len] <;> omega); intro v6 w4 hR hB _ _; clear RO BB RC; have RO := Aside0.mk hR; have BB := Aside0.mk hB; clear hR hB))
  go_ret
  have HF := RO.out
  refine ⟨_, rfl, ?_, BB.out⟩
  have hl := bytesOf_len s
  rw [← ntf_eq 0 (bytesOf s) l (by omega) h2, hl]
  exact HF

theorem spec (s : ByteArray) (A : Option Addr) (c : Nat) (l : List Int) (human : Bool) (w : World)
    (hr : C8 w A l) (hc : l.length ≤ c) (h1 : s.size ≤ 65535) (h2 : l.length ≤ 65535) :
    Calls Try.prog 17 #[.bool human, .string s, .slice A l.length c] w fun e w' => ∃ v, e = .returned v ∧ R8 5 w' w.heap.size v (ntf (flag human) (bytesOf s) l) ∧ Below w.heap.size w w' := by
  cases human
  · exact spec_false s A c l w hr hc h1 h2
  · exact spec_true s A c l w hr hc h1 h2

set_option maxHeartbeats 800000 in
set_option maxRecDepth 100000 in
theorem law_main (s : ByteArray) (A : Option Addr) (c : Nat) (l : List Int) (human : Bool) (w : World)
    (hr : C8 w A l) (hc : l.length ≤ c) (h1 : s.size ≤ 65535) (h2 : l.length ≤ 65535) :
    Calls Try.prog 6 #[.string s, .slice A l.length c, .bool human] w fun e w' => e = .returned (.bool true) ∧ Below w.heap.size w w' := by
  have HR := Aside0.mk hr
  have HC := Aside0.mk hc
  have H1 := Aside0.mk h1
  have H2 := Aside0.mk h2
  have d1 : decide (2147483647 < (s.size : Int)) = false := decide_eq_false (by omega)
  have d2 : decide (2147483647 < (l.length : Int)) = false := decide_eq_false (by omega)
  have d3 : decide (65535 < (s.size : Int)) = false := decide_eq_false (by omega)
  have d4 : decide (65535 < (l.length : Int)) = false := decide_eq_false (by omega)
  clear hr hc h1 h2
  go_enter Try.func6, Try.ntmps6
  go_wp2_with (first | (go_at_call 16; refine (impl s _ _ l human _ HR.out HC.out H1.out H2.out).mono ?_; rintro e w1 ⟨v1, rfl, hR, hB⟩; obtain ⟨A1, c1, e1, hc1, hr1⟩ := r8_reads hR; subst e1; have R1 := Aside0.mk hr1; have B1 := Aside0.mk hB; clear hR hB hc1 hr1) | (go_at_call 17; refine (spec s _ _ l human _ (Kd.C_below HR.out B1.out) HC.out H1.out H2.out).mono ?_; rintro e w2 ⟨v2, rfl, hR, hB⟩; obtain ⟨A2, c2, e2, hc2, hr2⟩ := r8_reads hR; subst e2; have R2 := Aside0.mk hr2; have R1' := Aside0.mk (Kd.C_below R1.out hB); have B2 := Aside0.mk (below_step B1.out hB); clear hR hB hc2 hr2) | (go_at_call 12; refine (same_calls R1'.out R2.out rfl rfl rfl).mono ?_; rintro e w3 ⟨rfl, hB⟩; have B3 := Aside0.mk (below_step B2.out hB); clear hB))
  go_ret
  exact ⟨rfl, B3.out⟩

set_option maxHeartbeats 800000 in
set_option maxRecDepth 100000 in
theorem law_long (s : ByteArray) (A : Option Addr) (c : Nat) (l : List Int) (human : Bool) (w : World) (h : 65535 < s.size ∨ 65535 < l.length) :
    Calls Try.prog 6 #[.string s, .slice A l.length c, .bool human] w fun e w' => e = .returned (.bool true) ∧ Below w.heap.size w w' := by
  by_cases h1 : 2147483647 < s.size
  · have d1 : decide (2147483647 < (s.size : Int)) = true := decide_eq_true (by omega)
    have d1' : decide (2147483647 < s.size) = true := decide_eq_true h1
    clear h h1
    go_enter Try.func6, Try.ntmps6
    go_wp2
    go_ret
    exact ⟨rfl, Below.refl _ _⟩
  have d1 : decide (2147483647 < (s.size : Int)) = false := decide_eq_false (by omega)
  have d1' : decide (2147483647 < s.size) = false := decide_eq_false h1
  by_cases h2 : 2147483647 < l.length
  · have d2 : decide (2147483647 < (l.length : Int)) = true := decide_eq_true (by omega)
    have d2' : decide (2147483647 < l.length) = true := decide_eq_true h2
    clear h h1 h2
    go_enter Try.func6, Try.ntmps6
    go_wp2
    go_ret
    exact ⟨rfl, Below.refl _ _⟩
  have d2 : decide (2147483647 < (l.length : Int)) = false := decide_eq_false (by omega)
  have d2' : decide (2147483647 < l.length) = false := decide_eq_false h2
  by_cases h3 : 65535 < s.size
  · have d3 : decide (65535 < (s.size : Int)) = true := decide_eq_true (by omega)
    have d3' : decide (65535 < s.size) = true := decide_eq_true h3
    clear h h1 h2 h3
    go_enter Try.func6, Try.ntmps6
    go_wp2
    go_ret
    exact ⟨rfl, Below.refl _ _⟩
  have d3 : decide (65535 < (s.size : Int)) = false := decide_eq_false (by omega)
  have d3' : decide (65535 < s.size) = false := decide_eq_false h3
  have d4 : decide (65535 < (l.length : Int)) = true := decide_eq_true (by omega)
  have d4' : decide (65535 < l.length) = true := decide_eq_true (by omega)
  clear h h1 h2 h3
  go_enter Try.func6, Try.ntmps6
  go_wp2
  go_ret
  exact ⟨rfl, Below.refl _ _⟩

theorem law (s : ByteArray) (A : Option Addr) (c : Nat) (l : List Int) (human : Bool) (w : World) (_hs : s.size ≤ 140737488351232)
    (hr : C8 w A l) (hc : l.length ≤ c) (_hm : l.length ≤ maxLen) (_hw : ∀ x ∈ l, (Lit.int .u8 x).wf = true) :
    Calls Try.prog 6 #[.string s, .slice A l.length c, .bool human] w fun e w' => e = .returned (.bool true) ∧ Below w.heap.size w w' := by
  by_cases h : 65535 < s.size ∨ 65535 < l.length
  · exact law_long s A c l human w h
  · exact law_main s A c l human w hr hc (by omega) (by omega)
end Go.Proofs.Ytnjbgmobobffmaa.Note
