/- laws.FnMarker. -/
import Derived.Test.YtfhefoaieefnkaaDoorHdr
import Derived.Test.YtfhefoaieefnkaaDoorMkr
import Derived.Test.YtfhefoaieefnkaaDoorRpk
import Derived.Test.YtfhefoaieefnkaaDoorWGuard
set_option linter.unusedVariables false
set_option linter.unusedSimpArgs false
namespace Go.Proofs.YtfhefoaieefnkaaDoor.Rd
open Go.RowKit Go.Proofs.YtfhefoaieefnkaaDoorW.PrintWords Go.Proofs.YtfhefoaieefnkaaDoorW.PrintMore Go.Proofs.YtfhefoaieefnkaaDoor.Kit Go.Proofs.YtfhefoaieefnkaaDoor.PFnMarker

theorem rp_eval : spec_ReadPacket.f 9 [202, 3, 80, 71, 80] = some (10, [80, 71, 80], 5, 0) := by decide +kernel
theorem pgp_str : strOfNums [80, 71, 80] = (⟨#[80, 71, 80]⟩ : ByteArray) := by rfl
theorem pgp_eq : ((⟨#[80, 71, 80]⟩ : ByteArray).toList == ([80, 71, 80] : List UInt8)) = true := by first | kernel_rfl | decide +kernel | (simp [ByteArray.toList]; done)
/-- []byte{}. -/
theorem emp8 (w : World) : R8 5 (w.alloc (.cells #[] 5)) w.heap.size (.slice (some ⟨w.heap.size, 0, none⟩) 0 0) [] ∧ Below w.heap.size w (w.alloc (.cells #[] 5)) :=
  ⟨Kd.R_of_own (own_lit w w.heap.size 5 .u8 [] (Nat.le_refl _) (by simp)) (fun _ _ => trivial), below_alloc (Below.refl _ _) _⟩
theorem pgp_bytes : Bytes [80, 71, 80] := by
  intro i
  match i with
  | 0 => decide
  | 1 => decide
  | 2 => decide
  | i + 3 => simp
set_option maxRecDepth 100000 in
theorem mk_big (A : Option Addr) (c : Nat) (l : List Int) (w : World) (hr : C8 w A l) (hc : l.length ≤ c) (hm : l.length ≤ maxLen) (hw : ∀ x ∈ l, (Lit.int .u8 x).wf = true) (hz : 2147483647 < l.length) :
    Calls Tryd.prog 9 #[.slice A l.length c] w fun e w' => e = .returned (.bool true) ∧ Below w.heap.size w w' := by
  clear hw
  go_enter Tryd.func9, Tryd.ntmps9
  go_wp2_with fail
  go_ret
  exact ⟨rfl, Below.refl _ _⟩
set_option maxHeartbeats 3200000 in
set_option maxRecDepth 100000 in
theorem mk_eof (A : Option Addr) (c : Nat)  (w : World) (hr : C8 w A ([])) (hc : (([]) : List Int).length ≤ c) (hw : ∀ u ∈ ([] : List Int), (Lit.int .u8 u).wf = true) (n : Nat) (hnn : n = (([]) : List Int).length) (hz : ¬ 2147483647 < n) {aE aU : Addr} (hE : Env w w.heap.size aE aU)  :
    Calls Tryd.prog 9 #[.slice A n c] w fun e w' => e = .returned (.bool true) ∧ Below w.heap.size w w' := by
  have HB := Aside0.mk (show Bytes ([]) from bytes_of hw)
  have HR := Aside0.mk hr
  have HC := Aside0.mk hc
  have HE := Aside0.mk hE
  have HN := Aside0.mk hnn
  have n3 : ¬ 3 ≤ n := by (try simp at hnn); omega



  clear hw hr hE hc hnn
  go_enter Tryd.func9, Tryd.ntmps9
  go_wp2_with (first | (go_at_call 34; (with_reducible refine (wmk_calls w).mono ?_); rintro en w1 ⟨v, rfl, hR, hB⟩; obtain ⟨A1, c1, e1, hc1, hC1⟩ := r8_reads hR; obtain ⟨n1, en1⟩ : ∃ n, n = ([202, 3, 80, 71, 80] : List Int).length := ⟨_, rfl⟩; rw [← en1] at e1; subst e1; have N1 := Aside0.mk en1; have C1 := Aside0.mk hC1; have D1 := Aside0.mk hc1; have B1 := Aside0.mk hB; clear hR hC1 hc1 hB en1) | (go_at_call 33; ((rw [N1.out]); (refine (spec_ReadPacket.calls 9 A1 c1 [202, 3, 80, 71, 80] _ _ _ _ _ C1.out D1.out rp_eval).mono ?_); rintro en w2 ⟨v2, rfl, hR, hB⟩; obtain ⟨A2, c2, e2, hc2, hC2⟩ := r8_reads hR; subst e2; have C2 := Aside0.mk hC2; have D2 := Aside0.mk hc2; have B2 := Aside0.mk (below_then B1.out B1.out.size hB); clear hR hC2 hc2 hB)) | (go_at_call 34; ((with_reducible refine (wmk_calls (w2.alloc (.cells #[.int .i64 10, .slice A2 3 c2] 60))).mono ?_); rintro en w3 ⟨v3, rfl, hR, hB⟩; obtain ⟨A3, c3', e3, _, _⟩ := r8_reads hR; subst e3; have hB0 : Below w2.heap.size w2 (w2.alloc (.cells #[.int .i64 10, .slice A2 3 c2] 60)) := below_alloc (Below.refl _ _) _; have p0 : w3.cell? ⟨w2.heap.size, 0, none⟩ = some (.int .i64 10) := (hB.cell (by simp)).trans (by simp [go_sem]); have p1 : w3.cell? ⟨w2.heap.size, 1, none⟩ = some (.slice A2 3 c2) := (hB.cell (by simp)).trans (by simp [go_sem]); have cs : (convert 22 9 (.slice A2 3 c2)).run Tryd.prog w3 = .ok (.string ⟨#[80, 71, 80]⟩) w3 := (by have q := Kd.C_string (P := Tryd.prog) (c := c2) Tryd.underlying22 Tryd.underlying5 Tryd.underlying9 (Kd.C_below C2.out (below_then hB0 hB0.size hB)); rw [pgp_str] at q; exact q); have hcv := Lib.run_convert_bytes_const (P := Tryd.prog) w3 22 5 #[.int .u8 80, .int .u8 71, .int .u8 80] 3 3 Tryd.underlying22 Tryd.underlying5; have B3 := Aside0.mk (below_then B2.out B2.out.size (below_then hB0 hB0.size hB)); clear hR hB hB0)) | (go_at_call 35; (clear hcv; have hB4 := below_then B3.out B3.out.size (lit3 w3 80 71 80).2; refine (rm_ok (x := 80) (y := 71) (z := 80) (t := []) (lit3 w3 80 71 80).1 (Nat.le_refl _) pgp_bytes ((HE.out.below hB4).up hB4.size) pgp_str pgp_eq (n := 3) rfl).mono ?_; rintro en w5 ⟨rfl, hB⟩; have hB5 := below_then hB4 hB4.size hB; have B5 := Aside0.mk hB5; clear hB4 hB hB5))| ((with_reducible refine gate_dst (N := 54) rfl ?_); (try (refine gate_guard (by rfl) ?_; dsimp only)); refine append8 w5.heap.size (w0 := w5) rfl (.tmp 52) (.tmp 53) 22 5 rfl Tryd.underlying22 infoB (.slice (some ⟨w5.heap.size, 0, none⟩) 0 0) [] ([]) A c rfl rfl HN.out (emp8 w5).1 (Kd.C_below HR.out (below_then B5.out B5.out.size (emp8 w5).2)) (emp8 w5).2 (emp8 w5).2.size ?hl ?_; (case hl => first | (simp; done) | (rw [← HN.out]; simp; omega)); intro v6 w6 hR hB _ _; rw [List.nil_append] at hR; obtain ⟨A6, c6, e6, hc6, hC6⟩ := r8_reads hR; rw [← HN.out] at e6; subst e6; have C6 := Aside0.mk hC6; have D6 := Aside0.mk hc6; have B6 := Aside0.mk (below_then B5.out B5.out.size hB); clear hR hB hC6 hc6) | (go_at_call 35; ((with_reducible refine (rm_eof C6.out D6.out HB.out ((HE.out.below B6.out).up B6.out.size)  HN.out).mono ?_); rintro en w7 ⟨rfl, hB⟩; have B7 := Aside0.mk (below_then B6.out B6.out.size hB); clear hB)))
  go_ret
  exact ⟨rfl, B7.out⟩
set_option maxHeartbeats 3200000 in
set_option maxRecDepth 100000 in
theorem mk_cut (A : Option Addr) (c : Nat) (l : List Int) (w : World) (hr : C8 w A (l)) (hc : ((l) : List Int).length ≤ c) (hw : ∀ u ∈ (l : List Int), (Lit.int .u8 u).wf = true) (n : Nat) (hnn : n = ((l) : List Int).length) (hz : ¬ 2147483647 < n) {aE aU : Addr} (hE : Env w w.heap.size aE aU) (hl : 0 < l.length) (hl3 : l.length < 3) :
    Calls Tryd.prog 9 #[.slice A n c] w fun e w' => e = .returned (.bool true) ∧ Below w.heap.size w w' := by
  have HB := Aside0.mk (show Bytes (l) from bytes_of hw)
  have HR := Aside0.mk hr
  have HC := Aside0.mk hc
  have HE := Aside0.mk hE
  have HN := Aside0.mk hnn
  have n3 : ¬ 3 ≤ n := by (try simp at hnn); omega



  clear hw hr hE hc hnn
  go_enter Tryd.func9, Tryd.ntmps9
  go_wp2_with (first | (go_at_call 34; (with_reducible refine (wmk_calls w).mono ?_); rintro en w1 ⟨v, rfl, hR, hB⟩; obtain ⟨A1, c1, e1, hc1, hC1⟩ := r8_reads hR; obtain ⟨n1, en1⟩ : ∃ n, n = ([202, 3, 80, 71, 80] : List Int).length := ⟨_, rfl⟩; rw [← en1] at e1; subst e1; have N1 := Aside0.mk en1; have C1 := Aside0.mk hC1; have D1 := Aside0.mk hc1; have B1 := Aside0.mk hB; clear hR hC1 hc1 hB en1) | (go_at_call 33; ((rw [N1.out]); (refine (spec_ReadPacket.calls 9 A1 c1 [202, 3, 80, 71, 80] _ _ _ _ _ C1.out D1.out rp_eval).mono ?_); rintro en w2 ⟨v2, rfl, hR, hB⟩; obtain ⟨A2, c2, e2, hc2, hC2⟩ := r8_reads hR; subst e2; have C2 := Aside0.mk hC2; have D2 := Aside0.mk hc2; have B2 := Aside0.mk (below_then B1.out B1.out.size hB); clear hR hC2 hc2 hB)) | (go_at_call 34; ((with_reducible refine (wmk_calls (w2.alloc (.cells #[.int .i64 10, .slice A2 3 c2] 60))).mono ?_); rintro en w3 ⟨v3, rfl, hR, hB⟩; obtain ⟨A3, c3', e3, _, _⟩ := r8_reads hR; subst e3; have hB0 : Below w2.heap.size w2 (w2.alloc (.cells #[.int .i64 10, .slice A2 3 c2] 60)) := below_alloc (Below.refl _ _) _; have p0 : w3.cell? ⟨w2.heap.size, 0, none⟩ = some (.int .i64 10) := (hB.cell (by simp)).trans (by simp [go_sem]); have p1 : w3.cell? ⟨w2.heap.size, 1, none⟩ = some (.slice A2 3 c2) := (hB.cell (by simp)).trans (by simp [go_sem]); have cs : (convert 22 9 (.slice A2 3 c2)).run Tryd.prog w3 = .ok (.string ⟨#[80, 71, 80]⟩) w3 := (by have q := Kd.C_string (P := Tryd.prog) (c := c2) Tryd.underlying22 Tryd.underlying5 Tryd.underlying9 (Kd.C_below C2.out (below_then hB0 hB0.size hB)); rw [pgp_str] at q; exact q); have hcv := Lib.run_convert_bytes_const (P := Tryd.prog) w3 22 5 #[.int .u8 80, .int .u8 71, .int .u8 80] 3 3 Tryd.underlying22 Tryd.underlying5; have B3 := Aside0.mk (below_then B2.out B2.out.size (below_then hB0 hB0.size hB)); clear hR hB hB0)) | (go_at_call 35; (clear hcv; have hB4 := below_then B3.out B3.out.size (lit3 w3 80 71 80).2; refine (rm_ok (x := 80) (y := 71) (z := 80) (t := []) (lit3 w3 80 71 80).1 (Nat.le_refl _) pgp_bytes ((HE.out.below hB4).up hB4.size) pgp_str pgp_eq (n := 3) rfl).mono ?_; rintro en w5 ⟨rfl, hB⟩; have hB5 := below_then hB4 hB4.size hB; have B5 := Aside0.mk hB5; clear hB4 hB hB5))| ((with_reducible refine gate_dst (N := 54) rfl ?_); (try (refine gate_guard (by rfl) ?_; dsimp only)); refine append8 w5.heap.size (w0 := w5) rfl (.tmp 52) (.tmp 53) 22 5 rfl Tryd.underlying22 infoB (.slice (some ⟨w5.heap.size, 0, none⟩) 0 0) [] (l) A c rfl rfl HN.out (emp8 w5).1 (Kd.C_below HR.out (below_then B5.out B5.out.size (emp8 w5).2)) (emp8 w5).2 (emp8 w5).2.size ?hl ?_; (case hl => first | (simp; done) | (rw [← HN.out]; simp; omega)); intro v6 w6 hR hB _ _; rw [List.nil_append] at hR; obtain ⟨A6, c6, e6, hc6, hC6⟩ := r8_reads hR; rw [← HN.out] at e6; subst e6; have C6 := Aside0.mk hC6; have D6 := Aside0.mk hc6; have B6 := Aside0.mk (below_then B5.out B5.out.size hB); clear hR hB hC6 hc6) | (go_at_call 35; ((with_reducible refine (rm_cut C6.out D6.out HB.out ((HE.out.below B6.out).up B6.out.size) hl hl3 HN.out).mono ?_); rintro en w7 ⟨rfl, hB⟩; have B7 := Aside0.mk (below_then B6.out B6.out.size hB); clear hB)))
  go_ret
  exact ⟨rfl, B7.out⟩
set_option maxHeartbeats 3200000 in
set_option maxRecDepth 100000 in
theorem mk_ok (A : Option Addr) (c : Nat) (x y z : Int) (t : List Int) (S : ByteArray) (w : World) (hr : C8 w A (x :: y :: z :: t)) (hc : ((x :: y :: z :: t) : List Int).length ≤ c) (hw : ∀ u ∈ (x :: y :: z :: t : List Int), (Lit.int .u8 u).wf = true) (n : Nat) (hnn : n = ((x :: y :: z :: t) : List Int).length) (hz : ¬ 2147483647 < n) {aE aU : Addr} (hE : Env w w.heap.size aE aU) (hS2 : strOfNums [x, y, z] = S) (hn : (S.toList == ([80, 71, 80] : List UInt8)) = true) :
    Calls Tryd.prog 9 #[.slice A n c] w fun e w' => e = .returned (.bool true) ∧ Below w.heap.size w w' := by
  have HB := Aside0.mk (show Bytes (x :: y :: z :: t) from bytes_of hw)
  have HR := Aside0.mk hr
  have HC := Aside0.mk hc
  have HE := Aside0.mk hE
  have HN := Aside0.mk hnn
  have n3 : 3 ≤ n := by rw [hnn]; simp
  have c3 : 3 ≤ c := by rw [hnn] at n3; omega
  have HL := Aside0.mk (show 3 ≤ (x :: y :: z :: t : List Int).length by rw [← hnn]; exact n3)
  have HS := Aside0.mk hS2
  clear hw hr hE hc hnn hS2
  go_enter Tryd.func9, Tryd.ntmps9
  go_wp2_with (first | (go_at_call 34; (with_reducible refine (wmk_calls w).mono ?_); rintro en w1 ⟨v, rfl, hR, hB⟩; obtain ⟨A1, c1, e1, hc1, hC1⟩ := r8_reads hR; obtain ⟨n1, en1⟩ : ∃ n, n = ([202, 3, 80, 71, 80] : List Int).length := ⟨_, rfl⟩; rw [← en1] at e1; subst e1; have N1 := Aside0.mk en1; have C1 := Aside0.mk hC1; have D1 := Aside0.mk hc1; have B1 := Aside0.mk hB; clear hR hC1 hc1 hB en1) | (go_at_call 33; ((rw [N1.out]); (refine (spec_ReadPacket.calls 9 A1 c1 [202, 3, 80, 71, 80] _ _ _ _ _ C1.out D1.out rp_eval).mono ?_); rintro en w2 ⟨v2, rfl, hR, hB⟩; obtain ⟨A2, c2, e2, hc2, hC2⟩ := r8_reads hR; subst e2; have C2 := Aside0.mk hC2; have D2 := Aside0.mk hc2; have B2 := Aside0.mk (below_then B1.out B1.out.size hB); clear hR hC2 hc2 hB)) | (go_at_call 34; ((with_reducible refine (wmk_calls (w2.alloc (.cells #[.int .i64 10, .slice A2 3 c2] 60))).mono ?_); rintro en w3 ⟨v3, rfl, hR, hB⟩; obtain ⟨A3, c3', e3, _, _⟩ := r8_reads hR; subst e3; have hB0 : Below w2.heap.size w2 (w2.alloc (.cells #[.int .i64 10, .slice A2 3 c2] 60)) := below_alloc (Below.refl _ _) _; have p0 : w3.cell? ⟨w2.heap.size, 0, none⟩ = some (.int .i64 10) := (hB.cell (by simp)).trans (by simp [go_sem]); have p1 : w3.cell? ⟨w2.heap.size, 1, none⟩ = some (.slice A2 3 c2) := (hB.cell (by simp)).trans (by simp [go_sem]); have cs : (convert 22 9 (.slice A2 3 c2)).run Tryd.prog w3 = .ok (.string ⟨#[80, 71, 80]⟩) w3 := (by have q := Kd.C_string (P := Tryd.prog) (c := c2) Tryd.underlying22 Tryd.underlying5 Tryd.underlying9 (Kd.C_below C2.out (below_then hB0 hB0.size hB)); rw [pgp_str] at q; exact q); have hcv := Lib.run_convert_bytes_const (P := Tryd.prog) w3 22 5 #[.int .u8 80, .int .u8 71, .int .u8 80] 3 3 Tryd.underlying22 Tryd.underlying5; have B3 := Aside0.mk (below_then B2.out B2.out.size (below_then hB0 hB0.size hB)); clear hR hB hB0)) | (go_at_call 35; (clear hcv; have hB4 := below_then B3.out B3.out.size (lit3 w3 80 71 80).2; refine (rm_ok (x := 80) (y := 71) (z := 80) (t := []) (lit3 w3 80 71 80).1 (Nat.le_refl _) pgp_bytes ((HE.out.below hB4).up hB4.size) pgp_str pgp_eq (n := 3) rfl).mono ?_; rintro en w5 ⟨rfl, hB⟩; have hB5 := below_then hB4 hB4.size hB; have cs2 : (convert 22 9 (.slice A 3 c)).run Tryd.prog w5 = .ok (.string S) w5 := (by have q := Kd.C_string (P := Tryd.prog) (c := c) Tryd.underlying22 Tryd.underlying5 Tryd.underlying9 (Kd.C_take (m := 3) (Kd.C_below HR.out hB5) HL.out); rw [show ((x :: y :: z :: t : List Int).take 3) = [x, y, z] from rfl, HS.out] at q; exact q); have B5 := Aside0.mk hB5; clear hB4 hB hB5)))
  go_ret
  exact ⟨rfl, B5.out⟩
set_option maxHeartbeats 3200000 in
set_option maxRecDepth 100000 in
theorem mk_bad (A : Option Addr) (c : Nat) (x y z : Int) (t : List Int) (S : ByteArray) (w : World) (hr : C8 w A (x :: y :: z :: t)) (hc : ((x :: y :: z :: t) : List Int).length ≤ c) (hw : ∀ u ∈ (x :: y :: z :: t : List Int), (Lit.int .u8 u).wf = true) (n : Nat) (hnn : n = ((x :: y :: z :: t) : List Int).length) (hz : ¬ 2147483647 < n) {aE aU : Addr} (hE : Env w w.heap.size aE aU) (hS2 : strOfNums [x, y, z] = S) (hn : (S.toList == ([80, 71, 80] : List UInt8)) = false) :
    Calls Tryd.prog 9 #[.slice A n c] w fun e w' => e = .returned (.bool true) ∧ Below w.heap.size w w' := by
  have HB := Aside0.mk (show Bytes (x :: y :: z :: t) from bytes_of hw)
  have HR := Aside0.mk hr
  have HC := Aside0.mk hc
  have HE := Aside0.mk hE
  have HN := Aside0.mk hnn
  have n3 : 3 ≤ n := by rw [hnn]; simp
  have c3 : 3 ≤ c := by rw [hnn] at n3; omega
  have HL := Aside0.mk (show 3 ≤ (x :: y :: z :: t : List Int).length by rw [← hnn]; exact n3)
  have HS := Aside0.mk hS2
  clear hw hr hE hc hnn hS2
  go_enter Tryd.func9, Tryd.ntmps9
  go_wp2_with (first | (go_at_call 34; (with_reducible refine (wmk_calls w).mono ?_); rintro en w1 ⟨v, rfl, hR, hB⟩; obtain ⟨A1, c1, e1, hc1, hC1⟩ := r8_reads hR; obtain ⟨n1, en1⟩ : ∃ n, n = ([202, 3, 80, 71, 80] : List Int).length := ⟨_, rfl⟩; rw [← en1] at e1; subst e1; have N1 := Aside0.mk en1; have C1 := Aside0.mk hC1; have D1 := Aside0.mk hc1; have B1 := Aside0.mk hB; clear hR hC1 hc1 hB en1) | (go_at_call 33; ((rw [N1.out]); (refine (spec_ReadPacket.calls 9 A1 c1 [202, 3, 80, 71, 80] _ _ _ _ _ C1.out D1.out rp_eval).mono ?_); rintro en w2 ⟨v2, rfl, hR, hB⟩; obtain ⟨A2, c2, e2, hc2, hC2⟩ := r8_reads hR; subst e2; have C2 := Aside0.mk hC2; have D2 := Aside0.mk hc2; have B2 := Aside0.mk (below_then B1.out B1.out.size hB); clear hR hC2 hc2 hB)) | (go_at_call 34; ((with_reducible refine (wmk_calls (w2.alloc (.cells #[.int .i64 10, .slice A2 3 c2] 60))).mono ?_); rintro en w3 ⟨v3, rfl, hR, hB⟩; obtain ⟨A3, c3', e3, _, _⟩ := r8_reads hR; subst e3; have hB0 : Below w2.heap.size w2 (w2.alloc (.cells #[.int .i64 10, .slice A2 3 c2] 60)) := below_alloc (Below.refl _ _) _; have p0 : w3.cell? ⟨w2.heap.size, 0, none⟩ = some (.int .i64 10) := (hB.cell (by simp)).trans (by simp [go_sem]); have p1 : w3.cell? ⟨w2.heap.size, 1, none⟩ = some (.slice A2 3 c2) := (hB.cell (by simp)).trans (by simp [go_sem]); have cs : (convert 22 9 (.slice A2 3 c2)).run Tryd.prog w3 = .ok (.string ⟨#[80, 71, 80]⟩) w3 := (by have q := Kd.C_string (P := Tryd.prog) (c := c2) Tryd.underlying22 Tryd.underlying5 Tryd.underlying9 (Kd.C_below C2.out (below_then hB0 hB0.size hB)); rw [pgp_str] at q; exact q); have hcv := Lib.run_convert_bytes_const (P := Tryd.prog) w3 22 5 #[.int .u8 80, .int .u8 71, .int .u8 80] 3 3 Tryd.underlying22 Tryd.underlying5; have B3 := Aside0.mk (below_then B2.out B2.out.size (below_then hB0 hB0.size hB)); clear hR hB hB0)) | (go_at_call 35; (clear hcv; have hB4 := below_then B3.out B3.out.size (lit3 w3 80 71 80).2; refine (rm_ok (x := 80) (y := 71) (z := 80) (t := []) (lit3 w3 80 71 80).1 (Nat.le_refl _) pgp_bytes ((HE.out.below hB4).up hB4.size) pgp_str pgp_eq (n := 3) rfl).mono ?_; rintro en w5 ⟨rfl, hB⟩; have hB5 := below_then hB4 hB4.size hB; have cs2 : (convert 22 9 (.slice A 3 c)).run Tryd.prog w5 = .ok (.string S) w5 := (by have q := Kd.C_string (P := Tryd.prog) (c := c) Tryd.underlying22 Tryd.underlying5 Tryd.underlying9 (Kd.C_take (m := 3) (Kd.C_below HR.out hB5) HL.out); rw [show ((x :: y :: z :: t : List Int).take 3) = [x, y, z] from rfl, HS.out] at q; exact q); have B5 := Aside0.mk hB5; clear hB4 hB hB5))| ((with_reducible refine gate_dst (N := 54) rfl ?_); (try (refine gate_guard (by rfl) ?_; dsimp only)); refine append8 w5.heap.size (w0 := w5) rfl (.tmp 52) (.tmp 53) 22 5 rfl Tryd.underlying22 infoB (.slice (some ⟨w5.heap.size, 0, none⟩) 0 0) [] (x :: y :: z :: t) A c rfl rfl HN.out (emp8 w5).1 (Kd.C_below HR.out (below_then B5.out B5.out.size (emp8 w5).2)) (emp8 w5).2 (emp8 w5).2.size ?hl ?_; (case hl => first | (simp; done) | (rw [← HN.out]; simp; omega)); intro v6 w6 hR hB _ _; rw [List.nil_append] at hR; obtain ⟨A6, c6, e6, hc6, hC6⟩ := r8_reads hR; rw [← HN.out] at e6; subst e6; have C6 := Aside0.mk hC6; have D6 := Aside0.mk hc6; have B6 := Aside0.mk (below_then B5.out B5.out.size hB); clear hR hB hC6 hc6) | (go_at_call 35; ((with_reducible refine (rm_bad C6.out D6.out HB.out ((HE.out.below B6.out).up B6.out.size) HS.out hn HN.out).mono ?_); rintro en w7 ⟨rfl, hB⟩; have B7 := Aside0.mk (below_then B6.out B6.out.size hB); clear hB)))
  go_ret
  exact ⟨rfl, B7.out⟩
theorem law_mk (A : Option Addr) (c : Nat) (l : List Int) (w : World) (hr : C8 w A l) (hc : l.length ≤ c) (hm : l.length ≤ maxLen) (hw : ∀ x ∈ l, (Lit.int .u8 x).wf = true) {aE aU : Addr} (hE : Env w w.heap.size aE aU) :
    Calls Tryd.prog 9 #[.slice A l.length c] w fun e w' => e = .returned (.bool true) ∧ Below w.heap.size w w' := by
  by_cases hz : 2147483647 < l.length
  · exact mk_big A c l w hr hc hm hw hz
  match l, hr, hc, hw, hz with
  | [], hr, hc, hw, hz => exact mk_eof A c w hr hc hw _ rfl hz hE
  | [x], hr, hc, hw, hz => exact mk_cut A c [x] w hr hc hw _ rfl hz hE (by simp) (by simp)
  | [x, y], hr, hc, hw, hz => exact mk_cut A c [x, y] w hr hc hw _ rfl hz hE (by simp) (by simp)
  | x :: y :: z :: t, hr, hc, hw, hz =>
    cases hb : ((strOfNums [x, y, z]).toList == ([80, 71, 80] : List UInt8)) with
    | true => exact mk_ok A c x y z t _ w hr hc hw _ rfl hz hE rfl hb
    | false => exact mk_bad A c x y z t _ w hr hc hw _ rfl hz hE rfl hb
end Go.Proofs.YtfhefoaieefnkaaDoor.Rd
