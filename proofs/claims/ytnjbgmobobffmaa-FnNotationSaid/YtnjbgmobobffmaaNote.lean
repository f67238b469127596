/- A notation's data: what the program and the standard lay out. -/
import Derived.Test.YtnjbgmobobffmaaOct
set_option linter.unusedVariables false
set_option linter.unusedSimpArgs false
namespace Go.Proofs.Ytnjbgmobobffmaa.Note
open Go.RowKit Go.Proofs.YtnjbgmobobffmaaW.PrintWords Go.Proofs.YtnjbgmobobffmaaW.PrintMore Go.Proofs.Ytnjbgmobobffmaa.Kit

/-- A notation's data. -/
def ntf (x : Int) (S l : List Int) : List Int :=
  [x, 0, 0, 0, (S.length : Int) / 256, (S.length : Int) % 256, (l.length : Int) / 256, (l.length : Int) % 256] ++ (S ++ l)

theorem note_list (x : Int) (S l : List Int) (a0 a1 a2 a3 : Int) :
    List.take (8 + S.length) (List.take 8 ((((((List.replicate (8 + S.length + l.length) 0).set 0 x).set 4 a0).set 5 a1).set 6 a2).set 7 a3) ++ (S ++ List.drop (8 + S.length) ((((((List.replicate (8 + S.length + l.length) 0).set 0 x).set 4 a0).set 5 a1).set 6 a2).set 7 a3))) ++
      (l ++ List.drop (8 + S.length + l.length) (List.take 8 ((((((List.replicate (8 + S.length + l.length) 0).set 0 x).set 4 a0).set 5 a1).set 6 a2).set 7 a3) ++ (S ++ List.drop (8 + S.length) ((((((List.replicate (8 + S.length + l.length) 0).set 0 x).set 4 a0).set 5 a1).set 6 a2).set 7 a3))))
      = [x, 0, 0, 0, a0, a1, a2, a3] ++ (S ++ l) := by
  have e : (((((List.replicate (8 + S.length + l.length) (0 : Int)).set 0 x).set 4 a0).set 5 a1).set 6 a2).set 7 a3 = [x, 0, 0, 0, a0, a1, a2, a3] ++ List.replicate (S.length + l.length) 0 := by
    rw [Nat.add_assoc, ← List.replicate_append_replicate]
    rfl
  rw [e]
  have e2 : List.take 8 ([x, 0, 0, 0, a0, a1, a2, a3] ++ List.replicate (S.length + l.length) (0 : Int)) = [x, 0, 0, 0, a0, a1, a2, a3] := rfl
  have e3 : List.drop (8 + S.length) ([x, 0, 0, 0, a0, a1, a2, a3] ++ List.replicate (S.length + l.length) (0 : Int)) = List.replicate l.length 0 := by
    rw [List.drop_append, List.drop_eq_nil_of_le (by simp), List.nil_append, List.drop_replicate]
    congr 1
    simp
  rw [e2, e3]
  have hl : ([x, 0, 0, 0, a0, a1, a2, a3] ++ S).length = 8 + S.length := by simp; omega
  rw [← List.append_assoc [x, 0, 0, 0, a0, a1, a2, a3] S]
  rw [List.take_append, hl, Nat.sub_self, List.take_zero, List.append_nil, List.take_of_length_le (by rw [hl]; exact Nat.le_refl _)]
  rw [List.drop_eq_nil_of_le (by rw [List.length_append, hl, List.length_replicate]; exact Nat.le_refl _), List.append_nil, List.append_assoc]
theorem note_list0 (S l : List Int) (a0 a1 a2 a3 : Int) :
    List.take (8 + S.length) (List.take 8 (((((List.replicate (8 + S.length + l.length) 0).set 4 a0).set 5 a1).set 6 a2).set 7 a3) ++ (S ++ List.drop (8 + S.length) (((((List.replicate (8 + S.length + l.length) 0).set 4 a0).set 5 a1).set 6 a2).set 7 a3))) ++
      (l ++ List.drop (8 + S.length + l.length) (List.take 8 (((((List.replicate (8 + S.length + l.length) 0).set 4 a0).set 5 a1).set 6 a2).set 7 a3) ++ (S ++ List.drop (8 + S.length) (((((List.replicate (8 + S.length + l.length) 0).set 4 a0).set 5 a1).set 6 a2).set 7 a3))))
      = [0, 0, 0, 0, a0, a1, a2, a3] ++ (S ++ l) := by
  have h := note_list 0 S l a0 a1 a2 a3
  rw [show (List.replicate (8 + S.length + l.length) (0 : Int)).set 0 0 = List.replicate (8 + S.length + l.length) 0 by rw [Nat.add_assoc, ← List.replicate_append_replicate]; rfl] at h
  exact h
/-- The octet of flags. -/
def flag (human : Bool) : Int := if human then 128 else 0
theorem min_self' {n m : Nat} (h : m = n) : min n m = n := by rw [h, Nat.min_self]

set_option maxHeartbeats 1600000 in
set_option maxRecDepth 100000 in
theorem note_true1 (b : Nat) (s : ByteArray) (S : List Int) (A : Option Addr) (c : Nat) (l : List Int) (w : World)
    (hp0 : w.cell? ⟨b, 0, none⟩ = some (.string s)) (hp1 : w.cell? ⟨b, 1, none⟩ = some (.slice A l.length c)) (hp3 : w.cell? ⟨b, 3, none⟩ = some (.bool true))
    (hr : C8 w A l) (hc : l.length ≤ c) (h1 : S.length ≤ 65535) (h2 : l.length ≤ 65535) (hS : bytesOf s = S) (e1 : ¬ 8 + S.length + l.length = 8) (e2 : ¬ l.length = 0) :
    Calls Try.prog 31 #[.pointer (some ⟨b, 0, none⟩)] w fun e w' => ∃ v, e = .returned v ∧ R8 5 w' w.heap.size v (ntf 128 S l) ∧ Below w.heap.size w w' := by
  have HR := Aside0.mk hr
  have HC := Aside0.mk hc
  clear hr hc
  have h1' : s.size ≤ 65535 := by have := bytesOf_len s; rw [hS] at this; omega
  have HSS := Aside0.mk hS
  clear hS
  go_enter Try.func31, Try.ntmps31
  go_wp2_with (first | ((with_reducible refine gate_dst (N := 11) rfl ?_); refine conv8 rfl 9 24 5 (.tmp 10) rfl s S HSS.out rfl Try.underlying9 Try.underlying24 Try.underlying5 (by omega) ?_; intro A1 c1 w1 hR hc1 hB; have p0 := (hB.cell (World.block_lt_of_cell? w _ hp0)).trans hp0; have p1 := (hB.cell (World.block_lt_of_cell? w _ hp1)).trans hp1; have p3 := (hB.cell (World.block_lt_of_cell? w _ hp3)).trans hp3; have A3 := Aside0.mk (Kd.C_below HR.out hB); have R1 := Aside0.mk hR; have C1 := Aside0.mk hc1; have B1 := Aside0.mk hB; clear hR hc1 hB) | ((with_reducible refine gate_dst (N := 23) rfl ?_); refine make8 w.heap.size (w0 := w) rfl (N := 23) rfl 24 5 (.tmp 22) (.tmp 22) rfl (8 + S.length + l.length) rfl rfl (by omega) Try.underlying24 infoB (by omega) B1.out B1.out.size ?_; intro g w2 hg hg2 _ hR hB hB2; clear p0 p1 p3; have p0 := (hB.cell (World.block_lt_of_cell? w _ hp0)).trans hp0; have p1 := (hB.cell (World.block_lt_of_cell? w _ hp1)).trans hp1; have p3 := (hB.cell (World.block_lt_of_cell? w _ hp3)).trans hp3; have R2 := Aside0.mk hR; have B2 := Aside0.mk hB; have n4 := Aside0.mk (Kd.C_below R1.out hB2); have n5 := Aside0.mk (far_c8 R1.out hg2); clear R1 A3; have R1 := n4; have FA := n5; have A3 := Aside0.mk (Kd.C_below HR.out hB); have FB := Aside0.mk hg; clear hR hB hg hg2 hB2 n4 n5) | ((with_reducible refine gate_store (t := 5) (p := 29) rfl ?_); refine store8 w.heap.size (w0 := w) rfl rfl 5 (.tmp 29) (.const (.int .u8 128)) rfl 5 g _ _ 0 _ _ rfl rfl infoB1 R2.out (by omega) B2.out ?_; intro w3 hR hB hG; have n4 := Aside0.mk (c8_grown R1.out FA.out hG); clear R1; have R1 := n4; clear n4; clear p0 p1 p3; have p0 := (hB.cell (World.block_lt_of_cell? w _ hp0)).trans hp0; have p1 := (hB.cell (World.block_lt_of_cell? w _ hp1)).trans hp1; have p3 := (hB.cell (World.block_lt_of_cell? w _ hp3)).trans hp3; have n1 := Aside0.mk hR; have n2 := Aside0.mk hB; have n3 := Aside0.mk (Kd.C_below HR.out hB); clear R2 B2 A3; have R2 := n1; have B2 := n2; have A3 := n3; clear n1 n2 n3 hR hB; clear hG) | ((with_reducible refine gate_store (t := 5) (p := 34) rfl ?_); refine store8 w.heap.size (w0 := w) rfl rfl 5 (.tmp 34) (.tmp 33) rfl 5 g _ _ 4 _ _ rfl rfl infoB1 R2.out (by omega) B2.out ?_; intro w4 hR hB hG; have n4 := Aside0.mk (c8_grown R1.out FA.out hG); clear R1; have R1 := n4; clear n4; clear p0 p1 p3; have p0 := (hB.cell (World.block_lt_of_cell? w _ hp0)).trans hp0; have p1 := (hB.cell (World.block_lt_of_cell? w _ hp1)).trans hp1; have p3 := (hB.cell (World.block_lt_of_cell? w _ hp3)).trans hp3; have n1 := Aside0.mk hR; have n2 := Aside0.mk hB; have n3 := Aside0.mk (Kd.C_below HR.out hB); clear R2 B2 A3; have R2 := n1; have B2 := n2; have A3 := n3; clear n1 n2 n3 hR hB; clear hG) | ((with_reducible refine gate_store (t := 5) (p := 38) rfl ?_); refine store8 w.heap.size (w0 := w) rfl rfl 5 (.tmp 38) (.tmp 37) rfl 5 g _ _ 5 _ _ rfl rfl infoB1 R2.out (by omega) B2.out ?_; intro w5 hR hB hG; have n4 := Aside0.mk (c8_grown R1.out FA.out hG); clear R1; have R1 := n4; clear n4; clear p0 p1 p3; have p0 := (hB.cell (World.block_lt_of_cell? w _ hp0)).trans hp0; have p1 := (hB.cell (World.block_lt_of_cell? w _ hp1)).trans hp1; have p3 := (hB.cell (World.block_lt_of_cell? w _ hp3)).trans hp3; have n1 := Aside0.mk hR; have n2 := Aside0.mk hB; have n3 := Aside0.mk (Kd.C_below HR.out hB); clear R2 B2 A3; have R2 := n1; have B2 := n2; have A3 := n3; clear n1 n2 n3 hR hB; clear hG) | ((with_reducible refine gate_store (t := 5) (p := 43) rfl ?_); refine store8 w.heap.size (w0 := w) rfl rfl 5 (.tmp 43) (.tmp 42) rfl 5 g _ _ 6 _ _ rfl rfl infoB1 R2.out (by omega) B2.out ?_; intro w6 hR hB hG; have n4 := Aside0.mk (c8_grown R1.out FA.out hG); clear R1; have R1 := n4; clear n4; clear p0 p1 p3; have p0 := (hB.cell (World.block_lt_of_cell? w _ hp0)).trans hp0; have p1 := (hB.cell (World.block_lt_of_cell? w _ hp1)).trans hp1; have p3 := (hB.cell (World.block_lt_of_cell? w _ hp3)).trans hp3; have n1 := Aside0.mk hR; have n2 := Aside0.mk hB; have n3 := Aside0.mk (Kd.C_below HR.out hB); clear R2 B2 A3; have R2 := n1; have B2 := n2; have A3 := n3; clear n1 n2 n3 hR hB; clear hG) | ((with_reducible refine gate_store (t := 5) (p := 47) rfl ?_); refine store8 w.heap.size (w0 := w) rfl rfl 5 (.tmp 47) (.tmp 46) rfl 5 g _ _ 7 _ _ rfl rfl infoB1 R2.out (by omega) B2.out ?_; intro w7 hR hB hG; have n4 := Aside0.mk (c8_grown R1.out FA.out hG); clear R1; have R1 := n4; clear n4; clear p0 p1 p3; have p0 := (hB.cell (World.block_lt_of_cell? w _ hp0)).trans hp0; have p1 := (hB.cell (World.block_lt_of_cell? w _ hp1)).trans hp1; have p3 := (hB.cell (World.block_lt_of_cell? w _ hp3)).trans hp3; have n1 := Aside0.mk hR; have n2 := Aside0.mk hB; have n3 := Aside0.mk (Kd.C_below HR.out hB); clear R2 B2 A3; have R2 := n1; have B2 := n2; have A3 := n3; clear n1 n2 n3 hR hB; clear hG) | ((with_reducible refine gate_dst (N := 53) rfl ?_); refine copy8 w.heap.size (w0 := w) rfl (.tmp 51) (.tmp 52) 24 24 5 rfl Try.underlying24 infoB g _ _ 8 _ _ _ S _ _ _ rfl ?hz1 rfl (by first | rfl | omega) R2.out R1.out (by omega) B2.out B2.out.size ?_; (case hz1 => intro hz; first | rfl | (simp; omega) | (split <;> first | rfl | omega)); intro w8 hR hB hG; clear p0 p1 p3; have p0 := (hB.cell (World.block_lt_of_cell? w _ hp0)).trans hp0; have p1 := (hB.cell (World.block_lt_of_cell? w _ hp1)).trans hp1; have p3 := (hB.cell (World.block_lt_of_cell? w _ hp3)).trans hp3; have n1 := Aside0.mk hR; have n2 := Aside0.mk hB; have n3 := Aside0.mk (Kd.C_below HR.out hB); clear R2 B2 A3; have R2 := n1; have B2 := n2; have A3 := n3; clear n1 n2 n3 hR hB; clear hG))
  have s2 : (0 : Int) ≤ 8 + (S.length : Int) := by omega
  have s3 : (8 + (S.length : Int)).toNat = 8 + S.length := by omega
  have s4 : (8 : Int) + (S.length : Int) ≤ 8 + (S.length : Int) + (l.length : Int) := by omega
  have s1 : IntKind.i64.wrap (8 + (S.length : Int)) = 8 + (S.length : Int) := IntWalk.i64_in _ (by omega)
  go_still_tail 8, (by kernel_rfl)
  clear s1 s2 s3 s4
  change wpList _ _ _ _ _ w8.drew
  have n1 := Aside0.mk (Kd.R_drew R2.out)
  have n2 := Aside0.mk (below_drew B2.out)
  have n3 := Aside0.mk (Kd.C_drew A3.out)
  generalize w8.drew = w9 at n1 n2 n3 ⊢
  clear R2 B2 A3 R1 p0 p1 p3
  have R2 := n1
  have B2 := n2
  have A3 := n3
  clear n1 n2 n3
  refine copy8 w.heap.size (w0 := w) (o := ⟨some 62, _, _, _, _, _⟩) rfl (.tmp 57) (.tmp 61) 24 24 5 rfl Try.underlying24 infoB g _ _ (8 + S.length) _ _ _ l _ _ _ rfl ?hz2 rfl (by first | rfl | omega) R2.out A3.out (by omega) B2.out B2.out.size ?_
  case hz2 => intro hz; first | rfl | (simp; omega) | (split <;> first | rfl | omega)
  intro w10 hR hB hG
  have n1 := Aside0.mk hR
  have n2 := Aside0.mk hB
  clear R2 B2 A3 hR hB hG
  have R2 := n1
  have B2 := n2
  clear n1 n2
  go_wp2
  go_ret
  have HF := R2.out
  refine ⟨_, rfl, ?_, B2.out⟩
  rw [min_self' (by omega), min_self' (by omega), List.take_length, List.take_length, note_list] at HF
  exact HF

set_option maxHeartbeats 1600000 in
set_option maxRecDepth 100000 in
theorem note_true2 (b : Nat) (s : ByteArray) (S : List Int) (A : Option Addr) (c : Nat) (w : World)
    (hp0 : w.cell? ⟨b, 0, none⟩ = some (.string s)) (hp1 : w.cell? ⟨b, 1, none⟩ = some (.slice A ([] : List Int).length c)) (hp3 : w.cell? ⟨b, 3, none⟩ = some (.bool true))
    (hr : C8 w A ([] : List Int)) (hc : ([] : List Int).length ≤ c) (h1 : S.length ≤ 65535) (hS : bytesOf s = S) (e1 : ¬ S.length = 0) :
    Calls Try.prog 31 #[.pointer (some ⟨b, 0, none⟩)] w fun e w' => ∃ v, e = .returned v ∧ R8 5 w' w.heap.size v (ntf 128 S ([] : List Int)) ∧ Below w.heap.size w w' := by
  have HR := Aside0.mk hr
  have HC := Aside0.mk hc
  clear hr hc
  have h1' : s.size ≤ 65535 := by have := bytesOf_len s; rw [hS] at this; omega
  have hl0 : ([] : List Int).length = 0 := rfl
  have HSS := Aside0.mk hS
  clear hS
  go_enter Try.func31, Try.ntmps31
  go_wp2_with (first | ((with_reducible refine gate_dst (N := 11) rfl ?_); refine conv8 rfl 9 24 5 (.tmp 10) rfl s S HSS.out rfl Try.underlying9 Try.underlying24 Try.underlying5 (by omega) ?_; intro A1 c1 w1 hR hc1 hB; have p0 := (hB.cell (World.block_lt_of_cell? w _ hp0)).trans hp0; have p1 := (hB.cell (World.block_lt_of_cell? w _ hp1)).trans hp1; have p3 := (hB.cell (World.block_lt_of_cell? w _ hp3)).trans hp3; have A3 := Aside0.mk (Kd.C_below HR.out hB); have R1 := Aside0.mk hR; have C1 := Aside0.mk hc1; have B1 := Aside0.mk hB; clear hR hc1 hB) | ((with_reducible refine gate_dst (N := 23) rfl ?_); refine make8 w.heap.size (w0 := w) rfl (N := 23) rfl 24 5 (.tmp 22) (.tmp 22) rfl (8 + S.length + ([] : List Int).length) rfl rfl (by omega) Try.underlying24 infoB (by omega) B1.out B1.out.size ?_; intro g w2 hg hg2 _ hR hB hB2; clear p0 p1 p3; have p0 := (hB.cell (World.block_lt_of_cell? w _ hp0)).trans hp0; have p1 := (hB.cell (World.block_lt_of_cell? w _ hp1)).trans hp1; have p3 := (hB.cell (World.block_lt_of_cell? w _ hp3)).trans hp3; have R2 := Aside0.mk hR; have B2 := Aside0.mk hB; have n4 := Aside0.mk (Kd.C_below R1.out hB2); have n5 := Aside0.mk (far_c8 R1.out hg2); clear R1 A3; have R1 := n4; have FA := n5; have A3 := Aside0.mk (Kd.C_below HR.out hB); have FB := Aside0.mk hg; clear hR hB hg hg2 hB2 n4 n5) | ((with_reducible refine gate_store (t := 5) (p := 29) rfl ?_); refine store8 w.heap.size (w0 := w) rfl rfl 5 (.tmp 29) (.const (.int .u8 128)) rfl 5 g _ _ 0 _ _ rfl rfl infoB1 R2.out (by omega) B2.out ?_; intro w3 hR hB hG; have n4 := Aside0.mk (c8_grown R1.out FA.out hG); clear R1; have R1 := n4; clear n4; clear p0 p1 p3; have p0 := (hB.cell (World.block_lt_of_cell? w _ hp0)).trans hp0; have p1 := (hB.cell (World.block_lt_of_cell? w _ hp1)).trans hp1; have p3 := (hB.cell (World.block_lt_of_cell? w _ hp3)).trans hp3; have n1 := Aside0.mk hR; have n2 := Aside0.mk hB; have n3 := Aside0.mk (Kd.C_below HR.out hB); clear R2 B2 A3; have R2 := n1; have B2 := n2; have A3 := n3; clear n1 n2 n3 hR hB; clear hG) | ((with_reducible refine gate_store (t := 5) (p := 34) rfl ?_); refine store8 w.heap.size (w0 := w) rfl rfl 5 (.tmp 34) (.tmp 33) rfl 5 g _ _ 4 _ _ rfl rfl infoB1 R2.out (by omega) B2.out ?_; intro w4 hR hB hG; have n4 := Aside0.mk (c8_grown R1.out FA.out hG); clear R1; have R1 := n4; clear n4; clear p0 p1 p3; have p0 := (hB.cell (World.block_lt_of_cell? w _ hp0)).trans hp0; have p1 := (hB.cell (World.block_lt_of_cell? w _ hp1)).trans hp1; have p3 := (hB.cell (World.block_lt_of_cell? w _ hp3)).trans hp3; have n1 := Aside0.mk hR; have n2 := Aside0.mk hB; have n3 := Aside0.mk (Kd.C_below HR.out hB); clear R2 B2 A3; have R2 := n1; have B2 := n2; have A3 := n3; clear n1 n2 n3 hR hB; clear hG) | ((with_reducible refine gate_store (t := 5) (p := 38) rfl ?_); refine store8 w.heap.size (w0 := w) rfl rfl 5 (.tmp 38) (.tmp 37) rfl 5 g _ _ 5 _ _ rfl rfl infoB1 R2.out (by omega) B2.out ?_; intro w5 hR hB hG; have n4 := Aside0.mk (c8_grown R1.out FA.out hG); clear R1; have R1 := n4; clear n4; clear p0 p1 p3; have p0 := (hB.cell (World.block_lt_of_cell? w _ hp0)).trans hp0; have p1 := (hB.cell (World.block_lt_of_cell? w _ hp1)).trans hp1; have p3 := (hB.cell (World.block_lt_of_cell? w _ hp3)).trans hp3; have n1 := Aside0.mk hR; have n2 := Aside0.mk hB; have n3 := Aside0.mk (Kd.C_below HR.out hB); clear R2 B2 A3; have R2 := n1; have B2 := n2; have A3 := n3; clear n1 n2 n3 hR hB; clear hG) | ((with_reducible refine gate_store (t := 5) (p := 43) rfl ?_); refine store8 w.heap.size (w0 := w) rfl rfl 5 (.tmp 43) (.tmp 42) rfl 5 g _ _ 6 _ _ rfl rfl infoB1 R2.out (by omega) B2.out ?_; intro w6 hR hB hG; have n4 := Aside0.mk (c8_grown R1.out FA.out hG); clear R1; have R1 := n4; clear n4; clear p0 p1 p3; have p0 := (hB.cell (World.block_lt_of_cell? w _ hp0)).trans hp0; have p1 := (hB.cell (World.block_lt_of_cell? w _ hp1)).trans hp1; have p3 := (hB.cell (World.block_lt_of_cell? w _ hp3)).trans hp3; have n1 := Aside0.mk hR; have n2 := Aside0.mk hB; have n3 := Aside0.mk (Kd.C_below HR.out hB); clear R2 B2 A3; have R2 := n1; have B2 := n2; have A3 := n3; clear n1 n2 n3 hR hB; clear hG) | ((with_reducible refine gate_store (t := 5) (p := 47) rfl ?_); refine store8 w.heap.size (w0 := w) rfl rfl 5 (.tmp 47) (.tmp 46) rfl 5 g _ _ 7 _ _ rfl rfl infoB1 R2.out (by omega) B2.out ?_; intro w7 hR hB hG; have n4 := Aside0.mk (c8_grown R1.out FA.out hG); clear R1; have R1 := n4; clear n4; clear p0 p1 p3; have p0 := (hB.cell (World.block_lt_of_cell? w _ hp0)).trans hp0; have p1 := (hB.cell (World.block_lt_of_cell? w _ hp1)).trans hp1; have p3 := (hB.cell (World.block_lt_of_cell? w _ hp3)).trans hp3; have n1 := Aside0.mk hR; have n2 := Aside0.mk hB; have n3 := Aside0.mk (Kd.C_below HR.out hB); clear R2 B2 A3; have R2 := n1; have B2 := n2; have A3 := n3; clear n1 n2 n3 hR hB; clear hG) | ((with_reducible refine gate_dst (N := 53) rfl ?_); refine copy8 w.heap.size (w0 := w) rfl (.tmp 51) (.tmp 52) 24 24 5 rfl Try.underlying24 infoB g _ _ 8 _ _ _ S _ _ _ rfl ?hz1 rfl (by first | rfl | omega) R2.out R1.out (by omega) B2.out B2.out.size ?_; (case hz1 => intro hz; first | rfl | (simp; omega) | (split <;> first | rfl | omega)); intro w8 hR hB hG; clear p0 p1 p3; have p0 := (hB.cell (World.block_lt_of_cell? w _ hp0)).trans hp0; have p1 := (hB.cell (World.block_lt_of_cell? w _ hp1)).trans hp1; have p3 := (hB.cell (World.block_lt_of_cell? w _ hp3)).trans hp3; have n1 := Aside0.mk hR; have n2 := Aside0.mk hB; have n3 := Aside0.mk (Kd.C_below HR.out hB); clear R2 B2 A3; have R2 := n1; have B2 := n2; have A3 := n3; clear n1 n2 n3 hR hB; clear hG))
  have s2 : (0 : Int) ≤ 8 + (S.length : Int) := by omega
  have s3 : (8 + (S.length : Int)).toNat = 8 + S.length := by omega
  have s4 : (8 : Int) + (S.length : Int) ≤ 8 + (S.length : Int) + (([] : List Int).length : Int) := by omega
  have s1 : IntKind.i64.wrap (8 + (S.length : Int)) = 8 + (S.length : Int) := IntWalk.i64_in _ (by omega)
  go_still_tail 8, (by kernel_rfl)
  clear s1 s2 s3 s4
  change wpList _ _ _ _ _ w8.drew
  have n1 := Aside0.mk (Kd.R_drew R2.out)
  have n2 := Aside0.mk (below_drew B2.out)
  have n3 := Aside0.mk (Kd.C_drew A3.out)
  generalize w8.drew = w9 at n1 n2 n3 ⊢
  clear R2 B2 A3 R1 p0 p1 p3
  have R2 := n1
  have B2 := n2
  have A3 := n3
  clear n1 n2 n3
  refine copy8 w.heap.size (w0 := w) (o := ⟨some 62, _, _, _, _, _⟩) rfl (.tmp 57) (.tmp 61) 24 24 5 rfl Try.underlying24 infoB g _ _ (8 + S.length) _ _ _ ([] : List Int) _ _ _ rfl ?hz2 rfl (by first | rfl | omega) R2.out A3.out (by omega) B2.out B2.out.size ?_
  case hz2 => intro hz; first | rfl | (simp; omega) | (split <;> first | rfl | omega)
  intro w10 hR hB hG
  have n1 := Aside0.mk hR
  have n2 := Aside0.mk hB
  clear R2 B2 A3 hR hB hG
  have R2 := n1
  have B2 := n2
  clear n1 n2
  go_wp2
  go_ret
  have HF := R2.out
  refine ⟨_, rfl, ?_, B2.out⟩
  rw [min_self' (by omega), min_self' (by omega), List.take_length, List.take_length, note_list] at HF
  exact HF

set_option maxHeartbeats 1600000 in
set_option maxRecDepth 100000 in
theorem note_true3 (b : Nat) (s : ByteArray) (A : Option Addr) (c : Nat) (w : World)
    (hp0 : w.cell? ⟨b, 0, none⟩ = some (.string s)) (hp1 : w.cell? ⟨b, 1, none⟩ = some (.slice A ([] : List Int).length c)) (hp3 : w.cell? ⟨b, 3, none⟩ = some (.bool true))
    (hr : C8 w A ([] : List Int)) (hc : ([] : List Int).length ≤ c) (hS : bytesOf s = []) :
    Calls Try.prog 31 #[.pointer (some ⟨b, 0, none⟩)] w fun e w' => ∃ v, e = .returned v ∧ R8 5 w' w.heap.size v (ntf 128 ([] : List Int) ([] : List Int)) ∧ Below w.heap.size w w' := by
  have HR := Aside0.mk hr
  have HC := Aside0.mk hc
  clear hr hc
  have h1' : s.size ≤ 65535 := by have := bytesOf_len s; rw [hS] at this; simp at this; omega
  have hl0 : ([] : List Int).length = 0 := rfl
  have HSS := Aside0.mk hS
  clear hS
  go_enter Try.func31, Try.ntmps31
  go_wp2_with (first | ((with_reducible refine gate_dst (N := 11) rfl ?_); refine conv8 rfl 9 24 5 (.tmp 10) rfl s ([] : List Int) HSS.out rfl Try.underlying9 Try.underlying24 Try.underlying5 (by omega) ?_; intro A1 c1 w1 hR hc1 hB; have p0 := (hB.cell (World.block_lt_of_cell? w _ hp0)).trans hp0; have p1 := (hB.cell (World.block_lt_of_cell? w _ hp1)).trans hp1; have p3 := (hB.cell (World.block_lt_of_cell? w _ hp3)).trans hp3; have A3 := Aside0.mk (Kd.C_below HR.out hB); have R1 := Aside0.mk hR; have C1 := Aside0.mk hc1; have B1 := Aside0.mk hB; clear hR hc1 hB) | ((with_reducible refine gate_dst (N := 23) rfl ?_); refine make8 w.heap.size (w0 := w) rfl (N := 23) rfl 24 5 (.tmp 22) (.tmp 22) rfl (8 + ([] : List Int).length + ([] : List Int).length) rfl rfl (by omega) Try.underlying24 infoB (by omega) B1.out B1.out.size ?_; intro g w2 hg hg2 _ hR hB hB2; clear p0 p1 p3; have p0 := (hB.cell (World.block_lt_of_cell? w _ hp0)).trans hp0; have p1 := (hB.cell (World.block_lt_of_cell? w _ hp1)).trans hp1; have p3 := (hB.cell (World.block_lt_of_cell? w _ hp3)).trans hp3; have R2 := Aside0.mk hR; have B2 := Aside0.mk hB; have n4 := Aside0.mk (Kd.C_below R1.out hB2); have n5 := Aside0.mk (far_c8 R1.out hg2); clear R1 A3; have R1 := n4; have FA := n5; have A3 := Aside0.mk (Kd.C_below HR.out hB); have FB := Aside0.mk hg; clear hR hB hg hg2 hB2 n4 n5) | ((with_reducible refine gate_store (t := 5) (p := 29) rfl ?_); refine store8 w.heap.size (w0 := w) rfl rfl 5 (.tmp 29) (.const (.int .u8 128)) rfl 5 g _ _ 0 _ _ rfl rfl infoB1 R2.out (by omega) B2.out ?_; intro w3 hR hB hG; have n4 := Aside0.mk (c8_grown R1.out FA.out hG); clear R1; have R1 := n4; clear n4; clear p0 p1 p3; have p0 := (hB.cell (World.block_lt_of_cell? w _ hp0)).trans hp0; have p1 := (hB.cell (World.block_lt_of_cell? w _ hp1)).trans hp1; have p3 := (hB.cell (World.block_lt_of_cell? w _ hp3)).trans hp3; have n1 := Aside0.mk hR; have n2 := Aside0.mk hB; have n3 := Aside0.mk (Kd.C_below HR.out hB); clear R2 B2 A3; have R2 := n1; have B2 := n2; have A3 := n3; clear n1 n2 n3 hR hB; clear hG) | ((with_reducible refine gate_store (t := 5) (p := 34) rfl ?_); refine store8 w.heap.size (w0 := w) rfl rfl 5 (.tmp 34) (.tmp 33) rfl 5 g _ _ 4 _ _ rfl rfl infoB1 R2.out (by omega) B2.out ?_; intro w4 hR hB hG; have n4 := Aside0.mk (c8_grown R1.out FA.out hG); clear R1; have R1 := n4; clear n4; clear p0 p1 p3; have p0 := (hB.cell (World.block_lt_of_cell? w _ hp0)).trans hp0; have p1 := (hB.cell (World.block_lt_of_cell? w _ hp1)).trans hp1; have p3 := (hB.cell (World.block_lt_of_cell? w _ hp3)).trans hp3; have n1 := Aside0.mk hR; have n2 := Aside0.mk hB; have n3 := Aside0.mk (Kd.C_below HR.out hB); clear R2 B2 A3; have R2 := n1; have B2 := n2; have A3 := n3; clear n1 n2 n3 hR hB; clear hG) | ((with_reducible refine gate_store (t := 5) (p := 38) rfl ?_); refine store8 w.heap.size (w0 := w) rfl rfl 5 (.tmp 38) (.tmp 37) rfl 5 g _ _ 5 _ _ rfl rfl infoB1 R2.out (by omega) B2.out ?_; intro w5 hR hB hG; have n4 := Aside0.mk (c8_grown R1.out FA.out hG); clear R1; have R1 := n4; clear n4; clear p0 p1 p3; have p0 := (hB.cell (World.block_lt_of_cell? w _ hp0)).trans hp0; have p1 := (hB.cell (World.block_lt_of_cell? w _ hp1)).trans hp1; have p3 := (hB.cell (World.block_lt_of_cell? w _ hp3)).trans hp3; have n1 := Aside0.mk hR; have n2 := Aside0.mk hB; have n3 := Aside0.mk (Kd.C_below HR.out hB); clear R2 B2 A3; have R2 := n1; have B2 := n2; have A3 := n3; clear n1 n2 n3 hR hB; clear hG) | ((with_reducible refine gate_store (t := 5) (p := 43) rfl ?_); refine store8 w.heap.size (w0 := w) rfl rfl 5 (.tmp 43) (.tmp 42) rfl 5 g _ _ 6 _ _ rfl rfl infoB1 R2.out (by omega) B2.out ?_; intro w6 hR hB hG; have n4 := Aside0.mk (c8_grown R1.out FA.out hG); clear R1; have R1 := n4; clear n4; clear p0 p1 p3; have p0 := (hB.cell (World.block_lt_of_cell? w _ hp0)).trans hp0; have p1 := (hB.cell (World.block_lt_of_cell? w _ hp1)).trans hp1; have p3 := (hB.cell (World.block_lt_of_cell? w _ hp3)).trans hp3; have n1 := Aside0.mk hR; have n2 := Aside0.mk hB; have n3 := Aside0.mk (Kd.C_below HR.out hB); clear R2 B2 A3; have R2 := n1; have B2 := n2; have A3 := n3; clear n1 n2 n3 hR hB; clear hG) | ((with_reducible refine gate_store (t := 5) (p := 47) rfl ?_); refine store8 w.heap.size (w0 := w) rfl rfl 5 (.tmp 47) (.tmp 46) rfl 5 g _ _ 7 _ _ rfl rfl infoB1 R2.out (by omega) B2.out ?_; intro w7 hR hB hG; have n4 := Aside0.mk (c8_grown R1.out FA.out hG); clear R1; have R1 := n4; clear n4; clear p0 p1 p3; have p0 := (hB.cell (World.block_lt_of_cell? w _ hp0)).trans hp0; have p1 := (hB.cell (World.block_lt_of_cell? w _ hp1)).trans hp1; have p3 := (hB.cell (World.block_lt_of_cell? w _ hp3)).trans hp3; have n1 := Aside0.mk hR; have n2 := Aside0.mk hB; have n3 := Aside0.mk (Kd.C_below HR.out hB); clear R2 B2 A3; have R2 := n1; have B2 := n2; have A3 := n3; clear n1 n2 n3 hR hB; clear hG) | ((with_reducible refine gate_dst (N := 53) rfl ?_); refine copy8 w.heap.size (w0 := w) rfl (.tmp 51) (.tmp 52) 24 24 5 rfl Try.underlying24 infoB g _ _ 8 _ _ _ ([] : List Int) _ _ _ rfl ?hz1 rfl (by first | rfl | omega) R2.out R1.out (by omega) B2.out B2.out.size ?_; (case hz1 => intro hz; first | rfl | (simp; omega) | (split <;> first | rfl | omega)); intro w8 hR hB hG; clear p0 p1 p3; have p0 := (hB.cell (World.block_lt_of_cell? w _ hp0)).trans hp0; have p1 := (hB.cell (World.block_lt_of_cell? w _ hp1)).trans hp1; have p3 := (hB.cell (World.block_lt_of_cell? w _ hp3)).trans hp3; have n1 := Aside0.mk hR; have n2 := Aside0.mk hB; have n3 := Aside0.mk (Kd.C_below HR.out hB); clear R2 B2 A3; have R2 := n1; have B2 := n2; have A3 := n3; clear n1 n2 n3 hR hB; clear hG))
  have s1 : IntKind.i64.wrap (8 : Int) = 8 := IntWalk.i64_in _ (by omega)
  have s2 : IntKind.i64.wrap (8 + 0 : Int) = 8 := IntWalk.i64_in _ (by omega)
  go_still_tail 8, (by kernel_rfl)
  clear s1 s2
  change wpList _ _ _ _ _ w8.drew
  have n1 := Aside0.mk (Kd.R_drew R2.out)
  have n2 := Aside0.mk (below_drew B2.out)
  have n3 := Aside0.mk (Kd.C_drew A3.out)
  generalize w8.drew = w9 at n1 n2 n3 ⊢
  clear R2 B2 A3 R1 p0 p1 p3
  have R2 := n1
  have B2 := n2
  have A3 := n3
  clear n1 n2 n3
  refine copy8 w.heap.size (w0 := w) (o := ⟨some 62, _, _, _, _, _⟩) rfl (.tmp 57) (.tmp 61) 24 24 5 rfl Try.underlying24 infoB g _ _ (8 + ([] : List Int).length) _ _ _ ([] : List Int) _ _ _ rfl ?hz2 rfl (by first | rfl | omega) R2.out A3.out (by omega) B2.out B2.out.size ?_
  case hz2 => intro hz; first | rfl | (simp; omega) | (split <;> first | rfl | omega)
  intro w10 hR hB hG
  have n1 := Aside0.mk hR
  have n2 := Aside0.mk hB
  clear R2 B2 A3 hR hB hG
  have R2 := n1
  have B2 := n2
  clear n1 n2
  go_wp2
  go_ret
  have HF := R2.out
  refine ⟨_, rfl, ?_, B2.out⟩
  rw [min_self' (by omega), List.take_length, note_list] at HF
  exact HF

set_option maxHeartbeats 1600000 in
set_option maxRecDepth 100000 in
theorem note_false1 (b : Nat) (s : ByteArray) (S : List Int) (A : Option Addr) (c : Nat) (l : List Int) (w : World)
    (hp0 : w.cell? ⟨b, 0, none⟩ = some (.string s)) (hp1 : w.cell? ⟨b, 1, none⟩ = some (.slice A l.length c)) (hp3 : w.cell? ⟨b, 3, none⟩ = some (.bool false))
    (hr : C8 w A l) (hc : l.length ≤ c) (h1 : S.length ≤ 65535) (h2 : l.length ≤ 65535) (hS : bytesOf s = S) (e1 : ¬ 8 + S.length + l.length = 8) (e2 : ¬ l.length = 0) :
    Calls Try.prog 31 #[.pointer (some ⟨b, 0, none⟩)] w fun e w' => ∃ v, e = .returned v ∧ R8 5 w' w.heap.size v (ntf 0 S l) ∧ Below w.heap.size w w' := by
  have HR := Aside0.mk hr
  have HC := Aside0.mk hc
  clear hr hc
  have h1' : s.size ≤ 65535 := by have := bytesOf_len s; rw [hS] at this; omega
  have HSS := Aside0.mk hS
  clear hS
  go_enter Try.func31, Try.ntmps31
  go_wp2_with (first | ((with_reducible refine gate_dst (N := 11) rfl ?_); refine conv8 rfl 9 24 5 (.tmp 10) rfl s S HSS.out rfl Try.underlying9 Try.underlying24 Try.underlying5 (by omega) ?_; intro A1 c1 w1 hR hc1 hB; have p0 := (hB.cell (World.block_lt_of_cell? w _ hp0)).trans hp0; have p1 := (hB.cell (World.block_lt_of_cell? w _ hp1)).trans hp1; have p3 := (hB.cell (World.block_lt_of_cell? w _ hp3)).trans hp3; have A3 := Aside0.mk (Kd.C_below HR.out hB); have R1 := Aside0.mk hR; have C1 := Aside0.mk hc1; have B1 := Aside0.mk hB; clear hR hc1 hB) | ((with_reducible refine gate_dst (N := 23) rfl ?_); refine make8 w.heap.size (w0 := w) rfl (N := 23) rfl 24 5 (.tmp 22) (.tmp 22) rfl (8 + S.length + l.length) rfl rfl (by omega) Try.underlying24 infoB (by omega) B1.out B1.out.size ?_; intro g w2 hg hg2 _ hR hB hB2; clear p0 p1 p3; have p0 := (hB.cell (World.block_lt_of_cell? w _ hp0)).trans hp0; have p1 := (hB.cell (World.block_lt_of_cell? w _ hp1)).trans hp1; have p3 := (hB.cell (World.block_lt_of_cell? w _ hp3)).trans hp3; have R2 := Aside0.mk hR; have B2 := Aside0.mk hB; have n4 := Aside0.mk (Kd.C_below R1.out hB2); have n5 := Aside0.mk (far_c8 R1.out hg2); clear R1 A3; have R1 := n4; have FA := n5; have A3 := Aside0.mk (Kd.C_below HR.out hB); have FB := Aside0.mk hg; clear hR hB hg hg2 hB2 n4 n5) | ((with_reducible refine gate_store (t := 5) (p := 34) rfl ?_); refine store8 w.heap.size (w0 := w) rfl rfl 5 (.tmp 34) (.tmp 33) rfl 5 g _ _ 4 _ _ rfl rfl infoB1 R2.out (by omega) B2.out ?_; intro w4 hR hB hG; have n4 := Aside0.mk (c8_grown R1.out FA.out hG); clear R1; have R1 := n4; clear n4; clear p0 p1 p3; have p0 := (hB.cell (World.block_lt_of_cell? w _ hp0)).trans hp0; have p1 := (hB.cell (World.block_lt_of_cell? w _ hp1)).trans hp1; have p3 := (hB.cell (World.block_lt_of_cell? w _ hp3)).trans hp3; have n1 := Aside0.mk hR; have n2 := Aside0.mk hB; have n3 := Aside0.mk (Kd.C_below HR.out hB); clear R2 B2 A3; have R2 := n1; have B2 := n2; have A3 := n3; clear n1 n2 n3 hR hB; clear hG) | ((with_reducible refine gate_store (t := 5) (p := 38) rfl ?_); refine store8 w.heap.size (w0 := w) rfl rfl 5 (.tmp 38) (.tmp 37) rfl 5 g _ _ 5 _ _ rfl rfl infoB1 R2.out (by omega) B2.out ?_; intro w5 hR hB hG; have n4 := Aside0.mk (c8_grown R1.out FA.out hG); clear R1; have R1 := n4; clear n4; clear p0 p1 p3; have p0 := (hB.cell (World.block_lt_of_cell? w _ hp0)).trans hp0; have p1 := (hB.cell (World.block_lt_of_cell? w _ hp1)).trans hp1; have p3 := (hB.cell (World.block_lt_of_cell? w _ hp3)).trans hp3; have n1 := Aside0.mk hR; have n2 := Aside0.mk hB; have n3 := Aside0.mk (Kd.C_below HR.out hB); clear R2 B2 A3; have R2 := n1; have B2 := n2; have A3 := n3; clear n1 n2 n3 hR hB; clear hG) | ((with_reducible refine gate_store (t := 5) (p := 43) rfl ?_); refine store8 w.heap.size (w0 := w) rfl rfl 5 (.tmp 43) (.tmp 42) rfl 5 g _ _ 6 _ _ rfl rfl infoB1 R2.out (by omega) B2.out ?_; intro w6 hR hB hG; have n4 := Aside0.mk (c8_grown R1.out FA.out hG); clear R1; have R1 := n4; clear n4; clear p0 p1 p3; have p0 := (hB.cell (World.block_lt_of_cell? w _ hp0)).trans hp0; have p1 := (hB.cell (World.block_lt_of_cell? w _ hp1)).trans hp1; have p3 := (hB.cell (World.block_lt_of_cell? w _ hp3)).trans hp3; have n1 := Aside0.mk hR; have n2 := Aside0.mk hB; have n3 := Aside0.mk (Kd.C_below HR.out hB); clear R2 B2 A3; have R2 := n1; have B2 := n2; have A3 := n3; clear n1 n2 n3 hR hB; clear hG) | ((with_reducible refine gate_store (t := 5) (p := 47) rfl ?_); refine store8 w.heap.size (w0 := w) rfl rfl 5 (.tmp 47) (.tmp 46) rfl 5 g _ _ 7 _ _ rfl rfl infoB1 R2.out (by omega) B2.out ?_; intro w7 hR hB hG; have n4 := Aside0.mk (c8_grown R1.out FA.out hG); clear R1; have R1 := n4; clear n4; clear p0 p1 p3; have p0 := (hB.cell (World.block_lt_of_cell? w _ hp0)).trans hp0; have p1 := (hB.cell (World.block_lt_of_cell? w _ hp1)).trans hp1; have p3 := (hB.cell (World.block_lt_of_cell? w _ hp3)).trans hp3; have n1 := Aside0.mk hR; have n2 := Aside0.mk hB; have n3 := Aside0.mk (Kd.C_below HR.out hB); clear R2 B2 A3; have R2 := n1; have B2 := n2; have A3 := n3; clear n1 n2 n3 hR hB; clear hG) | ((with_reducible refine gate_dst (N := 53) rfl ?_); refine copy8 w.heap.size (w0 := w) rfl (.tmp 51) (.tmp 52) 24 24 5 rfl Try.underlying24 infoB g _ _ 8 _ _ _ S _ _ _ rfl ?hz1 rfl (by first | rfl | omega) R2.out R1.out (by omega) B2.out B2.out.size ?_; (case hz1 => intro hz; first | rfl | (simp; omega) | (split <;> first | rfl | omega)); intro w8 hR hB hG; clear p0 p1 p3; have p0 := (hB.cell (World.block_lt_of_cell? w _ hp0)).trans hp0; have p1 := (hB.cell (World.block_lt_of_cell? w _ hp1)).trans hp1; have p3 := (hB.cell (World.block_lt_of_cell? w _ hp3)).trans hp3; have n1 := Aside0.mk hR; have n2 := Aside0.mk hB; have n3 := Aside0.mk (Kd.C_below HR.out hB); clear R2 B2 A3; have R2 := n1; have B2 := n2; have A3 := n3; clear n1 n2 n3 hR hB; clear hG))
  have s2 : (0 : Int) ≤ 8 + (S.length : Int) := by omega
  have s3 : (8 + (S.length : Int)).toNat = 8 + S.length := by omega
  have s4 : (8 : Int) + (S.length : Int) ≤ 8 + (S.length : Int) + (l.length : Int) := by omega
  have s1 : IntKind.i64.wrap (8 + (S.length : Int)) = 8 + (S.length : Int) := IntWalk.i64_in _ (by omega)
  go_still_tail 8, (by kernel_rfl)
  clear s1 s2 s3 s4
  change wpList _ _ _ _ _ w8.drew
  have n1 := Aside0.mk (Kd.R_drew R2.out)
  have n2 := Aside0.mk (below_drew B2.out)
  have n3 := Aside0.mk (Kd.C_drew A3.out)
  generalize w8.drew = w9 at n1 n2 n3 ⊢
  clear R2 B2 A3 R1 p0 p1 p3
  have R2 := n1
  have B2 := n2
  have A3 := n3
  clear n1 n2 n3
  refine copy8 w.heap.size (w0 := w) (o := ⟨some 62, _, _, _, _, _⟩) rfl (.tmp 57) (.tmp 61) 24 24 5 rfl Try.underlying24 infoB g _ _ (8 + S.length) _ _ _ l _ _ _ rfl ?hz2 rfl (by first | rfl | omega) R2.out A3.out (by omega) B2.out B2.out.size ?_
  case hz2 => intro hz; first | rfl | (simp; omega) | (split <;> first | rfl | omega)
  intro w10 hR hB hG
  have n1 := Aside0.mk hR
  have n2 := Aside0.mk hB
  clear R2 B2 A3 hR hB hG
  have R2 := n1
  have B2 := n2
  clear n1 n2
  go_wp2
  go_ret
  have HF := R2.out
  refine ⟨_, rfl, ?_, B2.out⟩
  rw [min_self' (by omega), min_self' (by omega), List.take_length, List.take_length, note_list0] at HF
  exact HF

set_option maxHeartbeats 1600000 in
set_option maxRecDepth 100000 in
theorem note_false2 (b : Nat) (s : ByteArray) (S : List Int) (A : Option Addr) (c : Nat) (w : World)
    (hp0 : w.cell? ⟨b, 0, none⟩ = some (.string s)) (hp1 : w.cell? ⟨b, 1, none⟩ = some (.slice A ([] : List Int).length c)) (hp3 : w.cell? ⟨b, 3, none⟩ = some (.bool false))
    (hr : C8 w A ([] : List Int)) (hc : ([] : List Int).length ≤ c) (h1 : S.length ≤ 65535) (hS : bytesOf s = S) (e1 : ¬ S.length = 0) :
    Calls Try.prog 31 #[.pointer (some ⟨b, 0, none⟩)] w fun e w' => ∃ v, e = .returned v ∧ R8 5 w' w.heap.size v (ntf 0 S ([] : List Int)) ∧ Below w.heap.size w w' := by
  have HR := Aside0.mk hr
  have HC := Aside0.mk hc
  clear hr hc
  have h1' : s.size ≤ 65535 := by have := bytesOf_len s; rw [hS] at this; omega
  have hl0 : ([] : List Int).length = 0 := rfl
  have HSS := Aside0.mk hS
  clear hS
  go_enter Try.func31, Try.ntmps31
  go_wp2_with (first | ((with_reducible refine gate_dst (N := 11) rfl ?_); refine conv8 rfl 9 24 5 (.tmp 10) rfl s S HSS.out rfl Try.underlying9 Try.underlying24 Try.underlying5 (by omega) ?_; intro A1 c1 w1 hR hc1 hB; have p0 := (hB.cell (World.block_lt_of_cell? w _ hp0)).trans hp0; have p1 := (hB.cell (World.block_lt_of_cell? w _ hp1)).trans hp1; have p3 := (hB.cell (World.block_lt_of_cell? w _ hp3)).trans hp3; have A3 := Aside0.mk (Kd.C_below HR.out hB); have R1 := Aside0.mk hR; have C1 := Aside0.mk hc1; have B1 := Aside0.mk hB; clear hR hc1 hB) | ((with_reducible refine gate_dst (N := 23) rfl ?_); refine make8 w.heap.size (w0 := w) rfl (N := 23) rfl 24 5 (.tmp 22) (.tmp 22) rfl (8 + S.length + ([] : List Int).length) rfl rfl (by omega) Try.underlying24 infoB (by omega) B1.out B1.out.size ?_; intro g w2 hg hg2 _ hR hB hB2; clear p0 p1 p3; have p0 := (hB.cell (World.block_lt_of_cell? w _ hp0)).trans hp0; have p1 := (hB.cell (World.block_lt_of_cell? w _ hp1)).trans hp1; have p3 := (hB.cell (World.block_lt_of_cell? w _ hp3)).trans hp3; have R2 := Aside0.mk hR; have B2 := Aside0.mk hB; have n4 := Aside0.mk (Kd.C_below R1.out hB2); have n5 := Aside0.mk (far_c8 R1.out hg2); clear R1 A3; have R1 := n4; have FA := n5; have A3 := Aside0.mk (Kd.C_below HR.out hB); have FB := Aside0.mk hg; clear hR hB hg hg2 hB2 n4 n5) | ((with_reducible refine gate_store (t := 5) (p := 34) rfl ?_); refine store8 w.heap.size (w0 := w) rfl rfl 5 (.tmp 34) (.tmp 33) rfl 5 g _ _ 4 _ _ rfl rfl infoB1 R2.out (by omega) B2.out ?_; intro w4 hR hB hG; have n4 := Aside0.mk (c8_grown R1.out FA.out hG); clear R1; have R1 := n4; clear n4; clear p0 p1 p3; have p0 := (hB.cell (World.block_lt_of_cell? w _ hp0)).trans hp0; have p1 := (hB.cell (World.block_lt_of_cell? w _ hp1)).trans hp1; have p3 := (hB.cell (World.block_lt_of_cell? w _ hp3)).trans hp3; have n1 := Aside0.mk hR; have n2 := Aside0.mk hB; have n3 := Aside0.mk (Kd.C_below HR.out hB); clear R2 B2 A3; have R2 := n1; have B2 := n2; have A3 := n3; clear n1 n2 n3 hR hB; clear hG) | ((with_reducible refine gate_store (t := 5) (p := 38) rfl ?_); refine store8 w.heap.size (w0 := w) rfl rfl 5 (.tmp 38) (.tmp 37) rfl 5 g _ _ 5 _ _ rfl rfl infoB1 R2.out (by omega) B2.out ?_; intro w5 hR hB hG; have n4 := Aside0.mk (c8_grown R1.out FA.out hG); clear R1; have R1 := n4; clear n4; clear p0 p1 p3; have p0 := (hB.cell (World.block_lt_of_cell? w _ hp0)).trans hp0; have p1 := (hB.cell (World.block_lt_of_cell? w _ hp1)).trans hp1; have p3 := (hB.cell (World.block_lt_of_cell? w _ hp3)).trans hp3; have n1 := Aside0.mk hR; have n2 := Aside0.mk hB; have n3 := Aside0.mk (Kd.C_below HR.out hB); clear R2 B2 A3; have R2 := n1; have B2 := n2; have A3 := n3; clear n1 n2 n3 hR hB; clear hG) | ((with_reducible refine gate_store (t := 5) (p := 43) rfl ?_); refine store8 w.heap.size (w0 := w) rfl rfl 5 (.tmp 43) (.tmp 42) rfl 5 g _ _ 6 _ _ rfl rfl infoB1 R2.out (by omega) B2.out ?_; intro w6 hR hB hG; have n4 := Aside0.mk (c8_grown R1.out FA.out hG); clear R1; have R1 := n4; clear n4; clear p0 p1 p3; have p0 := (hB.cell (World.block_lt_of_cell? w _ hp0)).trans hp0; have p1 := (hB.cell (World.block_lt_of_cell? w _ hp1)).trans hp1; have p3 := (hB.cell (World.block_lt_of_cell? w _ hp3)).trans hp3; have n1 := Aside0.mk hR; have n2 := Aside0.mk hB; have n3 := Aside0.mk (Kd.C_below HR.out hB); clear R2 B2 A3; have R2 := n1; have B2 := n2; have A3 := n3; clear n1 n2 n3 hR hB; clear hG) | ((with_reducible refine gate_store (t := 5) (p := 47) rfl ?_); refine store8 w.heap.size (w0 := w) rfl rfl 5 (.tmp 47) (.tmp 46) rfl 5 g _ _ 7 _ _ rfl rfl infoB1 R2.out (by omega) B2.out ?_; intro w7 hR hB hG; have n4 := Aside0.mk (c8_grown R1.out FA.out hG); clear R1; have R1 := n4; clear n4; clear p0 p1 p3; have p0 := (hB.cell (World.block_lt_of_cell? w _ hp0)).trans hp0; have p1 := (hB.cell (World.block_lt_of_cell? w _ hp1)).trans hp1; have p3 := (hB.cell (World.block_lt_of_cell? w _ hp3)).trans hp3; have n1 := Aside0.mk hR; have n2 := Aside0.mk hB; have n3 := Aside0.mk (Kd.C_below HR.out hB); clear R2 B2 A3; have R2 := n1; have B2 := n2; have A3 := n3; clear n1 n2 n3 hR hB; clear hG) | ((with_reducible refine gate_dst (N := 53) rfl ?_); refine copy8 w.heap.size (w0 := w) rfl (.tmp 51) (.tmp 52) 24 24 5 rfl Try.underlying24 infoB g _ _ 8 _ _ _ S _ _ _ rfl ?hz1 rfl (by first | rfl | omega) R2.out R1.out (by omega) B2.out B2.out.size ?_; (case hz1 => intro hz; first | rfl | (simp; omega) | (split <;> first | rfl | omega)); intro w8 hR hB hG; clear p0 p1 p3; have p0 := (hB.cell (World.block_lt_of_cell? w _ hp0)).trans hp0; have p1 := (hB.cell (World.block_lt_of_cell? w _ hp1)).trans hp1; have p3 := (hB.cell (World.block_lt_of_cell? w _ hp3)).trans hp3; have n1 := Aside0.mk hR; have n2 := Aside0.mk hB; have n3 := Aside0.mk (Kd.C_below HR.out hB); clear R2 B2 A3; have R2 := n1; have B2 := n2; have A3 := n3; clear n1 n2 n3 hR hB; clear hG))
  have s2 : (0 : Int) ≤ 8 + (S.length : Int) := by omega
  have s3 : (8 + (S.length : Int)).toNat = 8 + S.length := by omega
  have s4 : (8 : Int) + (S.length : Int) ≤ 8 + (S.length : Int) + (([] : List Int).length : Int) := by omega
  have s1 : IntKind.i64.wrap (8 + (S.length : Int)) = 8 + (S.length : Int) := IntWalk.i64_in _ (by omega)
  go_still_tail 8, (by kernel_rfl)
  clear s1 s2 s3 s4
  change wpList _ _ _ _ _ w8.drew
  have n1 := Aside0.mk (Kd.R_drew R2.out)
  have n2 := Aside0.mk (below_drew B2.out)
  have n3 := Aside0.mk (Kd.C_drew A3.out)
  generalize w8.drew = w9 at n1 n2 n3 ⊢
  clear R2 B2 A3 R1 p0 p1 p3
  have R2 := n1
  have B2 := n2
  have A3 := n3
  clear n1 n2 n3
  refine copy8 w.heap.size (w0 := w) (o := ⟨some 62, _, _, _, _, _⟩) rfl (.tmp 57) (.tmp 61) 24 24 5 rfl Try.underlying24 infoB g _ _ (8 + S.length) _ _ _ ([] : List Int) _ _ _ rfl ?hz2 rfl (by first | rfl | omega) R2.out A3.out (by omega) B2.out B2.out.size ?_
  case hz2 => intro hz; first | rfl | (simp; omega) | (split <;> first | rfl | omega)
  intro w10 hR hB hG
  have n1 := Aside0.mk hR
  have n2 := Aside0.mk hB
  clear R2 B2 A3 hR hB hG
  have R2 := n1
  have B2 := n2
  clear n1 n2
  go_wp2
  go_ret
  have HF := R2.out
  refine ⟨_, rfl, ?_, B2.out⟩
  rw [min_self' (by omega), min_self' (by omega), List.take_length, List.take_length, note_list0] at HF
  exact HF

set_option maxHeartbeats 1600000 in
set_option maxRecDepth 100000 in
theorem note_false3 (b : Nat) (s : ByteArray) (A : Option Addr) (c : Nat) (w : World)
    (hp0 : w.cell? ⟨b, 0, none⟩ = some (.string s)) (hp1 : w.cell? ⟨b, 1, none⟩ = some (.slice A ([] : List Int).length c)) (hp3 : w.cell? ⟨b, 3, none⟩ = some (.bool false))
    (hr : C8 w A ([] : List Int)) (hc : ([] : List Int).length ≤ c) (hS : bytesOf s = []) :
    Calls Try.prog 31 #[.pointer (some ⟨b, 0, none⟩)] w fun e w' => ∃ v, e = .returned v ∧ R8 5 w' w.heap.size v (ntf 0 ([] : List Int) ([] : List Int)) ∧ Below w.heap.size w w' := by
  have HR := Aside0.mk hr
  have HC := Aside0.mk hc
  clear hr hc
  have h1' : s.size ≤ 65535 := by have := bytesOf_len s; rw [hS] at this; simp at this; omega
  have hl0 : ([] : List Int).length = 0 := rfl
  have HSS := Aside0.mk hS
  clear hS
  go_enter Try.func31, Try.ntmps31
  go_wp2_with (first | ((with_reducible refine gate_dst (N := 11) rfl ?_); refine conv8 rfl 9 24 5 (.tmp 10) rfl s ([] : List Int) HSS.out rfl Try.underlying9 Try.underlying24 Try.underlying5 (by omega) ?_; intro A1 c1 w1 hR hc1 hB; have p0 := (hB.cell (World.block_lt_of_cell? w _ hp0)).trans hp0; have p1 := (hB.cell (World.block_lt_of_cell? w _ hp1)).trans hp1; have p3 := (hB.cell (World.block_lt_of_cell? w _ hp3)).trans hp3; have A3 := Aside0.mk (Kd.C_below HR.out hB); have R1 := Aside0.mk hR; have C1 := Aside0.mk hc1; have B1 := Aside0.mk hB; clear hR hc1 hB) | ((with_reducible refine gate_dst (N := 23) rfl ?_); refine make8 w.heap.size (w0 := w) rfl (N := 23) rfl 24 5 (.tmp 22) (.tmp 22) rfl (8 + ([] : List Int).length + ([] : List Int).length) rfl rfl (by omega) Try.underlying24 infoB (by omega) B1.out B1.out.size ?_; intro g w2 hg hg2 _ hR hB hB2; clear p0 p1 p3; have p0 := (hB.cell (World.block_lt_of_cell? w _ hp0)).trans hp0; have p1 := (hB.cell (World.block_lt_of_cell? w _ hp1)).trans hp1; have p3 := (hB.cell (World.block_lt_of_cell? w _ hp3)).trans hp3; have R2 := Aside0.mk hR; have B2 := Aside0.mk hB; have n4 := Aside0.mk (Kd.C_below R1.out hB2); have n5 := Aside0.mk (far_c8 R1.out hg2); clear R1 A3; have R1 := n4; have FA := n5; have A3 := Aside0.mk (Kd.C_below HR.out hB); have FB := Aside0.mk hg; clear hR hB hg hg2 hB2 n4 n5) | ((with_reducible refine gate_store (t := 5) (p := 34) rfl ?_); refine store8 w.heap.size (w0 := w) rfl rfl 5 (.tmp 34) (.tmp 33) rfl 5 g _ _ 4 _ _ rfl rfl infoB1 R2.out (by omega) B2.out ?_; intro w4 hR hB hG; have n4 := Aside0.mk (c8_grown R1.out FA.out hG); clear R1; have R1 := n4; clear n4; clear p0 p1 p3; have p0 := (hB.cell (World.block_lt_of_cell? w _ hp0)).trans hp0; have p1 := (hB.cell (World.block_lt_of_cell? w _ hp1)).trans hp1; have p3 := (hB.cell (World.block_lt_of_cell? w _ hp3)).trans hp3; have n1 := Aside0.mk hR; have n2 := Aside0.mk hB; have n3 := Aside0.mk (Kd.C_below HR.out hB); clear R2 B2 A3; have R2 := n1; have B2 := n2; have A3 := n3; clear n1 n2 n3 hR hB; clear hG) | ((with_reducible refine gate_store (t := 5) (p := 38) rfl ?_); refine store8 w.heap.size (w0 := w) rfl rfl 5 (.tmp 38) (.tmp 37) rfl 5 g _ _ 5 _ _ rfl rfl infoB1 R2.out (by omega) B2.out ?_; intro w5 hR hB hG; have n4 := Aside0.mk (c8_grown R1.out FA.out hG); clear R1; have R1 := n4; clear n4; clear p0 p1 p3; have p0 := (hB.cell (World.block_lt_of_cell? w _ hp0)).trans hp0; have p1 := (hB.cell (World.block_lt_of_cell? w _ hp1)).trans hp1; have p3 := (hB.cell (World.block_lt_of_cell? w _ hp3)).trans hp3; have n1 := Aside0.mk hR; have n2 := Aside0.mk hB; have n3 := Aside0.mk (Kd.C_below HR.out hB); clear R2 B2 A3; have R2 := n1; have B2 := n2; have A3 := n3; clear n1 n2 n3 hR hB; clear hG) | ((with_reducible refine gate_store (t := 5) (p := 43) rfl ?_); refine store8 w.heap.size (w0 := w) rfl rfl 5 (.tmp 43) (.tmp 42) rfl 5 g _ _ 6 _ _ rfl rfl infoB1 R2.out (by omega) B2.out ?_; intro w6 hR hB hG; have n4 := Aside0.mk (c8_grown R1.out FA.out hG); clear R1; have R1 := n4; clear n4; clear p0 p1 p3; have p0 := (hB.cell (World.block_lt_of_cell? w _ hp0)).trans hp0; have p1 := (hB.cell (World.block_lt_of_cell? w _ hp1)).trans hp1; have p3 := (hB.cell (World.block_lt_of_cell? w _ hp3)).trans hp3; have n1 := Aside0.mk hR; have n2 := Aside0.mk hB; have n3 := Aside0.mk (Kd.C_below HR.out hB); clear R2 B2 A3; have R2 := n1; have B2 := n2; have A3 := n3; clear n1 n2 n3 hR hB; clear hG) | ((with_reducible refine gate_store (t := 5) (p := 47) rfl ?_); refine store8 w.heap.size (w0 := w) rfl rfl 5 (.tmp 47) (.tmp 46) rfl 5 g _ _ 7 _ _ rfl rfl infoB1 R2.out (by omega) B2.out ?_; intro w7 hR hB hG; have n4 := Aside0.mk (c8_grown R1.out FA.out hG); clear R1; have R1 := n4; clear n4; clear p0 p1 p3; have p0 := (hB.cell (World.block_lt_of_cell? w _ hp0)).trans hp0; have p1 := (hB.cell (World.block_lt_of_cell? w _ hp1)).trans hp1; have p3 := (hB.cell (World.block_lt_of_cell? w _ hp3)).trans hp3; have n1 := Aside0.mk hR; have n2 := Aside0.mk hB; have n3 := Aside0.mk (Kd.C_below HR.out hB); clear R2 B2 A3; have R2 := n1; have B2 := n2; have A3 := n3; clear n1 n2 n3 hR hB; clear hG) | ((with_reducible refine gate_dst (N := 53) rfl ?_); refine copy8 w.heap.size (w0 := w) rfl (.tmp 51) (.tmp 52) 24 24 5 rfl Try.underlying24 infoB g _ _ 8 _ _ _ ([] : List Int) _ _ _ rfl ?hz1 rfl (by first | rfl | omega) R2.out R1.out (by omega) B2.out B2.out.size ?_; (case hz1 => intro hz; first | rfl | (simp; omega) | (split <;> first | rfl | omega)); intro w8 hR hB hG; clear p0 p1 p3; have p0 := (hB.cell (World.block_lt_of_cell? w _ hp0)).trans hp0; have p1 := (hB.cell (World.block_lt_of_cell? w _ hp1)).trans hp1; have p3 := (hB.cell (World.block_lt_of_cell? w _ hp3)).trans hp3; have n1 := Aside0.mk hR; have n2 := Aside0.mk hB; have n3 := Aside0.mk (Kd.C_below HR.out hB); clear R2 B2 A3; have R2 := n1; have B2 := n2; have A3 := n3; clear n1 n2 n3 hR hB; clear hG))
  have s1 : IntKind.i64.wrap (8 : Int) = 8 := IntWalk.i64_in _ (by omega)
  have s2 : IntKind.i64.wrap (8 + 0 : Int) = 8 := IntWalk.i64_in _ (by omega)
  go_still_tail 8, (by kernel_rfl)
  clear s1 s2
  change wpList _ _ _ _ _ w8.drew
  have n1 := Aside0.mk (Kd.R_drew R2.out)
  have n2 := Aside0.mk (below_drew B2.out)
  have n3 := Aside0.mk (Kd.C_drew A3.out)
  generalize w8.drew = w9 at n1 n2 n3 ⊢
  clear R2 B2 A3 R1 p0 p1 p3
  have R2 := n1
  have B2 := n2
  have A3 := n3
  clear n1 n2 n3
  refine copy8 w.heap.size (w0 := w) (o := ⟨some 62, _, _, _, _, _⟩) rfl (.tmp 57) (.tmp 61) 24 24 5 rfl Try.underlying24 infoB g _ _ (8 + ([] : List Int).length) _ _ _ ([] : List Int) _ _ _ rfl ?hz2 rfl (by first | rfl | omega) R2.out A3.out (by omega) B2.out B2.out.size ?_
  case hz2 => intro hz; first | rfl | (simp; omega) | (split <;> first | rfl | omega)
  intro w10 hR hB hG
  have n1 := Aside0.mk hR
  have n2 := Aside0.mk hB
  clear R2 B2 A3 hR hB hG
  have R2 := n1
  have B2 := n2
  clear n1 n2
  go_wp2
  go_ret
  have HF := R2.out
  refine ⟨_, rfl, ?_, B2.out⟩
  rw [min_self' (by omega), List.take_length, note_list0] at HF
  exact HF


theorem getData (b : Nat) (s : ByteArray) (A : Option Addr) (c : Nat) (l : List Int) (human : Bool) (w : World)
    (hp0 : w.cell? ⟨b, 0, none⟩ = some (.string s)) (hp1 : w.cell? ⟨b, 1, none⟩ = some (.slice A l.length c)) (hp3 : w.cell? ⟨b, 3, none⟩ = some (.bool human))
    (hr : C8 w A l) (hc : l.length ≤ c) (h1 : s.size ≤ 65535) (h2 : l.length ≤ 65535) :
    Calls Try.prog 31 #[.pointer (some ⟨b, 0, none⟩)] w fun e w' => ∃ v, e = .returned v ∧ R8 5 w' w.heap.size v (ntf (flag human) (bytesOf s) l) ∧ Below w.heap.size w w' := by
  obtain ⟨S, hS⟩ : ∃ S, bytesOf s = S := ⟨_, rfl⟩
  have hl := bytesOf_len s
  rw [hS] at hl ⊢
  cases l with
  | nil =>
    cases S with
    | nil =>
      cases human
      · exact note_false3 b s A c w hp0 hp1 hp3 hr hc hS
      · exact note_true3 b s A c w hp0 hp1 hp3 hr hc hS
    | cons x S =>
      cases human
      · exact note_false2 b s (x :: S) A c w hp0 hp1 hp3 hr hc (by omega) hS (by simp)
      · exact note_true2 b s (x :: S) A c w hp0 hp1 hp3 hr hc (by omega) hS (by simp)
  | cons y l =>
    cases human
    · exact note_false1 b s S A c (y :: l) w hp0 hp1 hp3 hr hc (by omega) h2 hS (by simp; omega) (by simp)
    · exact note_true1 b s S A c (y :: l) w hp0 hp1 hp3 hr hc (by omega) h2 hS (by simp; omega) (by simp)
end Go.Proofs.Ytnjbgmobobffmaa.Note
