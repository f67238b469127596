/- impl.subpackets of one subpacket; impl.WriteSub. -/
import Derived.Test.YtfhefoaieefnkaaDoorSer
import Derived.Test.YtfhefoaieefnkaaDoorSbs
set_option linter.unusedVariables false
set_option linter.unusedSimpArgs false
namespace Go.Proofs.YtfhefoaieefnkaaDoor.Rd
open Go.RowKit Go.Proofs.YtfhefoaieefnkaaDoorW.PrintWords Go.Proofs.YtfhefoaieefnkaaDoorW.PrintMore Go.Proofs.YtfhefoaieefnkaaDoor.Kit

theorem below_al {W w' : World} (h : Below W.heap.size W w') (o : Obj) : Below W.heap.size W (w'.alloc o) := h.alloc h.size o
/-- What a call leaves where Q is told of blocks below hi alone. -/
def Stay (Q : World → Prop) (hi : Nat) : Prop := ∀ (W1 W2 : World) (T : Nat → Prop), Q W1 → Tch T W1 W2 → (∀ j, T j → hi ≤ j) → Q W2
/-- One pointer in a row, to a subpacket. -/
def One (w w' : World) (v : Value) (x : Int) (E C : List Int) : Prop :=
  ∃ gv cv b Q, v = .slice (some ⟨gv, 0, none⟩) 1 cv ∧ w'.cell? ⟨gv, 0, none⟩ = some (.pointer (some ⟨b, 0, none⟩)) ∧ SbAt Q w' b x E C ∧ Q w' ∧ Stay Q w'.heap.size ∧ Below w.heap.size w w'
set_option maxHeartbeats 1600000 in
set_option maxRecDepth 100000 in
theorem spk_one {w : World} {g0 nE nC c1 c2 : Nat} {x : Int} {A1 A2 : Option Addr} {E C : List Int} (x0 : w.cell? ⟨g0, 0, none⟩ = some (.int .u8 x)) (x1 : w.cell? ⟨g0, 1, none⟩ = some (.slice A1 nE c1)) (x2 : w.cell? ⟨g0, 2, none⟩ = some (.slice A2 nC c2)) (r1 : C8 w A1 E) (r2 : C8 w A2 C) (eE : nE = E.length) (eC : nC = C.length) (hE : nE ≤ 5) (hC : nC ≤ 100000000) :
    Calls Tryd.prog 54 #[.slice (some ⟨g0, 0, none⟩) 1 1] w fun en w' => ∃ v, en = .returned (.tuple #[v, .bool true]) ∧ One w w' v x E C := by
  have X := Aside0.mk (And.intro x0 (And.intro x1 x2))
  have R := Aside0.mk (And.intro r1 (And.intro r2 (And.intro eE eC)))
  clear x0 x1 x2 r1 r2 eE eC
  go_enter Tryd.func54, Tryd.ntmps54
  go_wp2_with fail
  go_loopw [4, 9] (fun ov iv wr => (iv = .int .i64 0 ∧ ov = .slice none 0 0 ∧ wr = w) ∨ (iv = .int .i64 1 ∧ Aside0 (One w wr ov x E C))) (fun _ iv _ => 1 - (intOf iv).toNat)
  case atStart => exact .inl ⟨rfl, rfl, rfl⟩
  case round =>
    rcases hrel with ⟨rfl, rfl, rfl⟩ | ⟨rfl, HO⟩
    · have x0 := X.out.1
      have x1 := X.out.2.1
      have x2 := X.out.2.2
      go_wp2_with fail
      have BA : Below wr.heap.size wr (wr.alloc (.cells #[.int .u8 x, .slice A1 nE c1, .slice A2 nC c2] 50)) := below_alloc (Below.refl _ _) _
      have hrow := heap_alloc_new wr (.cells #[.int .u8 x, .slice A1 nE c1, .slice A2 nC c2] 50)
      have gl := blk_lt hrow
      have BB := Aside0.mk BA
      obtain ⟨r1, r2, eE, eC⟩ := R.out
      have RE := Aside0.mk (Kd.C_below r1 BA)
      have RC := Aside0.mk (Kd.C_below r2 BA)
      have LE := Aside0.mk (show nE = E.length ∧ E.length ≤ 140737488355328 from ⟨eE, by omega⟩)
      have LC := Aside0.mk (show nC = C.length ∧ C.length ≤ 140737488355328 from ⟨eC, by omega⟩)
      clear x0 x1 x2 X R r1 r2 BA eE eC
      generalize wr.alloc (.cells #[.int .u8 x, .slice A1 nE c1, .slice A2 nC c2] 50) = W at hrow gl BB RE RC ⊢
      obtain ⟨g6, eg⟩ : ∃ g, wr.heap.size = g := ⟨_, rfl⟩
      have EG := Aside0.mk eg
      rw [eg] at hrow gl ⊢
      clear eg
      have Y0 : ∀ W', Below W.heap.size W W' → W'.cell? ⟨g6, 0, none⟩ = some (.int .u8 x) := fun W' hB => (hB.cell (p := ⟨g6, 0, none⟩) gl).trans ((cell_of_row _ _ 0 _ _ _ hrow).trans rfl)
      have Y1 : ∀ W', Below W.heap.size W W' → W'.cell? ⟨g6, 1, none⟩ = some (.slice A1 nE c1) := fun W' hB => (hB.cell (p := ⟨g6, 1, none⟩) gl).trans ((cell_of_row _ _ 1 _ _ _ hrow).trans rfl)
      have Y2 : ∀ W', Below W.heap.size W W' → W'.cell? ⟨g6, 2, none⟩ = some (.slice A2 nC c2) := fun W' hB => (hB.cell (p := ⟨g6, 2, none⟩) gl).trans ((cell_of_row _ _ 2 _ _ _ hrow).trans rfl)
      have BW : Below W.heap.size W W := Below.refl _ _
      clear hrow gl
      go_region_held3 (fun w' => Below W.heap.size W w') (first | assumption | (exact below_drew (by assumption)) | (exact below_al (by assumption) _) | (exact below_al (below_al (by assumption) _) _) | (exact below_drew (below_al (below_al (below_al (by assumption) _) _) _)) | (focus (go_grown; done)) | go_keep) ((first | (go_at_call 57; (with_reducible refine (own_calls (Kd.C_below RE.out (by assumption)) LE.out.1 LE.out.2).mono ?_); rintro en w5 ⟨v5, rfl, hR, hB⟩; obtain ⟨A5, c5', e5, _, _⟩ := Kd.R_reads hR; rw [← LE.out.1] at e5; subst e5; have R5 := Aside0.mk hR; have T5 := Aside0.mk hB; have hB0 : Below W.heap.size W w5 := below_then (by assumption) (Below.size (by assumption)) hB; clear hR hB) | (go_at_call 57; (with_reducible refine (own_calls (Kd.C_below RC.out (by assumption)) LC.out.1 LC.out.2).mono ?_); rintro en w6 ⟨v6, rfl, hR, hB⟩; obtain ⟨A6, c6', e6, _, _⟩ := Kd.R_reads hR; rw [← LC.out.1] at e6; subst e6; have R6 := Aside0.mk hR; have T6 := Aside0.mk hB; have hB0 : Below W.heap.size W w6 := below_then (by assumption) (Below.size (by assumption)) hB; clear hR hB)))
      have BW6 : Below W.heap.size W w6 := by assumption
      generalize (Question.appendCap 1 0 127).cut (w6.tape w6.drawn (Question.appendCap 1 0 127)) = cp
      obtain ⟨W9, e9⟩ : ∃ W9, (((w6.alloc (.cells #[.int .u8 x, .slice A5 nE c5', .slice A6 nC c6'] 180)).alloc (.cells #[.pointer (some ⟨w6.heap.size, 0, none⟩)] 127)).alloc (.cells (#[.pointer (some ⟨w6.heap.size, 0, none⟩)] ++ Builtin.zeroCells #[.pointer none] (cp - 1)) 127)).drew = W9 := ⟨_, rfl⟩
      have T9 : Below w6.heap.size w6 W9 := e9 ▸ below_drew (below_al (below_al (below_al (Below.refl w6.heap.size w6) (.cells #[.int .u8 x, .slice A5 nE c5', .slice A6 nC c6'] 180)) (.cells #[.pointer (some ⟨w6.heap.size, 0, none⟩)] 127)) (.cells (#[.pointer (some ⟨w6.heap.size, 0, none⟩)] ++ Builtin.zeroCells #[.pointer none] (cp - 1)) 127))
      have hrow1 : W9.heap[w6.heap.size]? = some (.cells #[.int .u8 x, .slice A5 nE c5', .slice A6 nC c6'] 180 (0, 0)) := by
        have q := (below_drew (below_al (below_al (Below.refl _ (w6.alloc (.cells #[.int .u8 x, .slice A5 nE c5', .slice A6 nC c6'] 180))) (.cells #[.pointer (some ⟨w6.heap.size, 0, none⟩)] 127)) (.cells (#[.pointer (some ⟨w6.heap.size, 0, none⟩)] ++ Builtin.zeroCells #[.pointer none] (cp - 1)) 127))).block w6.heap.size (by simp)
        rw [e9] at q
        exact q.trans (heap_alloc_new _ _)
      have hp : W9.cell? ⟨w6.heap.size + 1 + 1, 0, none⟩ = some (.pointer (some ⟨w6.heap.size, 0, none⟩)) := by
        have q := heap_alloc_new ((w6.alloc (.cells #[.int .u8 x, .slice A5 nE c5', .slice A6 nC c6'] 180)).alloc (.cells #[.pointer (some ⟨w6.heap.size, 0, none⟩)] 127)) (.cells (#[.pointer (some ⟨w6.heap.size, 0, none⟩)] ++ Builtin.zeroCells #[.pointer none] (cp - 1)) 127)
        have z : ((w6.alloc (.cells #[.int .u8 x, .slice A5 nE c5', .slice A6 nC c6'] 180)).alloc (.cells #[.pointer (some ⟨w6.heap.size, 0, none⟩)] 127)).heap.size = w6.heap.size + 1 + 1 := by simp
        rw [z] at q
        have q2 := cell_of_row _ _ 0 _ _ _ q
        rw [← e9]
        exact q2.trans (by rw [Array.getElem?_append_left (show 0 < 1 from Nat.zero_lt_one)]; rfl)
      rw [e9]
      have F := Aside0.mk (And.intro T9 (And.intro hrow1 hp))
      have B9 := Aside0.mk (below_then BW6 BW6.size T9)
      clear e9 T9 hrow1 hp
      go_wp2_with fail
      go_roundw
      case rel =>
        refine .inr ⟨rfl, ⟨?_⟩⟩
        obtain ⟨T9, hrow1, hp⟩ := F.out
        have q5 := Kd.R_below (Kd.R_below R5.out T6.out) T9
        have q6 := Kd.R_below R6.out T9
        have n5 := Kd.R_reads' q5
        have n6 := Kd.R_reads' q6
        refine ⟨w6.heap.size + 1 + 1, cp, w6.heap.size, fun W => C8 W A5 E ∧ C8 W A6 C, rfl, hp, ⟨A5, c5', A6, c6', (cell_of_row _ _ 0 _ _ _ hrow1).trans rfl, (cell_of_row _ _ 1 _ _ _ hrow1).trans (by rw [← LE.out.1]; rfl), by rw [← LE.out.1]; exact n5.2.1, fun W h => h.1, (cell_of_row _ _ 2 _ _ _ hrow1).trans (by rw [← LC.out.1]; rfl), by rw [← LC.out.1]; exact n6.2.1, fun W h => h.2⟩, ⟨n5.2.2, n6.2.2⟩, ?_, below_then BB.out BB.out.size B9.out⟩
        rintro W1 W2 T ⟨h1, h2⟩ hT hj
        refine ⟨hT.c8 h1 (fun ad e _ t => ?_), hT.c8 h2 (fun ad e _ t => ?_)⟩
        · subst e; have := Kd.R_lt q5 ad.block rfl; have := hj _ t; omega
        · subst e; have := Kd.R_lt q6 ad.block rfl; have := hj _ t; omega
      case measure => simp [intOf]
    · go_wp2_with fail
      go_ret2
      exact ⟨_, rfl, HO.out⟩
set_option maxHeartbeats 1600000 in
set_option maxRecDepth 100000 in
theorem ws_calls {w : World} {nE nC c1 c2 : Nat} {x : Int} {A1 A2 : Option Addr} {E C : List Int} (r1 : C8 w A1 E) (r2 : C8 w A2 C) (eE : nE = E.length) (eC : nC = C.length) (hE : nE ≤ 5) (hE1 : 1 ≤ nE) (hC : nC ≤ 100000000) :
    Calls Tryd.prog 27 #[.agg #[.int .u8 x, .slice A1 nE c1, .slice A2 nC c2]] w fun en w' => ∃ v, en = .returned (.tuple #[v, .bool true]) ∧ R8 5 w' w.heap.size v (E ++ x :: C) ∧ Below w.heap.size w w' := by
  have R := Aside0.mk (And.intro r1 (And.intro r2 (And.intro eE eC)))
  clear r1 r2 eE eC
  go_enter Tryd.func27, Tryd.ntmps27
  go_wp2_with fail
  obtain ⟨W, eW⟩ : ∃ W, (w.alloc (.cells #[.int .u8 x, .slice A1 nE c1, .slice A2 nC c2] 50)).alloc (.cells #[.int .u8 x, .slice A1 nE c1, .slice A2 nC c2] 50) = W := ⟨_, rfl⟩
  have BW : Below w.heap.size w W := eW ▸ below_al (below_al (Below.refl _ w) _) _
  have hrow : W.heap[w.heap.size + 1]? = some (.cells #[.int .u8 x, .slice A1 nE c1, .slice A2 nC c2] 50 (0, 0)) := by
    have q := heap_alloc_new (w.alloc (.cells #[.int .u8 x, .slice A1 nE c1, .slice A2 nC c2] 50)) (.cells #[.int .u8 x, .slice A1 nE c1, .slice A2 nC c2] 50)
    have z : (w.alloc (.cells #[.int .u8 x, .slice A1 nE c1, .slice A2 nC c2] 50)).heap.size = w.heap.size + 1 := by simp
    rw [z, eW] at q
    exact q
  rw [eW]
  obtain ⟨r1, r2, eE, eC⟩ := R.out
  have CC := Aside0.mk (spk_one ((cell_of_row _ _ 0 _ _ _ hrow).trans rfl) ((cell_of_row _ _ 1 _ _ _ hrow).trans rfl) ((cell_of_row _ _ 2 _ _ _ hrow).trans rfl) (Kd.C_below r1 BW) (Kd.C_below r2 BW) eE eC hE hC)
  have BB := Aside0.mk BW
  clear eW BW hrow r1 r2 eE eC
  refine CC.out.mono ?_
  rintro en w1 ⟨v, rfl, gv, cv, b, Q, rfl, hp, hS, hq, hst, hB⟩
  obtain ⟨W2, eW2, hs2, hB2⟩ := snk_new w1.heap.size w1 (Nat.le_refl _)
  have S2 := Aside0.mk hs2
  have hp2 := (hB2.cell (p := ⟨gv, 0, none⟩) (World.block_lt_of_cell? w1 _ hp)).trans hp
  have Sb := Aside0.mk (hS.kept (hB2.block b hS.lt))
  have bl := hS.lt
  have QQ := Aside0.mk (show ∀ W, Tch (fun j => j = w1.heap.size ∨ (Value.slice none 0 0).ownBlock = some j) W2 W → Q W from fun W hT => hst _ _ _ (hst _ _ _ hq (Tch.of_below (S := fun _ => False) hB2) (fun _ f => f.elim)) hT (fun j t => by rcases t with t | t; omega; simp [Value.ownBlock] at t))
  have B2 := Aside0.mk (below_then (below_then BB.out BB.out.size hB) (below_then BB.out BB.out.size hB).size hB2)
  have CC2 := Aside0.mk (ser_calls S2.out Sb.out QQ.out (by omega) (by simp [Value.ownBlock]) (by have := R.out.2.2.1; omega) (by have := R.out.2.2.1; omega) (by have := R.out.2.2.2; omega) (by simp))
  have SZ := Aside0.mk (show w.heap.size ≤ w1.heap.size from (below_then BB.out BB.out.size hB).size)
  clear hp hS hq hst hB hs2 hB2 bl
  go_upto_region 5 with (fail)
  clear eW2
  obtain ⟨s, es⟩ : ∃ s, w1.heap.size = s := ⟨_, rfl⟩
  rw [es] at CC2 S2 SZ ⊢
  clear es QQ
  go_wp2_with fail
  refine CC2.out.mono ?_
  rintro en w3 ⟨rfl, ⟨v3, hs3⟩, hT⟩
  have S3 := Aside0.mk hs3
  have c0 := hs3.c0
  have T3 := Aside0.mk hT
  clear hs3 hT hp2
  go_wp2_with fail
  go_ret2
  refine ⟨_, rfl, ?_, T3.out.below B2.out B2.out.size (fun k q => Nat.le_trans SZ.out q)⟩
  have q := S3.out.rd
  rw [List.nil_append] at q
  exact Kd.R_lower q SZ.out
end Go.Proofs.YtfhefoaieefnkaaDoor.Rd
