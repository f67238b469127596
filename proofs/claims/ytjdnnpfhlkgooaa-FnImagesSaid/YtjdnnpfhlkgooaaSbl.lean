/- spec.SubLength, laws.subOf. -/
import Derived.Test.YtjdnnpfhlkgooaaOwn
import Derived.Test.YtjdnnpfhlkgooaaOct
import Derived.Test.YtjdnnpfhlkgooaaMem
import Derived.Great.BuildSlice
set_option linter.unusedVariables false
set_option linter.unusedSimpArgs false
namespace Go.Proofs.Ytjdnnpfhlkgooaa.Rd
open Go.RowKit Go.Proofs.YtjdnnpfhlkgooaaW.PrintWords Go.Proofs.YtjdnnpfhlkgooaaW.PrintMore Go.Proofs.Ytjdnnpfhlkgooaa.Kit

/-- A subpacket's length in as few octets as it can be; in five. -/
def encS (n : Nat) : List Int := if n < 192 then [(n : Int)] else if n < 16320 then [((n : Int) - 192) / 256 + 192, ((n : Int) - 192) % 256] else 255 :: oct (n : Int) 4
def encL (long : Bool) (n : Nat) : List Int := if long = true then 255 :: oct (n : Int) 4 else encS n
theorem below_als {W w' : World} (h : Below W.heap.size W w') (o : Obj) : Below W.heap.size W (w'.alloc o) := h.alloc h.size o
theorem litN (w : World) (xs : List Int) (h : xs.length ≤ 5) : R8 5 (w.alloc (.cells (nums .u8 xs).toArray 5)) w.heap.size (.slice (some ⟨w.heap.size, 0, none⟩) xs.length xs.length) xs := Kd.R_of_own (own_lit w w.heap.size 5 .u8 xs (Nat.le_refl _) (by omega)) (fun _ _ => trivial)
set_option maxHeartbeats 1600000 in
set_option maxRecDepth 100000 in
theorem sbl_calls (w : World) (n : Nat) (hn : n ≤ 10000000) :
    Calls Try.prog 34 #[.int .i64 (n : Int)] w fun en w' => ∃ v, en = .returned v ∧ R8 5 w' w.heap.size v (encS n) ∧ Below w.heap.size w w' := by
  by_cases h1 : n < 192
  · have i1 : (n : Int) < 192 := by omega
    have wr : IntKind.u8.wrap (n : Int) = (n : Int) := IntWalk.u8_in _ (by omega)
    have e : encS n = [(n : Int)] := if_pos h1
    rw [e]
    have h0 := Aside0.mk h1
    clear e h1 hn
    go_enter Try.func34, Try.ntmps34
    go_wp2_with fail
    go_ret
    exact ⟨_, rfl, litN w [(n : Int)] (by simp), below_alloc (Below.refl _ _) _⟩
  · by_cases h2 : n < 16320
    · have i1 : ¬ (n : Int) < 192 := by omega
      have i2 : (n : Int) < 16320 := by omega
      have e : encS n = [((n : Int) - 192) / 256 + 192, ((n : Int) - 192) % 256] := by unfold encS; rw [if_neg h1, if_pos h2]
      rw [e]
      go_enter Try.func34, Try.ntmps34
      go_wp2_with fail
      go_ret
      exact ⟨_, rfl, litN w [((n : Int) - 192) / 256 + 192, ((n : Int) - 192) % 256] (by simp), below_alloc (Below.refl _ _) _⟩
    · have i1 : ¬ (n : Int) < 192 := by omega
      have i2 : ¬ (n : Int) < 16320 := by omega
      have e : encS n = 255 :: oct (n : Int) 4 := by unfold encS; rw [if_neg h1, if_neg h2]
      rw [e]
      have h0 := Aside0.mk (And.intro h1 (And.intro h2 hn))
      clear e h1 h2 hn
      go_enter Try.func34, Try.ntmps34
      go_wp2_with fail
      have C : Calls Try.prog 35 #[.int .i64 (n : Int), .int .i64 4] (w.alloc (.cells #[.int .u8 255] 5)) _ := octets_calls (n : Int) 4 (w.alloc (.cells #[.int .u8 255] 5)) (by omega) (by have := h0.out.2.2; omega) (by decide)
      refine C.mono ?_
      rintro en w1 ⟨v, rfl, hR, hB⟩
      obtain ⟨A1, c1, rfl, hc1, hC1⟩ := Kd.R_reads hR
      have L1 : R8 5 (w.alloc (.cells #[.int .u8 255] 5)) w.heap.size (.slice (some ⟨w.heap.size, 0, none⟩) 1 1) [255] := litN w [255] (by decide)
      have R1 := Aside0.mk (Kd.R_below L1 hB)
      have HC := Aside0.mk hC1
      have B1 := Aside0.mk (below_then (below_alloc (Below.refl w.heap.size w) (.cells #[.int .u8 255] 5)) (below_alloc (Below.refl w.heap.size w) (.cells #[.int .u8 255] 5)).size hB)
      have lo : (oct (n : Int) 4).length = 4 := oct_length _ _
      rw [lo]
      have LO := Aside0.mk lo
      clear L1 hR hB hC1 hc1 C lo
      go_wp2_with (((with_reducible refine gate_dst (N := 24) rfl ?_); go_loud (refine append8 w.heap.size (w0 := w) rfl (.tmp 21) (.tmp 23) 25 5 rfl Try.underlying25 infoB (.slice (some ⟨w.heap.size, 0, none⟩) 1 1) [255] (oct (n : Int) 4) A1 c1 rfl rfl LO.out.symm R1.out HC.out B1.out B1.out.size ?hl ?_; (case hl => rw [LO.out]; decide); intro v2 w2 hR hB _ _; have R2 := Aside0.mk hR; have B2 := Aside0.mk hB; clear hR hB)))
      go_ret
      exact ⟨_, rfl, R2.out, B2.out⟩
set_option maxHeartbeats 1600000 in
set_option maxRecDepth 100000 in
/-- laws.subOf: a subpacket with its length. -/
theorem sof_calls {w : World} {x : Int} {A : Option Addr} {c n : Nat} {long : Bool} (hn : n ≤ 5000000) :
    Calls Try.prog 23 #[.agg #[.int .u8 x, .slice A n c, .bool long]] w fun en w' => ∃ v, en = .returned (.agg #[.int .u8 x, v, .slice A n c]) ∧ R8 5 w' w.heap.size v (encL long (1 + n)) ∧ Below w.heap.size w w' := by
  have HN := Aside0.mk hn
  have wz : IntKind.i64.wrap (1 + (n : Int)) = 1 + (n : Int) := IntWalk.i64_in _ (by omega)
  clear hn
  go_enter Try.func23, Try.ntmps23
  go_wp2_with fail
  obtain ⟨W, eW⟩ : ∃ W, (w.alloc (.cells #[.int .u8 x, .slice A n c, .bool long] 27)).alloc (.cells #[.int .u8 0, .slice none 0 0, .slice none 0 0] 65) = W := ⟨_, rfl⟩
  have B0 : Below w.heap.size w W := eW ▸ below_als (below_als (Below.refl _ w) _) _
  have row1 : W.heap[w.heap.size]? = some (.cells #[.int .u8 x, .slice A n c, .bool long] 27 (0, 0)) := by
    have q := (below_als (Below.refl _ (w.alloc (.cells #[.int .u8 x, .slice A n c, .bool long] 27))) (.cells #[.int .u8 0, .slice none 0 0, .slice none 0 0] 65)).block w.heap.size (by simp)
    rw [eW] at q
    exact q.trans (heap_alloc_new _ _)
  have row2 : W.heap[w.heap.size + 1]? = some (.cells #[.int .u8 0, .slice none 0 0, .slice none 0 0] 65 (0, 0)) := by
    have q := heap_alloc_new (w.alloc (.cells #[.int .u8 x, .slice A n c, .bool long] 27)) (.cells #[.int .u8 0, .slice none 0 0, .slice none 0 0] 65)
    have z : (w.alloc (.cells #[.int .u8 x, .slice A n c, .bool long] 27)).heap.size = w.heap.size + 1 := by simp
    rw [z, eW] at q
    exact q
  rw [eW]
  have C := sbl_calls W (1 + n) (by have := HN.out; omega)
  rw [show ((1 + n : Nat) : Int) = 1 + (n : Int) by omega] at C
  have CC := Aside0.mk C
  have BB := Aside0.mk B0
  have ROW := Aside0.mk (And.intro row1 row2)
  clear eW B0 row1 row2 C wz
  refine CC.out.mono ?_
  rintro en w1 ⟨v, rfl, hR, hB⟩
  have B1 := Aside0.mk (below_then BB.out BB.out.size hB)
  have R1 := Aside0.mk (Kd.R_lower hR BB.out.size)
  have RB := Aside0.mk hR
  have SZ := Aside0.mk (blk_lt ROW.out.2)
  obtain ⟨A3, c3, rfl, _, _⟩ := Kd.R_reads hR
  obtain ⟨n3, e3⟩ : ∃ k, (encS (1 + n)).length = k := ⟨_, rfl⟩
  rw [e3] at R1 RB ⊢
  have r1 := (hB.block _ (blk_lt ROW.out.1)).trans ROW.out.1
  have r2 := (hB.block _ (blk_lt ROW.out.2)).trans ROW.out.2
  have ROW1 := Aside0.mk (And.intro r1 r2)
  clear hR hB e3 r1 r2
  obtain ⟨g, eg⟩ : ∃ g, w.heap.size = g := ⟨_, rfl⟩
  have EG := Aside0.mk eg
  rw [eg] at ROW1 B1 R1 BB ROW SZ ⊢
  clear eg
  have key : ∀ (w2 : World) (A4 : Option Addr) (n4 c4 : Nat), R8 5 w2 g (.slice A4 n4 c4) (encL long (1 + n)) → Below g w w2 → Below w1.heap.size w1 w2 → True := fun _ _ _ _ _ _ _ => trivial
  clear key
  have x0 := (cell_of_row _ _ 0 _ _ _ ROW1.out.1).trans rfl
  have x1 := (cell_of_row _ _ 1 _ _ _ ROW1.out.1).trans rfl
  have x2 := (cell_of_row _ _ 2 _ _ _ ROW1.out.1).trans rfl
  have NG := Aside0.mk (show ∀ (k : Nat), (Value.slice A3 n3 c3).ownBlock = some k → g + 2 ≤ k from fun k e => by have := Kd.R_base RB.out k e; have := SZ.out; omega)
  cases long
  · have y0 := (cell_of_row _ _ 0 _ _ _ ROW1.out.2).trans rfl
    have y1 := (cell_of_row _ _ 1 _ _ _ ROW1.out.2).trans rfl
    have y2 := (cell_of_row _ _ 2 _ _ _ ROW1.out.2).trans rfl
    have z0 := frozen_of_row _ _ 0 _ _ ROW1.out.2
    have z1 := frozen_of_row _ _ 1 _ _ ROW1.out.2
    have z2 := frozen_of_row _ _ 2 _ _ ROW1.out.2
    go_wp2_with fail
    have rowA := blk_put (blk_put (blk_put ROW1.out.2 0 (.int .u8 x) rfl) 1 (.slice A3 n3 c3) rfl) 2 (.slice A n c) rfl
    refine bodyPost_ret (results_cell_row rfl _ _ (g + 1) 65 #[.int .u8 x, .slice A3 n3 c3, .slice A n c] (0, 0) _ rfl rowA Try.underlying65 rfl (by kernel_rfl)) rfl ?_
    have hT : Tch (fun j => j = g + 1) w1 (((w1.setCell ⟨g + 1, 0, none⟩ (.int .u8 x)).setCell ⟨g + 1, 1, none⟩ (.slice A3 n3 c3)).setCell ⟨g + 1, 2, none⟩ (.slice A n c)) := (((Tch.refl (fun j => j = g + 1) w1).setCell (p := ⟨g + 1, 0, none⟩) (fun _ => rfl) _).setCell (p := ⟨g + 1, 1, none⟩) (fun _ => rfl) _).setCell (p := ⟨g + 1, 2, none⟩) (fun _ => rfl) _
    refine ⟨_, rfl, ?_, ?_⟩
    · rw [EG.out]
      have q := R1.out
      refine hT.r8 q (fun k e => by have := NG.out k e; omega)
    · rw [EG.out]
      exact hT.below (EG.out ▸ B1.out) (EG.out ▸ (B1.out).size) (fun k q => by omega)
  · obtain ⟨W5, e5⟩ : ∃ W5, w1.alloc (.cells #[.int .u8 255] 5) = W5 := ⟨_, rfl⟩
    have B5 : Below w1.heap.size w1 W5 := e5 ▸ below_alloc (Below.refl _ _) _
    have L5 : R8 5 W5 w1.heap.size (.slice (some ⟨w1.heap.size, 0, none⟩) 1 1) [255] := e5 ▸ litN w1 [255] (by simp)
    have C5 := octets_calls (1 + (n : Int)) 4 W5 (by omega) (by have := HN.out; omega) (by decide)
    have C5' : Calls Try.prog 35 #[.int .i64 (1 + (n : Int)), .int .i64 4] W5 (fun e w' => ∃ v, e = .returned v ∧ R8 5 w' W5.heap.size v (oct (1 + (n : Int)) 4) ∧ Below W5.heap.size W5 w') := C5
    have CC5 := Aside0.mk C5'
    have LL5 := Aside0.mk L5
    have BB5 := Aside0.mk B5
    clear C5 C5' L5 B5
    go_wp2_with fail
    clear e5
    refine CC5.out.mono ?_
    rintro en w6 ⟨v6, rfl, hR, hB⟩
    obtain ⟨A6, c6, rfl, hc6, hC6⟩ := Kd.R_reads hR
    have R6 := Aside0.mk (Kd.R_below LL5.out hB)
    have HC6 := Aside0.mk hC6
    have B6 := Aside0.mk (below_then BB5.out BB5.out.size hB)
    have lo : (oct (1 + (n : Int)) 4).length = 4 := oct_length _ _
    rw [lo]
    have LO := Aside0.mk lo
    clear hR hB hC6 hc6 lo
    go_upto_region 5 with (((with_reducible refine gate_dst (N := 16) rfl ?_); go_loud (refine append8 w1.heap.size (w0 := w1) rfl (.tmp 13) (.tmp 15) 25 5 rfl Try.underlying25 infoB (.slice (some ⟨w1.heap.size, 0, none⟩) 1 1) [255] (oct (1 + (n : Int)) 4) A6 c6 rfl rfl LO.out.symm R6.out HC6.out B6.out B6.out.size ?hl ?_; (case hl => rw [LO.out]; decide); intro v2 w2 hR hB _ _; have R7 := Aside0.mk hR; have B7 := Aside0.mk hB; clear hR hB)))
    obtain ⟨A7, c7, e7, _, _⟩ := Kd.R_reads R7.out
    obtain ⟨n7, en7⟩ : ∃ k, ([255] ++ oct (1 + (n : Int)) 4).length = k := ⟨_, rfl⟩
    rw [en7] at e7
    subst e7
    clear en7
    have ra := (B7.out.block _ (blk_lt ROW1.out.1)).trans ROW1.out.1
    have rb := (B7.out.block _ (blk_lt ROW1.out.2)).trans ROW1.out.2
    have ROW7 := Aside0.mk (And.intro ra rb)
    have x0 := (cell_of_row _ _ 0 _ _ _ ROW7.out.1).trans rfl
    have x1 := (cell_of_row _ _ 1 _ _ _ ROW7.out.1).trans rfl
    have y0 := (cell_of_row _ _ 0 _ _ _ ROW7.out.2).trans rfl
    have y1 := (cell_of_row _ _ 1 _ _ _ ROW7.out.2).trans rfl
    have y2 := (cell_of_row _ _ 2 _ _ _ ROW7.out.2).trans rfl
    have z0 := frozen_of_row _ _ 0 _ _ ROW7.out.2
    have z1 := frozen_of_row _ _ 1 _ _ ROW7.out.2
    have z2 := frozen_of_row _ _ 2 _ _ ROW7.out.2
    have B8 := Aside0.mk (below_then B1.out (by have := B1.out.size; have := EG.out; omega) B7.out)
    clear ra rb
    go_wp2_with fail
    have rowA := blk_put (blk_put (blk_put ROW7.out.2 0 (.int .u8 x) rfl) 1 (.slice A7 n7 c7) rfl) 2 (.slice A n c) rfl
    refine bodyPost_ret (results_cell_row rfl _ _ (g + 1) 65 #[.int .u8 x, .slice A7 n7 c7, .slice A n c] (0, 0) _ rfl rowA Try.underlying65 rfl (by kernel_rfl)) rfl ?_
    have hT : Tch (fun j => j = g + 1) w2 (((w2.setCell ⟨g + 1, 0, none⟩ (.int .u8 x)).setCell ⟨g + 1, 1, none⟩ (.slice A7 n7 c7)).setCell ⟨g + 1, 2, none⟩ (.slice A n c)) := (((Tch.refl (fun j => j = g + 1) w2).setCell (p := ⟨g + 1, 0, none⟩) (fun _ => rfl) _).setCell (p := ⟨g + 1, 1, none⟩) (fun _ => rfl) _).setCell (p := ⟨g + 1, 2, none⟩) (fun _ => rfl) _
    refine ⟨_, rfl, ?_, ?_⟩
    · rw [EG.out]
      have q := (Kd.R_lower R7.out (EG.out ▸ B1.out.size))
      refine hT.r8 q (fun k e => by have := Kd.R_base R7.out k e; have := blk_lt ROW1.out.2; omega)
    · rw [EG.out]
      exact hT.below (EG.out ▸ B8.out) (EG.out ▸ (B8.out).size) (fun k q => by omega)
end Go.Proofs.Ytjdnnpfhlkgooaa.Rd
