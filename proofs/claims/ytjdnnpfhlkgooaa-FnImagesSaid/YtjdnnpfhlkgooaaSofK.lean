/- laws.subsOf. -/
import Derived.Test.YtjdnnpfhlkgooaaSbl
import Derived.Test.YtjdnnpfhlkgooaaSbK
import Derived.Great.BuildSlice
set_option linter.unusedVariables false
set_option linter.unusedSimpArgs false
namespace Go.Proofs.Ytjdnnpfhlkgooaa.Rd
open Go.RowKit Go.Proofs.YtjdnnpfhlkgooaaW.PrintWords Go.Proofs.YtjdnnpfhlkgooaaW.PrintMore Go.Proofs.Ytjdnnpfhlkgooaa.Kit

/-- A part as it comes in; a subpacket as spec has it. -/
def kI : Kd (Int × List Int × Bool) := Kd.pair (Kd.int .u8) (Kd.pair (Kd.slice 5 (Kd.int .u8)) Kd.bool)
def kW : Kd (Int × List Int × List Int) := Kd.pair (Kd.int .i64) (Kd.pair (Kd.slice 5 (Kd.int .u8)) (Kd.slice 5 (Kd.int .u8)))
theorem infoW3 : (Try.prog.info? 68).map (fun i => (i.zero, i.size, i.bytes)) = some (some (.agg #[.int .i64 0, .slice none 0 0, .slice none 0 0]), 3, 56) := by kernel_rfl
def subP (p : Int × List Int × Bool) : Int × List Int × List Int := (p.1, encL p.2.2 (1 + p.2.1.length), p.2.1)
def tot (ps : List (Int × List Int × Bool)) : Nat := (ps.map fun p => 6 + p.2.1.length).sum
theorem tot_take {ps : List (Int × List Int × Bool)} {k : Nat} {p : Int × List Int × Bool} (h : ps[k]? = some p) : tot (ps.take (k + 1)) = tot (ps.take k) + (6 + p.2.1.length) := by
  unfold tot
  rw [List.take_add_one, h, List.map_append, List.sum_append]
  simp
theorem tot_le (ps : List (Int × List Int × Bool)) (k : Nat) : tot (ps.take k) ≤ tot ps := by
  have e : ps.take k ++ ps.drop k = ps := List.take_append_drop k ps
  have q : tot ps = tot (ps.take k) + tot (ps.drop k) := by
    conv => lhs; rw [← e]
    unfold tot
    rw [List.map_append, List.sum_append]
  omega
/-- What subsOf comes to. -/
def SofOut (w : World) (ps : List (Int × List Int × Bool)) (en : Ending) (w' : World) : Prop :=
  (1048576 < tot ps ∧ en = .returned (.tuple #[.slice none 0 0, .slice none 0 0, .bool false]) ∧ Below w.heap.size w w') ∨
  (tot ps ≤ 1048576 ∧ ∃ v1 v2, en = .returned (.tuple #[v1, v2, .bool true]) ∧ Kd.N kS 65 w' w.heap.size (fun _ => True) v1 (ps.map subP) ∧ Kd.N kW 68 w' w.heap.size (fun _ => True) v2 (ps.map subP) ∧ Below w.heap.size w w')
theorem heap_kI : Kd.Heap kI := Kd.heap_pair (Kd.heap_int _) (Kd.heap_pair (Kd.heap_slice _ (Kd.heap_int _)) Kd.heap_scalar)
theorem kI_open {W : World} {ok : Nat → Prop} {x : Int} {C : List Int} {lg : Bool} {cs : List Value} (h : Kd.FK kI W ok (x, C, lg) cs) : ∃ A c, cs = [.int .u8 x, .slice A C.length c, .bool lg] ∧ C.length ≤ c ∧ Kd.F (Kd.int .u8) W ok A C.length C := by
  obtain ⟨cs0, cs1, e, e0, cs2, cs3, e', ⟨A, c, e1, l1, _⟩, e2⟩ := Kd.FK_now h
  have e0' : cs0 = [.int .u8 x] := e0
  have e1' : cs2 = [.slice A C.length c] := e1
  have e2' : cs3 = [.bool lg] := e2
  subst e0' e1' e2' e' e
  refine ⟨A, c, rfl, l1, fun W' hW => ?_⟩
  obtain ⟨ds0, ds1, f, f0, ds2, ds3, f', ⟨A', c', f1, _, r1⟩, f2⟩ := h W' hW
  have f0' : ds0 = [.int .u8 x] := f0
  have f1' : ds2 = [.slice A' C.length c'] := f1
  have f2' : ds3 = [.bool lg] := f2
  subst f0' f1' f2' f'
  have q := congrArg (fun l => l[1]?) f
  have q' : (Value.slice A C.length c) = .slice A' C.length c' := Option.some.inj q
  injection q' with ha _ _
  rw [ha]
  exact r1
theorem fkS {W : World} {ok : Nat → Prop} {x : Int} {k : IntKind} {E C : List Int} {A1 A2 : Option Addr} {c1 c2 n1 n2 : Nat} (e1 : n1 = E.length) (e2 : n2 = C.length) (l1 : n1 ≤ c1) (l2 : n2 ≤ c2) (h1 : Kd.F (Kd.int .u8) W ok A1 n1 E) (h2 : Kd.F (Kd.int .u8) W ok A2 n2 C) :
    Kd.FK (Kd.pair (Kd.int k) (Kd.pair (Kd.slice 5 (Kd.int .u8)) (Kd.slice 5 (Kd.int .u8)))) W ok (x, E, C) [.int k x, .slice A1 n1 c1, .slice A2 n2 c2] := by
  subst e1 e2
  exact fun W' hW => ⟨[.int k x], [.slice A1 E.length c1, .slice A2 C.length c2], rfl, rfl, [.slice A1 E.length c1], [.slice A2 C.length c2], rfl, ⟨A1, c1, rfl, l1, h1 W' hW⟩, ⟨A2, c2, rfl, l2, h2 W' hW⟩⟩
def NatV : Value → Nat
  | .int _ n => n.toNat
  | _ => 0
set_option maxHeartbeats 1600000 in
set_option maxRecDepth 100000 in
theorem subsOf_calls {w : World} {A : Option Addr} {c m : Nat} {ps : List (Int × List Int × Bool)} (h : kI.C w A m ps) (hl : ps.length ≤ 2147500000) (hp : ∀ p, p ∈ ps → p.2.1.length ≤ 2147500000) (hx : ∀ p, p ∈ ps → 0 ≤ p.1 ∧ p.1 ≤ 255) :
    Calls Try.prog 10 #[.slice A m c] w (SofOut w ps) := by
  have HC := Aside0.mk (Kd.C_F (heap_kI) h)
  have HX := Aside0.mk hx
  have ML := Aside0.mk (And.intro (Kd.C_len h) (And.intro hl hp))
  have m9 : m ≤ 9223372036854775807 := Kd.C_max h
  clear h hl hp hx
  go_enter Try.func10, Try.ntmps10
  go_wp2_with fail
  go_loopw [2, 3, 5, 11] (fun iv wv nv kv wr => ∃ (k : Nat) (i2 w2 : Value) (t : Nat), iv = i2 ∧ wv = w2 ∧ kv = .int .i64 (k : Int) ∧ nv = .int .i64 (t : Int) ∧ k ≤ m ∧ t ≤ 1048576 ∧ Aside0 (t = tot (ps.take k)) ∧ Aside0 (Kd.N kS 65 wr w.heap.size (fun k => True ∧ some k ≠ w2.ownBlock) i2 ((ps.take k).map subP) ∧ Kd.N kW 68 wr w.heap.size (fun k => True ∧ some k ≠ i2.ownBlock) w2 ((ps.take k).map subP)) ∧ Aside0 (Below w.heap.size w wr)) (fun _ _ _ kv _ => m - (intOf kv).toNat)
  case atStart => exact ⟨0, _, _, 0, rfl, rfl, rfl, rfl, Nat.zero_le _, by decide, ⟨rfl⟩, ⟨Kd.N_nil _ _ _ _ _, Kd.N_nil _ _ _ _ _⟩, ⟨Below.refl _ _⟩⟩
  case round =>
    obtain ⟨k, i2, w2, t, ei, ew, rfl, rfl, hk, ht, HT, HN, HB⟩ := hrel
    obtain rfl := ei.symm
    obtain rfl := ew.symm
    by_cases hlt : k < m
    · obtain ⟨⟨x, C, lg⟩, es⟩ : ∃ p, ps[k]? = some p := ⟨ps[k]'(by have := ML.out.1; omega), List.getElem?_eq_getElem _⟩
      obtain ⟨ad, cs, rfl, hcl, hK, hcc, _⟩ := Kd.F_get (Kd.F_below HC.out HB.out) (0, [], false) (k : Int) (by omega) (by omega)
      rw [Int.toNat_natCast, List.getD_eq_getElem?_getD, es, Option.getD_some] at hK
      obtain ⟨A1, c1, rfl, l1', r1'⟩ := kI_open hK
      obtain ⟨nC, eC⟩ : ∃ n, C.length = n := ⟨_, rfl⟩
      rw [eC] at hcc l1' r1'
      rw [Int.toNat_natCast] at hcc
      have y0 : wr.cell? (ad.add (k * 3)) = some (.int .u8 x) := hcc 0 _ rfl
      have y1 : wr.cell? ⟨(ad.add (k * 3)).block, (ad.add (k * 3)).off + 1, none⟩ = some (.slice A1 nC c1) := by rw [← add_field _ _ 1 (by omega)]; exact hcc 1 _ rfl
      have y2 : wr.cell? ⟨(ad.add (k * 3)).block, (ad.add (k * 3)).off + 2, none⟩ = some (.bool lg) := by rw [← add_field _ _ 2 (by omega)]; exact hcc 2 _ rfl
      have RC := Aside0.mk r1'
      have LC := Aside0.mk (show nC = C.length ∧ nC ≤ c1 from ⟨eC.symm, l1'⟩)
      have ES := Aside0.mk es
      have nl : nC ≤ 2147500000 := by have := ML.out.2.2 _ (List.mem_of_getElem? es); simp only at this; omega
      have wz1 : IntKind.i64.wrap (6 + (nC : Int)) = 6 + (nC : Int) := IntWalk.i64_in _ (by omega)
      have wz2 : IntKind.i64.wrap ((t : Int) + (6 + (nC : Int))) = (t : Int) + (6 + (nC : Int)) := IntWalk.i64_in _ (by omega)
      have TT := Aside0.mk (show t + (6 + nC) = tot (ps.take (k + 1)) by rw [tot_take es, ← HT.out]; simp only; omega)
      have wx : IntKind.i64.wrap x = x := by have q := HX.out _ (List.mem_of_getElem? es); simp only at q; exact IntWalk.i64_in _ (by omega)
      clear hcc hcl l1' r1' eC es hK
      have iklt : (k : Int) < (m : Int) := by omega
      have ik0 : (0 : Int) ≤ (k : Int) := by omega
      by_cases hbig : 1048576 < t + (6 + nC)
      · have i1 : (1048576 : Int) < (t : Int) + (6 + (nC : Int)) := by omega
        have HBB := Aside0.mk hbig
        clear hbig
        go_wp2_with fail
        go_ret3
        exact .inl ⟨by have := tot_le ps (k + 1); have := TT.out; have := HBB.out; omega, rfl, below_then HB.out HB.out.size (below_alloc (Below.refl _ _) _)⟩
      · have i1 : ¬ (1048576 : Int) < (t : Int) + (6 + (nC : Int)) := by omega
        have HBB := Aside0.mk hbig
        clear hbig
        go_wp2_with fail
        obtain ⟨W, eW⟩ : ∃ W, wr.alloc (.cells #[.int .u8 x, .slice A1 nC c1, .bool lg] 27) = W := ⟨_, rfl⟩
        have BW : Below wr.heap.size wr W := eW ▸ below_alloc (Below.refl _ _) _
        rw [eW]
        have CC := Aside0.mk (sof_calls (w := W) (x := x) (A := A1) (c := c1) (n := nC) (long := lg) (by have := HBB.out; omega))
        have BB := Aside0.mk BW
        clear eW BW wz1 wz2
        refine CC.out.mono ?_
        rintro en w1 ⟨v, rfl, hR, hB⟩
        obtain ⟨A3, c3, e3, l3, _⟩ := Kd.R_reads hR
        obtain ⟨n3, en3⟩ : ∃ k, (encL lg (1 + nC)).length = k := ⟨_, rfl⟩
        rw [en3] at e3 l3
        subst e3
        obtain ⟨W2, eW2⟩ : ∃ W2, w1.alloc (.cells #[.int .u8 x, .slice A3 n3 c3, .slice A1 nC c1] 65) = W2 := ⟨_, rfl⟩
        have hrow := heap_alloc_new w1 (.cells #[.int .u8 x, .slice A3 n3 c3, .slice A1 nC c1] 65)
        have B12 : Below w1.heap.size w1 W2 := eW2 ▸ below_alloc (Below.refl _ _) _
        rw [eW2] at hrow
        have Br2 : Below wr.heap.size wr W2 := below_then BB.out BB.out.size (below_then hB hB.size B12)
        have HB2 := Aside0.mk (below_then HB.out HB.out.size Br2)
        have HN2 := Aside0.mk (And.intro (Kd.N_below HN.out.1 Br2) (Kd.N_below HN.out.2 Br2))
        have FE := Aside0.mk (show Kd.F (Kd.int .u8) W2 (fun j => j < w.heap.size ∨ wr.heap.size ≤ j) A3 n3 (encL lg (1 + nC)) from by
          have q := Kd.F_mono (Kd.R_F (Kd.R_bound (Kd.R_below hR B12))) (ok' := (fun j => j < w.heap.size ∨ wr.heap.size ≤ j)) (fun j q => .inr (Nat.le_trans BB.out.size q.2.1))
          exact q)
        have FC := Aside0.mk (Kd.F_mono (Kd.F_below RC.out Br2) (ok' := (fun j => j < w.heap.size ∨ wr.heap.size ≤ j)) (fun j q => .inl q))
        have OW := Aside0.mk (show (∀ k, i2.ownBlock = some k → w.heap.size ≤ k ∧ k < wr.heap.size) ∧ (∀ k, w2.ownBlock = some k → w.heap.size ≤ k ∧ k < wr.heap.size) ∧ wr.heap.size ≤ w1.heap.size ∧ w1.heap.size < W2.heap.size from ⟨fun k e => ⟨Kd.N_base HN.out.1 k e, Kd.N_lt HN.out.1 k e⟩, fun k e => ⟨Kd.N_base HN.out.2 k e, Kd.N_lt HN.out.2 k e⟩, Nat.le_trans BB.out.size hB.size, blk_lt hrow⟩)
        have EL := Aside0.mk (And.intro en3.symm l3)
        have KL := Aside0.mk (show ((ps.take k).map subP).length ≤ 2147500000 by rw [List.length_map, List.length_take]; have := ML.out.2.1; omega)
        have HROW := Aside0.mk hrow
        clear hR hB Br2 B12 hrow en3 l3
        go_upto_region 9 with (fail)
        clear eW2
        obtain ⟨g8, eg⟩ : ∃ g, w1.heap.size = g := ⟨_, rfl⟩
        rw [eg] at HROW OW ⊢
        clear eg
        have x0 := (cell_of_row _ _ 0 _ _ _ HROW.out).trans rfl
        have x1 := (cell_of_row _ _ 1 _ _ _ HROW.out).trans rfl
        have x2 := (cell_of_row _ _ 2 _ _ _ HROW.out).trans rfl
        go_upto_region 10 with (((with_reducible refine gate_dst (N := 28) rfl ?_); go_loud (refine Kd.N_append kS (w0 := w) (W := W2) w.heap.size rfl (.tmp 25) (.tmp 27) 30 65 (.agg #[.int .u8 0, .slice none 0 0, .slice none 0 0]) 56 rfl Try.underlying30 infoS3 rfl (by decide) (by decide) i2 ((ps.take k).map subP) (x, encL lg (1 + nC), C) [.int .u8 x, .slice A3 n3 c3, .slice A1 nC c1] (fun j => True ∧ some j ≠ w2.ownBlock) (fun j => j < w.heap.size ∨ wr.heap.size ≤ j) rfl rfl (fkS EL.out.1 LC.out.1 EL.out.2 LC.out.2 FE.out FC.out) ?hk ?hf HN2.out.1 HB2.out HB2.out.size ?hl ?_; (case hk => intro j hj; exact ⟨⟨trivial, fun e => by have := OW.out.2.1 j e.symm; omega⟩, fun e => by have := OW.out.1 j e.symm; omega⟩); (case hf => intro j hj; exact ⟨trivial, fun e => by have := OW.out.2.1 j e.symm; have := OW.out.2.2; omega⟩); (case hl => have := KL.out; omega); intro v1 w3 hN hB hG hAt; have N3 := Aside0.mk hN; have B3 := Aside0.mk hB; have G3 := Aside0.mk (And.intro hG hAt); clear hN hB hG hAt)))
        have M3 := Aside0.mk (Kd.N_after HN2.out.2 G3.out.1 G3.out.2)
        have FE3 := Aside0.mk (Kd.F_step (Kd.F_mono (Kd.F_bound FE.out) (ok' := fun j => (j < w.heap.size ∨ wr.heap.size ≤ j) ∧ j < W2.heap.size) (fun _ q => q)) (W1 := w3) (fun j hj hlt => G3.out.1.block j hlt (fun e => by have := OW.out.1 j e.symm; omega)))
        have FC3 := Aside0.mk (Kd.F_step (Kd.F_mono (Kd.F_bound FC.out) (ok' := fun j => (j < w.heap.size ∨ wr.heap.size ≤ j) ∧ j < W2.heap.size) (fun _ q => q)) (W1 := w3) (fun j hj hlt => G3.out.1.block j hlt (fun e => by have := OW.out.1 j e.symm; omega)))
        have hr8 := (G3.out.1.block g8 (blk_lt HROW.out) (fun e => by have := OW.out.1 g8 e.symm; have := OW.out.2.2; omega)).trans HROW.out
        have x0 := (cell_of_row _ _ 0 _ _ _ hr8).trans rfl
        have x1 := (cell_of_row _ _ 1 _ _ _ hr8).trans rfl
        have x2 := (cell_of_row _ _ 2 _ _ _ hr8).trans rfl
        have O3 := Aside0.mk (show ∀ j, v1.ownBlock = some j → (w.heap.size ≤ j ∧ j < wr.heap.size) ∨ W2.heap.size ≤ j from fun j e => by
          rcases G3.out.2 with q | ⟨b, q, hle⟩
          · exact .inl (OW.out.1 j (q ▸ e))
          · rw [q] at e; injection e with e; exact .inr (by omega))
        have FK3 := Aside0.mk (fkS (k := .i64) (x := x) (c1 := c3) (c2 := c1) EL.out.1 LC.out.1 EL.out.2 LC.out.2 FE3.out FC3.out)
        clear hr8
        go_upto_region 11 with (((with_reducible refine gate_dst (N := 39) rfl ?_); go_loud (refine Kd.N_append kW (w0 := w) (W := w3) w.heap.size rfl (.tmp 29) (.tmp 38) 31 68 (.agg #[.int .i64 0, .slice none 0 0, .slice none 0 0]) 56 rfl Try.underlying31 infoW3 rfl (by decide) (by decide) w2 ((ps.take k).map subP) (x, encL lg (1 + nC), C) [.int .i64 x, .slice A3 n3 c3, .slice A1 nC c1] (fun j => True ∧ some j ≠ v1.ownBlock) (fun j => (j < w.heap.size ∨ wr.heap.size ≤ j) ∧ j < W2.heap.size) rfl rfl FK3.out ?hk ?hf M3.out B3.out B3.out.size ?hl ?_; (case hk => intro j hj; exact ⟨⟨trivial, fun e => by have := O3.out j e.symm; omega⟩, fun e => by have := OW.out.2.1 j e.symm; omega⟩); (case hf => intro j hj; exact ⟨trivial, fun e => by have := Kd.N_lt N3.out j e.symm; omega⟩); (case hl => have := KL.out; omega); intro v4 w4 hN hB hG hAt; have N4 := Aside0.mk hN; have B4 := Aside0.mk hB; have G4 := Aside0.mk (And.intro hG hAt); clear hN hB hG hAt)))
        have M4 := Aside0.mk (Kd.N_after N3.out G4.out.1 G4.out.2)
        go_wp2_with fail
        go_roundw
        case rel =>
          have es := ES.out
          have e1 : (ps.take k).map subP ++ [(x, encL lg (1 + nC), C)] = (ps.take (k + 1)).map subP := by
            rw [List.take_add_one, es, List.map_append]
            simp only [Option.toList_some, List.map_cons, List.map_nil, subP]
            rw [← LC.out.1]
          refine ⟨k + 1, v1, v4, t + (6 + nC), rfl, rfl, by first | rfl | go_num, by first | rfl | go_num, hlt, by have := HBB.out; omega, TT, ⟨?_, ?_⟩, B4⟩
          · rw [← e1]; exact M4.out
          · rw [← e1]; exact N4.out
        case measure => simp [intOf]; omega
    · obtain rfl : k = m := by omega
      have ek : ps.take k = ps := List.take_of_length_le (by have := ML.out.1; omega)
      rw [ek] at HT HN
      go_wp2_with fail
      go_ret3
      exact .inr ⟨by rw [← HT.out]; exact ht, _, _, rfl, Kd.N_mono HN.out.1 (fun _ _ => trivial), Kd.N_mono HN.out.2 (fun _ _ => trivial), HB.out⟩
end Go.Proofs.Ytjdnnpfhlkgooaa.Rd
