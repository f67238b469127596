/- impl.WithoutRemarks. -/
import Derived.Test.YtjdnnpfhlkgooaaRmk
set_option linter.unusedVariables false
set_option linter.unusedSimpArgs false
namespace Go.Proofs.Ytjdnnpfhlkgooaa.Rmk
open Go.RowKit Go.Proofs.YtjdnnpfhlkgooaaW.PrintWords Go.Proofs.YtjdnnpfhlkgooaaW.PrintMore Go.Proofs.Ytjdnnpfhlkgooaa.Kit

/-- A signature at block s, v its notations, whose names are ns. -/
structure Sg (base : Nat) (w : World) (s : Nat) (v : Value) (bs : List Nat) (ns : List ByteArray) : Prop where
  c0 : w.cell? ⟨s, 32, none⟩ = some v
  z0 : w.frozen? ⟨s, 32, none⟩ = false
  hs : base ≤ s
  rd : kP.R 102 w base (fun _ => True) v bs
  nw : v.ownBlock ≠ some s
  at_ : At w bs ns
  nb : ∀ b, b ∈ bs → b ≠ s ∧ v.ownBlock ≠ some b
section
variable {base : Nat} {w w1 : World} {s : Nat} {v : Value} {bs : List Nat} {ns : List ByteArray}
theorem Sg.lt (h : Sg base w s v bs ns) : s < w.heap.size := World.block_lt_of_cell? w _ h.c0
theorem Sg.below (h : Sg base w s v bs ns) (hB : Below w.heap.size w w1) : Sg base w1 s v bs ns :=
  { h with
    c0 := (hB.cell (p := ⟨s, 32, none⟩) h.lt).trans h.c0
    z0 := (hB.frozen (p := ⟨s, 32, none⟩) h.lt).trans h.z0
    rd := Kd.R_below h.rd hB
    at_ := h.at_.below hB }
/-- One notation more. -/
theorem Sg.put {v1 : Value} {b : Nat} {t : ByteArray} (h : Sg base w s v bs ns) (hT : Tch (fun k => v.ownBlock = some k) w w1) (hr : kP.R 102 w1 base (fun _ => True) v1 (bs ++ [b])) (hat : v1.ownBlock = v.ownBlock ∨ ∃ b, v1.ownBlock = some b ∧ w.heap.size ≤ b)
    (hb : w.cell? ⟨b, 0, none⟩ = some (.string t)) (hbs : b ≠ s) (hbv : v.ownBlock ≠ some b) : Sg base (w1.setCell ⟨s, 32, none⟩ v1) s v1 (bs ++ [b]) (ns ++ [t]) := by
  have c0 := hT.cell h.c0 (p := ⟨s, 32, none⟩) h.nw
  have z0 := (hT.frozen (p := ⟨s, 32, none⟩) h.lt h.nw).trans h.z0
  have n1 : ∀ k, k < w.heap.size → v.ownBlock ≠ some k → v1.ownBlock ≠ some k := fun k hk hn e => by
    rcases hat with q | ⟨b, q, q2⟩
    · rw [q] at e; exact hn e
    · rw [q] at e; have := Option.some.inj e; omega
  have hS : Tch (fun j => j = s) w1 (w1.setCell ⟨s, 32, none⟩ v1) := (Tch.refl (fun j => j = s) w1).setCell (p := ⟨s, 32, none⟩) (fun _ => rfl) _
  have bl := World.block_lt_of_cell? w _ hb
  have a1 : At w1 (bs ++ [b]) (ns ++ [t]) := (h.at_.kept (fun c hc => hT.block c (h.at_.lt hc) (h.nb c hc).2)).snoc (hT.cell hb (p := ⟨b, 0, none⟩) hbv)
  have nb1 : ∀ c, c ∈ bs ++ [b] → c ≠ s ∧ v1.ownBlock ≠ some c := fun c hc => by
    rcases List.mem_append.1 hc with q | q
    · exact ⟨(h.nb c q).1, n1 c (h.at_.lt q) (h.nb c q).2⟩
    · rw [List.mem_singleton.1 q]; exact ⟨hbs, n1 b bl hbv⟩
  exact {
    c0 := by simp [go_sem, *]
    z0 := by simp [go_sem, *]
    rd := Kd.R_mono (Kd.R_step (Kd.R_tight rfl hr) (fun k hk hlt => hS.block k hlt (fun q => n1 s h.lt h.nw (by rw [← q]; exact hk.symm)))) (fun _ _ => trivial)
    nw := n1 s h.lt h.nw
    hs := h.hs
    at_ := a1.kept (fun c hc => hS.block c (a1.lt hc) (nb1 c hc).1)
    nb := nb1 }
end
theorem infoS : (Try.prog.info? 9).map (fun i => (i.zero, i.size, i.bytes)) = some (some (.string ByteArray.empty), 1, 16) := by kernel_rfl
theorem kstr {W : World} {t : ByteArray} {cs : List Value} (h : Kd.string.K W t cs) : cs = [.string t] := h
set_option maxHeartbeats 1600000 in
set_option maxRecDepth 100000 in
theorem zw_calls {w : World} {s : Nat} {v : Value} {base : Nat} {bs : List Nat} {ns : List ByteArray} {name : ByteArray} (h : Sg base w s v bs ns) (hn : ns.length ≤ 100000000) :
    Calls Try.prog 27 #[.pointer (some ⟨s, 0, none⟩), .string name] w (StayOut w s name ns) := by
  have C : Aside0 (Calls Try.prog 36 #[.pointer (some ⟨s, 0, none⟩), .string name] w (StayOut w s name ns)) := by
    obtain ⟨A, c, rfl, l, hC⟩ := Kd.R_reads h.rd
    rcases A with _ | ad
    · have e : bs = [] := by
        cases bs with
        | nil => rfl
        | cons b bs => obtain ⟨ad, _, e, _⟩ := Kd.C_get hC 0 0 (Int.le_refl 0) (by simp); cases e
      subst e
      have e : ns = [] := List.eq_nil_of_length_eq_zero h.at_.1.symm
      subst e
      obtain ⟨_, h2⟩ := Kd.own_of_R h.rd
      rcases h2 with ⟨he, _⟩ | ⟨g, cap, cur, he, _⟩
      · have c0 := h.c0
        rw [he] at c0
        exact ⟨rm_nil c0⟩
      · injection he with he
        cases he
    · exact ⟨rm_calls h.c0 h.z0 hC h.at_ l (by rw [h.at_.1]; exact hn) (fun b hb => (h.nb b hb).1)⟩
  go_enter Try.func27, Try.ntmps27
  go_wp2_with fail
  refine C.out.mono ?_
  rintro en w1 ⟨rfl, h1, h2⟩
  have H1 := Aside0.mk h1
  clear h1
  go_wp2_with fail
  go_returns
  exact ⟨rfl, H1.out, h2⟩
set_option maxHeartbeats 1600000 in
set_option maxRecDepth 100000 in
theorem wr_calls {w : World} {A : Option Addr} {c n : Nat} {ns : List ByteArray} {name : ByteArray} (h : Kd.string.C w A n ns) (hn : n ≤ 10000) :
    Calls Try.prog 14 #[.slice A n c, .string name] w fun en w' => ∃ v, en = .returned v ∧ Kd.string.R 9 w' w.heap.size (fun _ => True) v (stay name ns) ∧ Below w.heap.size w w' := by
  have HC := Aside0.mk h
  have EN := Aside0.mk (Kd.C_len h)
  have n9 : n ≤ 9223372036854775807 := by omega
  clear h
  go_enter Try.func14, Try.ntmps14
  go_upto_region 2 with (fail)
  generalize eW : w.alloc _ = W
  have BW : Below w.heap.size w W := eW ▸ below_alloc (Below.refl _ _) _
  obtain ⟨s, es⟩ : ∃ s, w.heap.size = s := ⟨_, rfl⟩
  have c0 : W.cell? ⟨s, 32, none⟩ = some (.slice none 0 0) := by rw [← eW, ← es]; simp [go_sem]
  have z0 : W.frozen? ⟨s, 32, none⟩ = false := by rw [← eW, ← es]; simp [go_sem]
  have S0 := Aside0.mk (show Sg s W s (.slice none 0 0) [] [] from ⟨c0, z0, Nat.le_refl _, Kd.R_nil _ _ _ _ _, by simp [Value.ownBlock], At.nil _, fun b hb => by cases hb⟩)
  have B0 := Aside0.mk BW
  have ES := Aside0.mk es
  rw [es] at B0 ⊢
  clear eW BW es c0 z0
  go_wp2_with fail
  go_loopw [14] (fun iv wr => ∃ (k : Nat) (rv : Value) (bs : List Nat), iv = .int .i64 (k : Int) ∧ k ≤ n ∧ Aside0 (Sg s wr s rv bs (ns.take k)) ∧ Aside0 (Below s w wr)) (fun iv _ => n - (intOf iv).toNat)
  case atStart => exact ⟨0, _, [], rfl, Nat.zero_le _, ⟨S0.out⟩, ⟨B0.out⟩⟩
  case round =>
    obtain ⟨k, rv, bs, rfl, hk, HS, HB⟩ := hrel
    have BW : Below w.heap.size w wr := by rw [ES.out]; exact HB.out
    by_cases hlt : k < n
    · obtain ⟨ad, cs, rfl, _, hK, hcc⟩ := Kd.C_get (Kd.C_below HC.out BW) ByteArray.empty (k : Int) (by omega) (by omega)
      obtain ⟨t, et⟩ : ∃ t, ns[k]? = some t := ⟨ns[k]'(by have := EN.out; omega), List.getElem?_eq_getElem _⟩
      rw [Int.toNat_natCast, List.getD_eq_getElem?_getD, et, Option.getD_some] at hK
      have e1 := kstr hK
      subst e1
      have hx : wr.cell? (ad.add k) = some (.string t) := by
        have q := hcc 0 _ rfl
        rw [Int.toNat_natCast, show k * Kd.string.sz + 0 = k by show k * 1 + 0 = k; omega] at q
        exact q
      have ET := Aside0.mk et
      have iklt : (k : Int) < (n : Int) := by omega
      have ik0 : (0 : Int) ≤ (k : Int) := by omega
      have c0 := HS.out.c0
      obtain ⟨W1, eW1, hrow, BW1⟩ : ∃ W1, wr.alloc (.cells #[.string t, .slice none 0 0, .bool false, .bool false] 104) = W1 ∧ W1.heap[wr.heap.size]? = some (.cells #[.string t, .slice none 0 0, .bool false, .bool false] 104 (0, 0)) ∧ Below wr.heap.size wr W1 := ⟨_, rfl, heap_alloc_new _ _, below_alloc (Below.refl _ _) _⟩
      have S1 := Aside0.mk (HS.out.below BW1)
      have B1 := Aside0.mk (below_then HB.out (by have := BW.size; have := ES.out; omega) BW1)
      have y0 := Aside0.mk (show W1.cell? ⟨wr.heap.size, 0, none⟩ = some (.string t) from (cell_of_row _ _ 0 _ _ _ hrow).trans rfl)
      have NW := Aside0.mk (show s ≠ wr.heap.size ∧ rv.ownBlock ≠ some wr.heap.size from ⟨by have := HS.out.lt; omega, fun e => by have := Kd.R_lt HS.out.rd _ e; omega⟩)
      have CL := Aside0.mk (show bs.length ≤ 10000 by rw [HS.out.at_.1, List.length_take]; omega)
      clear et hcc hK BW hrow
      go_upto_region 5 with (fail)
      clear hx
      go_upto_region 6 with (((with_reducible refine gate_dst (N := 27) rfl ?_); go_loud (refine Kd.R_append kP (w0 := w) (W := W1) s rfl (.tmp 22) (.tmp 26) 95 102 (.pointer none) 8 rfl Try.underlying95 infoN rfl (by decide) (by decide) _ bs wr.heap.size [.pointer (some ⟨wr.heap.size, 0, none⟩)] (fun _ => True) (fun _ => False) rfl rfl rfl (fun _ h => h.elim) (fun _ _ => trivial) S1.out.rd B1.out ?hb ?hl ?_; (case hb => have := B1.out.size; exact Nat.le_of_lt S1.out.lt); (case hl => have := CL.out; omega); intro v1 w2 hR hB hG hAt; obtain ⟨A9, c9, e9⟩ := Kd.R_slice hR; obtain ⟨l9, el9⟩ : ∃ l, (bs ++ [wr.heap.size]).length = l := ⟨_, rfl⟩; rw [el9] at e9; subst e9; have R2 := Aside0.mk hR; have B2 := Aside0.mk hB; have hT := Tch.of_grown hG; have G2 := Aside0.mk (And.intro hT hAt); have d0 := hT.cell S1.out.c0 (p := ⟨s, 32, none⟩) S1.out.nw; have d1 := (hT.frozen (p := ⟨s, 32, none⟩) S1.out.lt S1.out.nw).trans S1.out.z0; clear hR hB hG hAt hT)))
      clear eW1
      go_wp2_with fail
      go_roundw
      case rel =>
        have S2 := S1.out.put G2.out.1 R2.out G2.out.2 y0.out (fun e => NW.out.1 e.symm) NW.out.2
        refine ⟨k + 1, _, _, by first | rfl | go_num, hlt, ⟨by rw [List.take_add_one, ET.out]; exact S2⟩, ⟨?_⟩⟩
        exact ((Tch.refl (fun j => j = s) w2).setCell (p := ⟨s, 32, none⟩) (fun _ => rfl) _).below B2.out (by have := B2.out.size; have := S1.out.lt; exact Nat.le_trans (Nat.le_of_lt S1.out.lt) G2.out.1.size) (fun j q => by omega)
      case measure => simp [intOf]; omega
    · obtain rfl : k = n := by omega
      have HS2 := HS.out
      rw [List.take_of_length_le (by have := EN.out; omega)] at HS2
      have ZW := Aside0.mk (zw_calls (name := name) HS2 (by have := EN.out; omega))
      clear HS2
      go_wp2_with fail
      refine ZW.out.mono ?_
      rintro en w1 ⟨rfl, ⟨A1, m, c1, bs1, x0, em, l1, hC1, hA1⟩, hT⟩
      have HC1 := Aside0.mk (And.intro hC1 (And.intro hA1 em))
      have B1 := Aside0.mk (hT.below HB.out (Nat.le_of_lt HS.out.lt) (fun j q => by omega))
      have m9 : m ≤ 9223372036854775807 := Kd.C_max hC1
      have sz := Aside0.mk (show s ≤ w1.heap.size ∧ w.heap.size ≤ w1.heap.size from by have q : s < w1.heap.size := World.block_lt_of_cell? w1 _ x0; have := ES.out; omega)
      have ML := Aside0.mk (show m ≤ 10000 by rw [em, hA1.1]; unfold stay; exact Nat.le_trans (List.length_filter_le _ _) (by have := EN.out; omega))
      clear hC1 hA1 hT em
      go_wp2_with fail
      go_loopw [8, 39] (fun ov iv wr => ∃ j : Nat, j ≤ m ∧ iv = .int .i64 (j : Int) ∧ Aside0 (Kd.string.R 9 wr w1.heap.size (fun _ => True) ov ((stay name ns).take j)) ∧ Aside0 (Below w1.heap.size w1 wr)) (fun _ iv _ => m - (intOf iv).toNat)
      case atStart => exact ⟨0, Nat.zero_le _, rfl, ⟨Kd.R_nil _ _ _ _ _⟩, ⟨Below.refl _ _⟩⟩
      case round =>
        obtain ⟨j, hj, rfl, HR, HW⟩ := hrel
        by_cases hjl : j < m
        · obtain ⟨ad, cs, rfl, _, hK, hcc⟩ := Kd.C_get (Kd.C_below HC1.out.1 HW.out) 0 (j : Int) (by omega) (by omega)
          obtain ⟨b, eb⟩ : ∃ b, bs1[j]? = some b := ⟨bs1[j]'(by have := HC1.out.2.2; omega), List.getElem?_eq_getElem _⟩
          obtain ⟨t, et⟩ : ∃ t, (stay name ns)[j]? = some t := ⟨(stay name ns)[j]'(by have := HC1.out.2.2; have := HC1.out.2.1.1; omega), List.getElem?_eq_getElem _⟩
          have e1 : cs = [.pointer (some ⟨bs1.getD (j : Int).toNat 0, 0, none⟩)] := hK
          rw [Int.toNat_natCast, List.getD_eq_getElem?_getD, eb, Option.getD_some] at e1
          subst e1
          have hx : wr.cell? (ad.add j) = some (.pointer (some ⟨b, 0, none⟩)) := by
            have q := hcc 0 _ rfl
            rw [Int.toNat_natCast, show j * kP.sz + 0 = j by show j * 1 + 0 = j; omega] at q
            exact q
          have y0 : wr.cell? ⟨b, 0, none⟩ = some (.string t) := (HC1.out.2.1.below HW.out).2 j b t eb et
          have ET := Aside0.mk et
          have iklt : (j : Int) < (m : Int) := by omega
          have ik0 : (0 : Int) ≤ (j : Int) := by omega
          have TL := Aside0.mk (show ((stay name ns).take j).length ≤ 10000 by rw [List.length_take]; have := ML.out; omega)
          clear hK hcc eb et
          go_upto_region 12 with (fail)
          go_upto_region 13 with (((with_reducible refine gate_dst (N := 49) rfl ?_); refine Kd.R_append Kd.string (w0 := w1) (W := wr) w1.heap.size rfl (.tmp 43) (.tmp 48) 36 9 (.string ByteArray.empty) 16 rfl Try.underlying36 infoS rfl (by decide) (by decide) _ ((stay name ns).take j) t [.string t] (fun _ => True) (fun _ => False) rfl rfl rfl (fun _ h => h.elim) (fun _ _ => trivial) HR.out HW.out HW.out.size (by have := TL.out; omega) ?_; intro v1 w2 hR hB hG hAt; have R2 := Aside0.mk hR; have B2 := Aside0.mk hB; clear hR hB hG hAt))
          go_show
          go_wp2_with fail
          go_roundw
          case rel =>
            exact ⟨j + 1, hjl, by first | rfl | go_num, ⟨by rw [List.take_add_one, ET.out]; exact R2.out⟩, B2⟩
          case measure => simp [intOf]; omega
        · obtain rfl : j = m := by omega
          rw [List.take_of_length_le (by have := HC1.out.2.2; have := HC1.out.2.1.1; omega)] at HR
          go_wp2_with fail
          go_ret
          exact ⟨_, rfl, by rw [ES.out]; exact Kd.R_lower HR.out sz.out.1, by rw [ES.out]; exact below_then B1.out sz.out.1 HW.out⟩
end Go.Proofs.Ytjdnnpfhlkgooaa.Rmk
