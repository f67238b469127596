/- Rows of pointers to notations; Signature.removeNotationsWithName. -/
import Derived.Test.YtjdnnpfhlkgooaaKit
import Derived.Test.YtjdnnpfhlkgooaaMem
import Derived.Test.YtjdnnpfhlkgooaaProg
import Derived.Lib.SliceRun
set_option linter.unusedVariables false
set_option linter.unusedSimpArgs false
namespace Go.Proofs.Ytjdnnpfhlkgooaa.Rmk
open Go.RowKit Go.Proofs.YtjdnnpfhlkgooaaW.PrintWords Go.Proofs.YtjdnnpfhlkgooaaW.PrintMore Go.Proofs.Ytjdnnpfhlkgooaa.Kit

/-- A pointer to a block's beginning. -/
def kP : Kd Nat := Kd.scalar (fun b : Nat => Value.pointer (some ⟨b, 0, none⟩)) (fun _ => rfl)
theorem infoN : (Try.prog.info? 102).map (fun i => (i.zero, i.size, i.bytes)) = some (some (.pointer none), 1, 8) := by kernel_rfl
/-- The blocks bear these names at their beginnings. -/
def At (w : World) (bs : List Nat) (ns : List ByteArray) : Prop := bs.length = ns.length ∧ ∀ (i b : Nat) (s : ByteArray), bs[i]? = some b → ns[i]? = some s → w.cell? ⟨b, 0, none⟩ = some (.string s)
theorem At.nil (w : World) : At w [] [] := ⟨rfl, fun i b s h => by simp at h⟩
theorem At.lt {w : World} {bs : List Nat} {ns : List ByteArray} (h : At w bs ns) {b : Nat} (hb : b ∈ bs) : b < w.heap.size := by
  obtain ⟨i, hi, e⟩ := List.getElem_of_mem hb
  have q : bs[i]? = some b := by rw [List.getElem?_eq_getElem hi, e]
  have q2 : ns[i]? = some (ns[i]'(by have := h.1; omega)) := List.getElem?_eq_getElem _
  exact World.block_lt_of_cell? w _ (h.2 i b _ q q2)
theorem At.kept {w w1 : World} {bs : List Nat} {ns : List ByteArray} (h : At w bs ns) (hk : ∀ b, b ∈ bs → w1.heap[b]? = w.heap[b]?) : At w1 bs ns :=
  ⟨h.1, fun i b s h1 h2 => by
    have q := h.2 i b s h1 h2
    have e := hk b (List.mem_of_getElem? h1)
    rw [← q]
    simp [World.cell?, e]⟩
theorem At.below {w w1 : World} {bs : List Nat} {ns : List ByteArray} (h : At w bs ns) (hB : Below w.heap.size w w1) : At w1 bs ns := h.kept (fun b hb => hB.block b (h.lt hb))
theorem At.snoc {w : World} {bs : List Nat} {ns : List ByteArray} {b : Nat} {s : ByteArray} (h : At w bs ns) (hc : w.cell? ⟨b, 0, none⟩ = some (.string s)) : At w (bs ++ [b]) (ns ++ [s]) := by
  refine ⟨by rw [List.length_append, List.length_append, h.1]; rfl, fun i c t h1 h2 => ?_⟩
  by_cases hi : i < bs.length
  · rw [List.getElem?_append_left hi] at h1
    rw [List.getElem?_append_left (by rw [← h.1]; exact hi)] at h2
    exact h.2 i c t h1 h2
  · rw [List.getElem?_append_right (by omega)] at h1
    rw [List.getElem?_append_right (by rw [← h.1]; omega), ← h.1] at h2
    match hj : i - bs.length with
    | 0 =>
      rw [hj] at h1 h2
      simp at h1 h2
      subst h1 h2
      exact hc
    | j + 1 => rw [hj] at h1; simp at h1
theorem mk0 (W : World) (base n : Nat) (hb : base ≤ W.heap.size) (hn : n ≤ 100000000) :
    (∀ W : World, (Instr.makeSlice 95 (.int .i64 0) (.int .i64 (n : Int))).run Try.prog W = .ok (.slice (some ⟨W.heap.size, 0, none⟩) 0 n) (W.alloc (.cells (madeCells #[.pointer none] n) 102))) ∧
    kP.R 102 (W.alloc (.cells (madeCells #[.pointer none] n) 102)) base (fun _ => True) (.slice (some ⟨W.heap.size, 0, none⟩) 0 n) [] := by
  refine ⟨fun W => ?_, ?_⟩
  · obtain ⟨i0, hi, hzz⟩ := Option.map_eq_some_iff.1 infoN
    simp only [Prod.mk.injEq] at hzz
    obtain ⟨hz0, hz1, hz2⟩ := hzz
    have hr := run_make (P := Try.prog) W 95 102 i0 (.pointer none) Try.underlying95 hi hz0 .i64 .i64 (0 : Int) (n : Int) (by omega) (by omega) (by rw [hz2]; omega) (by omega)
    rw [hz1, Nat.mul_one] at hr
    exact hr
  · have h := own_made_of (enc := fun v : Value => v) (d := .pointer none) W base 102 n hb (by omega)
    have h2 := own_take (m := 0) h (Nat.zero_le _)
    exact Kd.R_of_own (xs := []) (by simpa [encs] using h2) (fun _ _ => trivial)
/-- The names that stay. -/
def stay (name : ByteArray) (ns : List ByteArray) : List ByteArray := ns.filter (fun s => !(s.toList == name.toList))
def StayOut (w : World) (s : Nat) (name : ByteArray) (ns : List ByteArray) (en : Ending) (w' : World) : Prop :=
  en = .returned (.tuple #[]) ∧ (∃ A n c bs, w'.cell? ⟨s, 32, none⟩ = some (.slice A n c) ∧ n = bs.length ∧ n ≤ c ∧ kP.C w' A n bs ∧ At w' bs (stay name ns)) ∧ Tch (fun j => j = s) w w'
set_option maxHeartbeats 1600000 in
set_option maxRecDepth 100000 in
theorem rm_nil {w : World} {s : Nat} {name : ByteArray} (x0 : w.cell? ⟨s, 32, none⟩ = some (.slice none 0 0)) :
    Calls Try.prog 36 #[.pointer (some ⟨s, 0, none⟩), .string name] w (StayOut w s name []) := by
  have X := Aside0.mk x0
  have eq0 : ∀ W : World, (binOp .eql 95 (.slice none 0 0) (.slice none 0 0)).run Try.prog W = .ok (.bool true) W := fun W => Lib.run_eql_slice_nil W 95 102 none 0 0 0 0 Try.underlying95
  go_enter Try.func36, Try.ntmps36
  go_wp2_with fail
  go_returns
  exact ⟨rfl, ⟨none, 0, 0, [], X.out, rfl, Nat.le_refl _, Kd.C_nil _ _, At.nil _⟩, Tch.refl _ _⟩
set_option maxHeartbeats 1600000 in
set_option maxRecDepth 100000 in
theorem rm_calls {w : World} {s : Nat} {ad : Addr} {n c : Nat} {bs : List Nat} {ns : List ByteArray} {name : ByteArray} (x0 : w.cell? ⟨s, 32, none⟩ = some (.slice (some ad) n c)) (xf : w.frozen? ⟨s, 32, none⟩ = false) (hC : kP.C w (some ad) n bs) (hA : At w bs ns) (hc : n ≤ c) (hn : n ≤ 100000000) (hs : ∀ b, b ∈ bs → b ≠ s) :
    Calls Try.prog 36 #[.pointer (some ⟨s, 0, none⟩), .string name] w (StayOut w s name ns) := by
  have HC := Aside0.mk (And.intro hC (And.intro hA hc))
  have HS := Aside0.mk hs
  clear hs
  have X := Aside0.mk (And.intro x0 xf)
  have en : n = bs.length := (Kd.C_len hC).symm
  · have mk := (mk0 w w.heap.size n (Nat.le_refl _) hn).1
    obtain ⟨W, eW, mrW, BW⟩ : ∃ W, w.alloc (.cells (madeCells #[.pointer none] n) 102) = W ∧ kP.R 102 W w.heap.size (fun _ => True) (.slice (some ⟨w.heap.size, 0, none⟩) 0 n) [] ∧ Below w.heap.size w W := ⟨_, rfl, (mk0 w w.heap.size n (Nat.le_refl _) hn).2, below_alloc (Below.refl _ _) _⟩
    have mr := Aside0.mk (And.intro mrW BW)
    have x1 := (BW.cell (p := ⟨s, 32, none⟩) (World.block_lt_of_cell? w _ x0)).trans x0
    clear mrW BW
    have eq0 : ∀ W : World, (binOp .eql 95 (.slice (some ad) n c) (.slice none 0 0)).run Try.prog W = .ok (.bool false) W := fun W => Lib.run_eql_slice_nil W 95 102 (some ad) n c 0 0 Try.underlying95
    have EN := Aside0.mk en
    have n9 : n ≤ 9223372036854775807 := by omega
    have NL := Aside0.mk hn
    clear hC hA hc en
    go_enter Try.func36, Try.ntmps36
    go_wp2_with fail
    clear eq0 mk eW x1
    go_loopw [4, 27] (fun vv iv wr => ∃ (k : Nat) (rv : Value) (cs : List Nat), vv = rv ∧ iv = .int .i64 (k : Int) ∧ k ≤ n ∧ Aside0 (kP.R 102 wr w.heap.size (fun _ => True) rv cs ∧ cs.length ≤ k ∧ At wr cs (stay name (ns.take k)) ∧ ∀ b, b ∈ cs → b ∈ bs) ∧ Aside0 (Below w.heap.size w wr)) (fun _ iv _ => n - (intOf iv).toNat)
    case atStart => exact ⟨0, _, [], rfl, rfl, Nat.zero_le _, ⟨mr.out.1, Nat.le_refl _, At.nil _, fun b h => by cases h⟩, ⟨mr.out.2⟩⟩
    case round =>
      obtain ⟨k, rv, cs, erv, rfl, hk, HR, HB⟩ := hrel
      obtain rfl := erv.symm
      have x1 := (HB.out.cell (p := ⟨s, 32, none⟩) (World.block_lt_of_cell? w _ X.out.1)).trans X.out.1
      have x2 := (HB.out.frozen (p := ⟨s, 32, none⟩) (World.block_lt_of_cell? w _ X.out.1)).trans X.out.2
      by_cases hlt : k < n
      · obtain ⟨ad', cs', eA, _, hK, hcc⟩ := Kd.C_get (Kd.C_below HC.out.1 HB.out) 0 (k : Int) (by omega) (by omega)
        injection eA with eA
        subst eA
        obtain ⟨b, eb⟩ : ∃ b, bs[k]? = some b := ⟨bs[k]'(by have := EN.out; omega), List.getElem?_eq_getElem _⟩
        obtain ⟨t, et⟩ : ∃ t, ns[k]? = some t := ⟨ns[k]'(by have := EN.out; have := HC.out.2.1.1; omega), List.getElem?_eq_getElem _⟩
        have e1 : cs' = [.pointer (some ⟨bs.getD (k : Int).toNat 0, 0, none⟩)] := hK
        rw [Int.toNat_natCast, List.getD_eq_getElem?_getD, eb, Option.getD_some] at e1
        subst e1
        have hx : wr.cell? (ad.add k) = some (.pointer (some ⟨b, 0, none⟩)) := by
          have q := hcc 0 _ rfl
          rw [Int.toNat_natCast, show k * kP.sz + 0 = k by show k * 1 + 0 = k; omega] at q
          exact q
        have y0 : wr.cell? ⟨b, 0, none⟩ = some (.string t) := (HC.out.2.1.below HB.out).2 k b t eb et
        have bm := Aside0.mk (List.mem_of_getElem? eb)
        have bw := Aside0.mk (HC.out.2.1.lt bm.out)
        have ET := Aside0.mk et
        have YB := Aside0.mk eb
        have iklt : (k : Int) < (n : Int) := by omega
        have ik0 : (0 : Int) ≤ (k : Int) := by omega
        clear hK hcc eb et
        rcases hst : (t.toList == name.toList) with _ | _
        rotate_left
        · have HST := Aside0.mk hst
          go_wp2_with fail
          go_roundw
          case rel =>
            obtain ⟨h1, h2, h3, h4⟩ := HR.out
            have et := ET.out
            have ne := HST.out
            have e2 : stay name (ns.take (k + 1)) = stay name (ns.take k) := by
              rw [List.take_add_one, et]; unfold stay; rw [List.filter_append]; simp [ne]
            exact ⟨k + 1, rv, cs, rfl, by first | rfl | go_num, hlt, ⟨h1, by omega, by rw [e2]; exact h3, h4⟩, HB⟩
          case measure => simp [intOf]; omega
        · have HST := Aside0.mk hst
          have CL := Aside0.mk (show cs.length ≤ 100000000 by have := HR.out.2.1; have := NL.out; omega)
          go_upto_region 6 with (fail)
          clear x1 x2 y0 hx
          go_upto_region 7 with (((with_reducible refine gate_dst (N := 40) rfl ?_); go_loud (refine Kd.R_append kP (w0 := w) w.heap.size rfl (.tmp 37) (.tmp 39) 95 102 (.pointer none) 8 rfl Try.underlying95 infoN rfl (by decide) (by decide) _ cs b [.pointer (some ⟨b, 0, none⟩)] (fun _ => True) (fun _ => False) rfl rfl rfl (fun _ h => h.elim) (fun _ _ => trivial) HR.out.1 HB.out ?hb ?hl ?_; (case hb => exact HB.out.size); (case hl => have := CL.out; omega); intro v1 w2 hR hB hG hAt; have R2 := Aside0.mk hR; have B2 := Aside0.mk hB; have G2 := Aside0.mk (And.intro hG hAt); clear hR hB hG hAt)))
          go_wp2_with fail
          go_roundw
          case rel =>
            obtain ⟨h1, h2, h3, h4⟩ := HR.out
            have et := ET.out
            have ne := HST.out
            have e2 : stay name (ns.take (k + 1)) = stay name (ns.take k) ++ [t] := by
              rw [List.take_add_one, et]; unfold stay; rw [List.filter_append]; simp [ne]
            have ow : ∀ b', b' ∈ bs → w2.heap[b']? = wr.heap[b']? := fun b' hb' => by
              have lt := HC.out.2.1.lt hb'
              exact G2.out.1.block b' (Nat.lt_of_lt_of_le lt HB.out.size) (fun e => by have := Kd.R_base h1 b' e.symm; omega)
            have y1 : w2.cell? ⟨b, 0, none⟩ = some (.string t) := (B2.out.cell (p := ⟨b, 0, none⟩) bw.out).trans (HC.out.2.1.2 k b t YB.out et)
            refine ⟨k + 1, v1, cs ++ [b], rfl, by first | rfl | go_num, hlt, ⟨R2.out, by rw [List.length_append]; simp; omega, by rw [e2]; exact (h3.kept (fun b' hb' => ow b' (h4 b' hb'))).snoc y1, fun b' hb' => ?_⟩, B2⟩
            rcases List.mem_append.1 hb' with q | q
            · exact h4 b' q
            · rw [List.mem_singleton.1 q]; exact bm.out
          case measure => simp [intOf]; omega
      · obtain rfl : k = n := by omega
        obtain ⟨h1, h2, h3, h4⟩ := HR.out
        rw [List.take_of_length_le (by have := EN.out; have := HC.out.2.1.1; omega)] at h3
        obtain ⟨A1, c1, rfl, l1, r1⟩ := Kd.R_reads h1
        obtain ⟨m, em⟩ : ∃ m, cs.length = m := ⟨_, rfl⟩
        rw [em] at l1 r1 h1 ⊢
        have H1 := Aside0.mk (And.intro h1 (And.intro h3 (And.intro h4 (And.intro em.symm l1))))
        clear h1 h2 h3 h4 l1 r1 em HR
        go_wp2_with fail
        have hT : Tch (fun j => j = s) wr (wr.setCell ⟨s, 32, none⟩ (.slice A1 m c1)) := (Tch.refl (fun j => j = s) wr).setCell (p := ⟨s, 32, none⟩) (fun _ => rfl) _
        have sl := World.block_lt_of_cell? w _ X.out.1
        obtain ⟨h1, h3, h4, e, l1⟩ := H1.out
        have r2 := Kd.R_step (Kd.R_tight rfl h1) (w1 := wr.setCell ⟨s, 32, none⟩ (.slice A1 m c1)) (fun j hj hlt => hT.block j hlt (fun q => by have := Kd.R_base h1 j hj.symm; simp only at sl; omega))
        obtain ⟨_, _, r3⟩ := Kd.R_reads' r2
        rw [← e] at r3
        go_returns
        exact ⟨rfl, ⟨A1, m, c1, cs, World.cell?_setCell_same _ _ _ x1, e, l1, r3, h3.kept (fun b hb => hT.block b (Nat.lt_of_lt_of_le (HC.out.2.1.lt (h4 b hb)) HB.out.size) (HS.out b (h4 b hb)))⟩, (Tch.of_below HB.out).trans hT⟩
end Go.Proofs.Ytjdnnpfhlkgooaa.Rmk
