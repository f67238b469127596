/- The row of laws.FnWriteOnePass: for every input the law returns true, and each argument reads as it did. -/
import Derived.Test.YtjdnnpfhlkgooaaDoorRows
import Derived.Test.YtjdnnpfhlkgooaaDoorMOne4
import Derived.WalkKit
import Derived.ProofKit
import Derived.OpenShut
import Derived.ShutString
import Derived.ChangeOld
import Derived.Below
import Derived.SizedLaws
import Derived.Lib.SmallJoins
import Derived.Test.YtjdnnpfhlkgooaaDoorWSized
import Derived.Test.YtjdnnpfhlkgooaaDoorCards
import Derived.Test.YtjdnnpfhlkgooaaDoorTie
import Derived.LaidMore
import Derived.Stop.Joined
import Derived.SevenTiedAt
namespace Go.Proofs.YtjdnnpfhlkgooaaDoor.rowFnWriteOnePass
open Go.ChangeShapes Go.WideShapes Go.ChangeAt Go.RowKit
open Go.ChangeMaps (open_string shut_string)
open Go.Joins
set_option linter.unusedVariables false
abbrev laidL : List (String × DataW Unit) := [("math/bits.deBruijn32tab", Rows.laid_math_bits_deBruijn32tab), ("math/bits.deBruijn64tab", Rows.laid_math_bits_deBruijn64tab), ("internal/strconv.uint64pow10", Rows.laid_internal_strconv_uint64pow10), ("io.EOF", Rows.laid_io_EOF), ("io.ErrUnexpectedEOF", Rows.laid_io_ErrUnexpectedEOF)]
theorem own : ownKnob Tryd.prog.godebug = none := by kernel_rfl
theorem laidOut : laidOutB Tryd.prog = true := by kernel_rfl
def IsRow (k : IntKind) (w : World) (a : Option Addr) (len cap : Nat) (zs : List Int) : Prop :=
  (a = none ∧ len = 0 ∧ cap = 0 ∧ zs = []) ∨
  ∃ x, a = some x ∧ len ≤ cap ∧ cap ≤ maxLen ∧ zs.length = cap ∧ (∀ i, i < zs.length → w.cell? (x.add i) = some (.int k (zs.getD i 0))) ∧ ∀ n ∈ zs, (Lit.int k n).wf = true
theorem door_met (os : Os) (args : Array Value) : laidMetH Tryd.prog laidL ((World.doorLaid Tryd.prog 129 os).forCall (fun _ _ => 0) ⟨#[], args, []⟩).memory :=
  laidMetH_of_parts3 (fuel := 8) (laidMet_of_run' 8 (by kernel_rfl) (by kernel_rfl)) (by kernel_rfl) (by kernel_rfl)
theorem env_laid {W : World} (h : laidMetH Tryd.prog laidL W) : ∃ aE aU, Rd.Env W W.heap.size aE aU := by
  rw [MakeChecks.laidMetH_plain _ _ _ (by kernel_rfl)] at h
  exact Rd.env_of h.tail.tail.tail
theorem tab_laid {W : World} (h : laidMetH Tryd.prog laidL W) : Lib.TabBelow Tryd.prog W.heap.size W "internal/strconv.uint64pow10" .u64 Lib.pow10Tab := by
  rw [MakeChecks.laidMetH_plain _ _ _ (by kernel_rfl)] at h
  exact Lib.tabBelow_of_tabIs (Lib.tabIs_of_head (g := 4) (t := 199) (e := 35) (n := 20) (by kernel_rfl) (by kernel_rfl) (by kernel_rfl) (by kernel_rfl) (by kernel_rfl) (by kernel_rfl) h.tail.tail)
set_option maxRecDepth 100000 in
theorem lifted (os : Os) (started : os.Started) (H : Type) (enc : TypeId × Value → H) :
    ReturnsInHanded {} Tryd.checked os 4 .any (fun w args => (Rows.fnWriteOnePassSpec.pre enc Tryd.prog Tryd.f4 [] false w args ∧ laidMetH Tryd.prog laidL w) ∧ sizedMet enc Tryd.prog Tryd.f4 (OpenSpec.ofChange Rows.fnWriteOnePassSpec) false w args) (Rows.fnWriteOnePassSpec.post enc Tryd.prog Tryd.f4 false true false false) := by
  refine returnsInHanded_of_change_and (C := Tryd.checked) (X := fun w _ => laidMetH Tryd.prog laidL w) (fun _ _ _ hh h => h.of_heap hh) own started (by kernel_rfl) Tryd.func4
    (ChangeSpec.witness_shaped (enc := enc) (C := Tryd.checked) (os := os) (X := fun w _ => laidMetH Tryd.prog laidL w) false (World.doorLaid Tryd.prog 129 os) #[.agg #[.int .i64 0, .int .u8 0, .int .i64 0, .int .u8 0, .int .u64 0, .bool false, .slice none 0 0, .slice none 0 0], .bool false] 8 rfl (World.shaped_of_RefB (by kernel_rfl) (by kernel_rfl)) (by kernel_rfl) (by kernel_rfl) (by kernel_rfl) (door_met os _)) ?_
  intro W base args ds gs before hval0 hW hcnd hsz0 hL _
  obtain ⟨aE, aU, hEnv⟩ := env_laid hL
  have hTab := tab_laid hL
  have hsz : (DataW.weightsEach Tryd.prog (Tryd.f4.params.toList ++ Rows.fnWriteOnePassSpec.plain.varTypes Tryd.prog) (ds ++ gs)).all (· ≤ reachBytes) = true := hsz0
  have hval : ∀ (j : Nat) t v, Tryd.f4.params[j]? = some t → args[j]? = some v → Value.okWide Tryd.prog W .any base t v := hval0
  have hW' := hW
  obtain ⟨p, q, hA0, hV, rfl, hfz, hnd⟩ := hW
  have hA : DataW.TrodAll enc Tryd.prog W 0 (fun _ => true) true Tryd.f4.params.toList args.toList ds p := hA0
  rw [Tryd.params4] at hA hval hsz
  obtain ⟨v0, vs0, d0, ds0, p0, q0, hargs, rfl, rfl, h0, r0⟩ := trodAll_cons hA
  obtain ⟨v1, vs1, d1, ds1, p1, q1, rfl, rfl, rfl, h1, r1⟩ := trodAll_cons r0
  obtain ⟨rfl, rfl, rfl⟩ := trodAll_nil r1
  obtain rfl : args = #[v0, v1] := by cases args; simp_all
  obtain ⟨rfl, rfl⟩ := trodVars_none hV
  have k0 := h0
  have lt0 : ∀ x ∈ p0, x.block < W.heap.size := by obtain ⟨m, hm⟩ := k0; exact DataW.trod_lt m _ _ _ hm
  obtain ⟨c0_0, c0_1, c0_2, c0_3, c0_4, c0_5, c0_6, c0_7, y0_0, y0_1, y0_2, y0_3, y0_4, y0_5, y0_6, y0_7, m0, e0, _, _, g0_0, g0_1, g0_2, g0_3, g0_4, g0_5, g0_6, g0_7⟩ := Kit.open_agg8 Tryd.underlying37 (by kernel_rfl) (by kernel_rfl) (hval 0 37 v0 rfl rfl) h0
  subst e0
  obtain ⟨a0_0, e0_0, _, w0_0⟩ := DataW.trod_int Tryd.underlying3 g0_0
  obtain rfl := (List.cons.inj e0_0).1
  obtain ⟨a0_1, e0_1, _, w0_1⟩ := DataW.trod_int Tryd.underlying5 g0_1
  obtain rfl := (List.cons.inj e0_1).1
  obtain ⟨a0_2, e0_2, _, w0_2⟩ := DataW.trod_int Tryd.underlying3 g0_2
  obtain rfl := (List.cons.inj e0_2).1
  obtain ⟨a0_3, e0_3, _, w0_3⟩ := DataW.trod_int Tryd.underlying5 g0_3
  obtain rfl := (List.cons.inj e0_3).1
  obtain ⟨a0_4, e0_4, _, w0_4⟩ := DataW.trod_int Tryd.underlying35 g0_4
  obtain rfl := (List.cons.inj e0_4).1
  obtain ⟨a0_5, e0_5, _⟩ := DataW.trod_bool Tryd.underlying4 g0_5
  obtain rfl := (List.cons.inj e0_5).1
  obtain ⟨a0_6, len0_6, cap0_6, e0_6, z0_6, w0_6⟩ : ∃ a len cap, c0_6 = .slice a len cap ∧ ∃ zs, IsRow .u8 W a len cap zs := by
    rcases open_ints Tryd.underlying22 Tryd.underlying5 (by kernel_rfl) g0_6 with ⟨hcs, _⟩ | ⟨x, l, c, zs, hcs, _, hl, hm, hz, _, hcell, hwz⟩
    · exact ⟨none, 0, 0, by injection hcs, [], .inl ⟨rfl, rfl, rfl, rfl⟩⟩
    · exact ⟨some x, l, c, by injection hcs, zs, .inr ⟨_, rfl, hl, hm, by simpa using hz, hcell, hwz⟩⟩
  subst e0_6
  obtain ⟨l0_6, rfl, hr0_6, hm0_6, hw0_6, hc0_6⟩ := Go.Proofs.YtjdnnpfhlkgooaaDoorW.PrintWords.ReadsInt.ofRowC w0_6
  obtain ⟨a0_7, len0_7, cap0_7, e0_7, z0_7, w0_7⟩ : ∃ a len cap, c0_7 = .slice a len cap ∧ ∃ zs, IsRow .u8 W a len cap zs := by
    rcases open_ints Tryd.underlying22 Tryd.underlying5 (by kernel_rfl) g0_7 with ⟨hcs, _⟩ | ⟨x, l, c, zs, hcs, _, hl, hm, hz, _, hcell, hwz⟩
    · exact ⟨none, 0, 0, by injection hcs, [], .inl ⟨rfl, rfl, rfl, rfl⟩⟩
    · exact ⟨some x, l, c, by injection hcs, zs, .inr ⟨_, rfl, hl, hm, by simpa using hz, hcell, hwz⟩⟩
  subst e0_7
  obtain ⟨l0_7, rfl, hr0_7, hm0_7, hw0_7, hc0_7⟩ := Go.Proofs.YtjdnnpfhlkgooaaDoorW.PrintWords.ReadsInt.ofRowC w0_7
  obtain ⟨a1, rfl, rfl, rfl⟩ := open_bool Tryd.underlying4 (hval 1 4 v1 rfl rfl) h1
  clear hA0 hval0 hsz0 hsz
  refine (Go.Proofs.YtjdnnpfhlkgooaaDoor.Rd.law_wop a0_0 a0_1 a0_2 a0_3 a0_4 a0_5 a0_6 cap0_6 l0_6 a0_7 cap0_7 l0_7 a1 W w0_0 w0_1 w0_2 w0_3 w0_4 (Go.Proofs.YtjdnnpfhlkgooaaDoorW.PrintWords.Kd.C_of_reads (d := (0 : Int)) (h1 := fun _ => rfl) hr0_6) hc0_6 hm0_6 hw0_6 (Go.Proofs.YtjdnnpfhlkgooaaDoorW.PrintWords.Kd.C_of_reads (d := (0 : Int)) (h1 := fun _ => rfl) hr0_7) hc0_7 hm0_7 hw0_7 hEnv hTab).mono fun e W' ⟨he, bel⟩ => ?_
  subst he
  exact ⟨_, rfl, _, _, _, [], _, [], hW', trodAll_mk1 (shut_bool Tryd.underlying4 _), (trodAll_cons_mk (Below.trod laidOut (by kernel_rfl) (of_decide_eq_true (by kernel_rfl)) k0 bel lt0) (trodAll_cons_mk (shut_bool Tryd.underlying4 _) trodAll_mk0)), rfl, bel.frame _, fun h => by cases h⟩
theorem over : Rows.fnWriteOnePassRow.holds Tryd.pinned (OpenSpec.ofChange Rows.fnWriteOnePassSpec) :=
  OpenClaim.holds_of_wide 4 Tryd.f4 rfl rfl rfl rfl rfl rfl rfl ⟨rfl, rfl, rfl, rfl, rfl⟩ rfl rfl rfl rfl rfl (by kernel_rfl) Tryd.func4 (by kernel_rfl)
    (of_decide_eq_true (by kernel_rfl)) (by unfold Func.isWrapper; first | (rw [if_pos (by decide +kernel)]; kernel_rfl) | (rw [if_neg (by decide +kernel)]; exact ⟨rfl, rfl⟩))
    (fun os started H enc _ => lifted os started H enc)
end Go.Proofs.YtjdnnpfhlkgooaaDoor.rowFnWriteOnePass
namespace Go.Proofs.YtjdnnpfhlkgooaaDoor
/-- The row, under a short name, for the claim. -/
theorem fnWriteOnePass_holds : Rows.FnWriteOnePassSaid := rowFnWriteOnePass.over
set_option maxRecDepth 100000 in
/-- The card. -/
theorem fnWriteOnePassCard_holds : Rows.FnWriteOnePassCardSaid :=
  Claim7.holds_tied_plain_at .later [] [.data, .data, .data, .sentinel, .sentinel] true (true, "a51725978189a0177645162e9e070d6423dd5bdba23ecee082daa10c339543cf") true
    fnWriteOnePass_holds (fun _ h => by cases h) (by kernel_rfl) (fun _ h => by cases h) fnWriteOnePass_row_tie rfl ⟨rfl, rfl⟩ (by kernel_rfl) rfl
    (fun f fn hf hfn => by
      obtain rfl : f = 4 := Option.some.inj ((show Tryd.prog.funcNamed "pub-counterseal/laws.FnWriteOnePass" = some 4 by kernel_rfl).symm.trans hf) |>.symm
      obtain rfl : fn = Tryd.f4 := (Option.some.inj (Tryd.func4.symm.trans hfn)).symm
      exact ⟨by kernel_rfl, fun j t ht => by
        rw [Tryd.params4] at ht
        have hm : t ∈ [37, 4] := by have := Array.mem_of_getElem? ht; simpa using this
        have hall : ([37, 4].all fun u => !Tryd.prog.wantsStandIn u) = true := by kernel_rfl
        exact (show Tryd.prog.wantsStandIn t = false by simpa using List.all_eq_true.1 hall t hm)⟩)
    (by kernel_rfl)
end Go.Proofs.YtjdnnpfhlkgooaaDoor
