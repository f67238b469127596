/- The row of laws.FnReadAttribute: for every input the law returns true, and each argument reads as it did. -/
import Derived.Test.YtfhefoaieefnkaaDoorRows
import Derived.Test.YtfhefoaieefnkaaDoorFUa
import Derived.WalkKit
import Derived.ProofKit
import Derived.OpenShut
import Derived.ShutString
import Derived.ChangeOld
import Derived.Below
import Derived.SizedLaws
import Derived.Test.YtfhefoaieefnkaaDoorWSized
import Derived.Test.YtfhefoaieefnkaaDoorEnv
import Derived.Test.YtfhefoaieefnkaaDoorCards
import Derived.Test.YtfhefoaieefnkaaDoorTie
import Derived.LaidMore
import Derived.Stop.Joined
import Derived.SevenTiedAt
namespace Go.Proofs.YtfhefoaieefnkaaDoor.rowFnReadAttribute
open Go.ChangeShapes Go.WideShapes Go.ChangeAt Go.RowKit
open Go.ChangeMaps (open_string shut_string)
set_option linter.unusedVariables false
abbrev laidL : List (String × DataW Unit) := [("io.EOF", Rows.laid_io_EOF), ("io.ErrUnexpectedEOF", Rows.laid_io_ErrUnexpectedEOF)]
theorem own : ownKnob Tryd.prog.godebug = none := by kernel_rfl
theorem laidOut : laidOutB Tryd.prog = true := by kernel_rfl
def IsRow (k : IntKind) (w : World) (a : Option Addr) (len cap : Nat) (zs : List Int) : Prop :=
  (a = none ∧ len = 0 ∧ cap = 0 ∧ zs = []) ∨
  ∃ x, a = some x ∧ len ≤ cap ∧ cap ≤ maxLen ∧ zs.length = cap ∧ (∀ i, i < zs.length → w.cell? (x.add i) = some (.int k (zs.getD i 0))) ∧ ∀ n ∈ zs, (Lit.int k n).wf = true
theorem door_met (os : Os) (args : Array Value) : laidMetH Tryd.prog laidL ((World.doorLaid Tryd.prog 66 os).forCall (fun _ _ => 0) ⟨#[], args, []⟩).memory :=
  laidMetH_of_parts3 (fuel := 8) (laidMet_of_run' 8 (by kernel_rfl) (by kernel_rfl)) (by kernel_rfl) (by kernel_rfl)
theorem env_laid {W : World} (h : laidMetH Tryd.prog laidL W) : ∃ aE aU, Rd.Env W W.heap.size aE aU := by
  rw [MakeChecks.laidMetH_plain _ _ _ (by kernel_rfl)] at h
  exact Rd.env_of h
set_option maxRecDepth 100000 in
theorem lifted (os : Os) (started : os.Started) (H : Type) (enc : TypeId × Value → H) :
    ReturnsInHanded {} Tryd.checked os 8 .any (fun w args => (Rows.fnReadAttributeSpec.pre enc Tryd.prog Tryd.f8 [] false w args ∧ laidMetH Tryd.prog laidL w) ∧ sizedMet enc Tryd.prog Tryd.f8 (OpenSpec.ofChange Rows.fnReadAttributeSpec) false w args) (Rows.fnReadAttributeSpec.post enc Tryd.prog Tryd.f8 false true false false) := by
  refine returnsInHanded_of_change_and (C := Tryd.checked) (X := fun w _ => laidMetH Tryd.prog laidL w) (fun _ _ _ hh h => h.of_heap hh) own started (by kernel_rfl) Tryd.func8
    (ChangeSpec.witness_shaped (enc := enc) (C := Tryd.checked) (os := os) (X := fun w _ => laidMetH Tryd.prog laidL w) false (World.doorLaid Tryd.prog 66 os) #[.slice none 0 0] 8 rfl (World.shaped_of_RefB (by kernel_rfl) (by kernel_rfl)) (by kernel_rfl) (by kernel_rfl) (by kernel_rfl) (door_met os _)) ?_
  intro W base args ds gs before hval0 hW hcnd hsz0 hL _
  obtain ⟨aE, aU, hEnv⟩ := env_laid hL
  have hsz : (DataW.weightsEach Tryd.prog (Tryd.f8.params.toList ++ Rows.fnReadAttributeSpec.plain.varTypes Tryd.prog) (ds ++ gs)).all (· ≤ reachBytes) = true := hsz0
  have hval : ∀ (j : Nat) t v, Tryd.f8.params[j]? = some t → args[j]? = some v → Value.okWide Tryd.prog W .any base t v := hval0
  have hW' := hW
  obtain ⟨p, q, hA0, hV, rfl, hfz, hnd⟩ := hW
  have hA : DataW.TrodAll enc Tryd.prog W 0 (fun _ => true) true Tryd.f8.params.toList args.toList ds p := hA0
  rw [Tryd.params8] at hA hval hsz
  obtain ⟨v0, vs0, d0, ds0, p0, q0, hargs, rfl, rfl, h0, r0⟩ := trodAll_cons hA
  obtain ⟨rfl, rfl, rfl⟩ := trodAll_nil r0
  obtain rfl : args = #[v0] := by cases args; simp_all
  obtain ⟨rfl, rfl⟩ := trodVars_none hV
  obtain ⟨a0, len0, cap0, rfl⟩ := okWide_slice Tryd.underlying22 (hval 0 22 v0 rfl rfl)
  have k0 := h0
  have lt0 : ∀ x ∈ p0, x.block < W.heap.size := by obtain ⟨m, hm⟩ := k0; exact DataW.trod_lt m _ _ _ hm
  obtain ⟨z0, w0⟩ : ∃ zs, IsRow .u8 W a0 len0 cap0 zs := by
    obtain ⟨fuel, hf⟩ := h0
    rcases open_ints Tryd.underlying22 Tryd.underlying5 (by kernel_rfl) hf with ⟨hcs, _⟩ | ⟨x, l, c, zs, hcs, _, hl, hm, hz, _, hcell, hwz⟩
    · simp [Value.cells] at hcs
      obtain ⟨rfl, rfl, rfl⟩ := hcs
      exact ⟨[], .inl ⟨rfl, rfl, rfl, rfl⟩⟩
    · simp [Value.cells] at hcs
      obtain ⟨rfl, rfl, rfl⟩ := hcs
      exact ⟨zs, .inr ⟨_, rfl, hl, hm, by simpa using hz, hcell, hwz⟩⟩
  have y0 : len0 * 1 ≤ 140737488351232 := Go.Proofs.YtfhefoaieefnkaaDoorW.PrintWords.sized_ints hsz (j := 0) (t := 22) rfl rfl Tryd.underlying22 Tryd.underlying5 (by kernel_rfl) (by kernel_rfl) h0
  obtain ⟨l0, rfl, hr0, hm0, hw0, hc0⟩ := Go.Proofs.YtfhefoaieefnkaaDoorW.PrintWords.ReadsInt.ofRowC w0
  clear hA0 hval0 hsz0 hsz
  refine (Go.Proofs.YtfhefoaieefnkaaDoor.Rd.law_rat a0 cap0 l0 W (Go.Proofs.YtfhefoaieefnkaaDoorW.PrintWords.Kd.C_of_reads (d := (0 : Int)) (h1 := fun _ => rfl) hr0) hc0 hm0 hw0 hEnv).mono fun e W' ⟨he, bel⟩ => ?_
  subst he
  exact ⟨_, rfl, _, _, _, [], _, [], hW', trodAll_mk1 (shut_bool Tryd.underlying4 _), (trodAll_cons_mk (Below.trod laidOut (by kernel_rfl) (of_decide_eq_true (by kernel_rfl)) k0 bel lt0) trodAll_mk0), rfl, bel.frame _, fun h => by cases h⟩
theorem over : Rows.fnReadAttributeRow.holds Tryd.pinned (OpenSpec.ofChange Rows.fnReadAttributeSpec) :=
  OpenClaim.holds_of_wide 8 Tryd.f8 rfl rfl rfl rfl rfl rfl rfl ⟨rfl, rfl, rfl, rfl, rfl⟩ rfl rfl rfl rfl rfl (by kernel_rfl) Tryd.func8 (by kernel_rfl)
    (of_decide_eq_true (by kernel_rfl)) (by unfold Func.isWrapper; first | (rw [if_pos (by decide +kernel)]; kernel_rfl) | (rw [if_neg (by decide +kernel)]; exact ⟨rfl, rfl⟩))
    (fun os started H enc _ => lifted os started H enc)
end Go.Proofs.YtfhefoaieefnkaaDoor.rowFnReadAttribute
namespace Go.Proofs.YtfhefoaieefnkaaDoor
/-- The row, under a short name, for the claim. -/
theorem fnReadAttribute_holds : Rows.FnReadAttributeSaid := rowFnReadAttribute.over
set_option maxRecDepth 100000 in
/-- The card. -/
theorem fnReadAttributeCard_holds : Rows.FnReadAttributeCardSaid :=
  Claim7.holds_tied_plain_at .later [] [.sentinel, .sentinel] true (true, "a81a2e7fab7c01480124e7d6f85bbf961873f1db55a2858e4b47e750588c0cb3") true
    fnReadAttribute_holds (fun _ h => by cases h) (by kernel_rfl) (fun _ h => by cases h) fnReadAttribute_row_tie rfl ⟨rfl, rfl⟩ (by kernel_rfl) rfl
    (fun f fn hf hfn => by
      obtain rfl : f = 8 := Option.some.inj ((show Tryd.prog.funcNamed "pub-counterseal/laws.FnReadAttribute" = some 8 by kernel_rfl).symm.trans hf) |>.symm
      obtain rfl : fn = Tryd.f8 := (Option.some.inj (Tryd.func8.symm.trans hfn)).symm
      exact ⟨by kernel_rfl, fun j t ht => by
        rw [Tryd.params8] at ht
        have hm : t ∈ [22] := by have := Array.mem_of_getElem? ht; simpa using this
        have hall : ([22].all fun u => !Tryd.prog.wantsStandIn u) = true := by kernel_rfl
        exact (show Tryd.prog.wantsStandIn t = false by simpa using List.all_eq_true.1 hall t hm)⟩)
    (by kernel_rfl)
end Go.Proofs.YtfhefoaieefnkaaDoor
