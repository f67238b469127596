-- PRINTED BY print.sh 35421559b90ae4d0a3588c463048766b98c2df88dd9212a6774a882060cdf62d: not written by this session
import Derived.Test.YtjdnnpfhlkgooaaProg
import Derived.Below
import Derived.Deep.Draws
import Derived.Deep.AppendLies
import Derived.Maps.AppendAt
import Derived.OwnWalk
import Derived.Laws.BytesArg
import Derived.Laws.MakeOwn
import Derived.Laws.OwnMore
import Derived.Deep.OwnRows
import Derived.Tactics
import Derived.Lib.ConvBytes
import Derived.Laws.Slices
import Derived.WalkKit
import Derived.KernelRfl
import Derived.RowKit3
import Derived.Deep.LoopGhost
import Derived.Deep.QuietTactic
import Derived.BigQuiet
import Derived.WideLaws
import Derived.Deep.DeepCutAuto
import Derived.Deep.CutBlock
import Derived.Deep.RegionHeld3
import Derived.Laws.Rows
import Derived.Lib.AppendStr
import Derived.ArgAppend
import Derived.Laws.IdiomCopy
import Derived.OrdersHeld
import Derived.Laws.BitsLemmas
import Derived.RowKit
import Derived.Test.YtjdnnpfhlkgooaaWWords
import Derived.Test.YtjdnnpfhlkgooaaWLast
import Derived.Test.YtjdnnpfhlkgooaaWTab
import Derived.Test.YtjdnnpfhlkgooaaWFour
import Derived.Test.YtjdnnpfhlkgooaaWQPut
import Derived.Test.YtjdnnpfhlkgooaaWApart
import Derived.Test.YtjdnnpfhlkgooaaWArr
import Derived.Test.YtjdnnpfhlkgooaaWZeros
import Derived.Test.YtjdnnpfhlkgooaaWFoot
import Derived.Test.YtjdnnpfhlkgooaaWKept
import Derived.Test.YtjdnnpfhlkgooaaWShare
import Derived.Test.YtjdnnpfhlkgooaaWN
import Derived.Test.YtjdnnpfhlkgooaaWFootNe
import Derived.Test.YtjdnnpfhlkgooaaWAt
import Derived.Test.YtjdnnpfhlkgooaaWEqStruct
import Derived.Test.YtjdnnpfhlkgooaaWRepsOne
import Derived.Test.YtjdnnpfhlkgooaaWInv
import Derived.Test.YtjdnnpfhlkgooaaWInvWords
import Derived.Test.YtjdnnpfhlkgooaaWGuard
import Derived.Test.YtjdnnpfhlkgooaaWNEv
import Derived.Test.YtjdnnpfhlkgooaaWMore
namespace Go.Proofs.Ytjdnnpfhlkgooaa.PFnImages
open Go.RowKit Go.Proofs.YtjdnnpfhlkgooaaW.PrintWords Go.Proofs.YtjdnnpfhlkgooaaW.PrintLast Go.Proofs.YtjdnnpfhlkgooaaW.PrintMore
attribute [local go_sem] max2_int min2_int max_two min_two max_three min_three max_four min_four   -- for this text's walks alone
set_option linter.unusedVariables false
set_option linter.unusedSimpArgs false



def errW : Option Int → Value
  | none => .nilIface
  | some c => .iface 0 (.int .i64 c)
theorem errW_none : errW none = .nilIface := rfl
theorem errW_some (c : Int) : errW (some c) = .iface 0 (.int .i64 c) := rfl

theorem info5 : (Try.prog.info? 5).map (fun i => (i.zero, i.size, i.bytes)) = some (some (.int .u8 0), 1, 1) := by kernel_rfl
-- the values' own types
def rd_L1 (xs : List (List Int)) (i : Int) : (List Int) := xs.getD i.toNat ([] : List Int)
theorem at_L1 {w : World} {A : Option Addr} {n : Nat} {xs : List (List Int)} (h : Kd.C (Kd.slice 5 (Kd.int .u8)) w A n xs) (i : Int) (h0 : 0 ≤ i) (h1 : i < n) : ∃ ad A0 c0, A = some ad ∧ w.cell? (ad.add i.toNat) = some (.slice A0 (rd_L1 xs i).length c0) ∧ (rd_L1 xs i).length ≤ c0 ∧ (Kd.int .u8).C w A0 (rd_L1 xs i).length (rd_L1 xs i) := by
  obtain ⟨ad, c, e, _, hK, hc0⟩ := Kd.C_get h ([] : List Int) i h0 h1
  have hc : ∀ j u, c[j]? = some u → w.cell? (ad.add (i.toNat * 1 + j)) = some u := hc0
  obtain ⟨A0, c0, rfl, l0, g0⟩ := hK
  exact ⟨ad, A0, c0, e, by have hq := hc 0 _ rfl; rwa [Nat.mul_one, Nat.add_zero] at hq, l0, g0⟩

/-! #### struct type 27 -/
structure S27 where
  f0 : Int
  f1 : (List Int)
  f2 : Bool
def z27 : S27 := ⟨(0 : Int), ([] : List Int), false⟩
def k27 : Kd S27 := Kd.iso (Kd.pair (Kd.int .u8) (Kd.pair (Kd.slice 5 (Kd.int .u8)) Kd.bool)) (fun x : S27 => (x.f0, x.f1, x.f2))
theorem k27_open {w : World} {x : S27} {cs : List Value} (h : k27.K w x cs) : ∃ A1 c1, cs = [.int .u8 x.f0, .slice A1 x.f1.length c1, .bool x.f2] ∧ x.f1.length ≤ c1 ∧ (Kd.int .u8).C w A1 x.f1.length x.f1 := by
  obtain ⟨_, _, rfl, rfl, ⟨_, _, rfl, ⟨A1, c1, rfl, l1, g1⟩, rfl⟩⟩ := h
  exact ⟨A1, c1, rfl, l1, g1⟩
theorem k27_openM {w : World} {base : Nat} {ok : Nat → Prop} {x : S27} {cs : List Value} (h : k27.M w base ok x cs) : ∃ v1, cs = [.int .u8 x.f0, v1, .bool x.f2] ∧ (Kd.int .u8).R 5 w base ok v1 x.f1 := by
  obtain ⟨_, _, rfl, rfl, ⟨_, _, rfl, ⟨v1, rfl, g1⟩, rfl⟩⟩ := h
  exact ⟨v1, rfl, g1⟩
theorem k27_mk (w : World) (x : S27) {A1 : Option Addr} {c1 : Nat} (l1 : x.f1.length ≤ c1) (g1 : (Kd.int .u8).C w A1 x.f1.length x.f1) : k27.K w x [.int .u8 x.f0, .slice A1 x.f1.length c1, .bool x.f2] := ⟨[.int .u8 x.f0], [.slice A1 x.f1.length c1, .bool x.f2], rfl, rfl, ⟨[.slice A1 x.f1.length c1], [.bool x.f2], rfl, ⟨A1, c1, rfl, l1, g1⟩, rfl⟩⟩
theorem k27_mkM (w : World) (base : Nat) (ok : Nat → Prop) (x : S27) {v1 : Value} (g1 : (Kd.int .u8).R 5 w base ok v1 x.f1) : k27.M w base ok x [.int .u8 x.f0, v1, .bool x.f2] := ⟨[.int .u8 x.f0], [v1, .bool x.f2], rfl, rfl, ⟨[v1], [.bool x.f2], rfl, ⟨v1, rfl, g1⟩, rfl⟩⟩
theorem k27_openF {W : World} {ok : Nat → Prop} {x : S27} {cs : List Value} (h : Kd.FK k27 W ok x cs) : ∃ A1 c1, cs = [.int .u8 x.f0, .slice A1 x.f1.length c1, .bool x.f2] ∧ x.f1.length ≤ c1 ∧ Kd.F (Kd.int .u8) W ok A1 x.f1.length x.f1 := by
  obtain ⟨A1, c1, rfl, l1, _⟩ := k27_open (Kd.FK_now h)
  exact ⟨A1, c1, rfl, l1, (fun W' hW => by obtain ⟨A1_, c1_, he, l1_, g1_⟩ := k27_open (h W' hW); injection (Option.some.inj (show some (Value.slice A1 x.f1.length c1) = some (Value.slice A1_ x.f1.length c1_) from congrArg (fun l => l[1]?) he)) with ha_ _ _; rw [ha_]; exact g1_)⟩
theorem k27_mkF (W : World) (ok : Nat → Prop) (x : S27) {A1 : Option Addr} {c1 : Nat} (l1 : x.f1.length ≤ c1) (g1 : Kd.F (Kd.int .u8) W ok A1 x.f1.length x.f1) : Kd.FK k27 W ok x [.int .u8 x.f0, .slice A1 x.f1.length c1, .bool x.f2] := fun W2 hW => k27_mk W2 x l1 (g1 W2 hW)
def rd_T27 (xs : List S27) (i : Int) : S27 := xs.getD i.toNat z27
theorem at_T27 {w : World} {A : Option Addr} {n : Nat} {xs : List S27} (h : Kd.C k27 w A n xs) (i : Int) (h0 : 0 ≤ i) (h1 : i < n) : ∃ ad A1 c1, A = some ad ∧ w.cell? (ad.add (i.toNat * 3)) = some (.int .u8 (rd_T27 xs i).f0) ∧ w.cell? ⟨(ad.add (i.toNat * 3)).block, (ad.add (i.toNat * 3)).off + 1, none⟩ = some (.slice A1 (rd_T27 xs i).f1.length c1) ∧ w.cell? ⟨(ad.add (i.toNat * 3)).block, (ad.add (i.toNat * 3)).off + 2, none⟩ = some (.bool (rd_T27 xs i).f2) ∧ (rd_T27 xs i).f1.length ≤ c1 ∧ (Kd.int .u8).C w A1 (rd_T27 xs i).f1.length (rd_T27 xs i).f1 := by
  obtain ⟨ad, c, e, _, hK, hc0⟩ := Kd.C_get h z27 i h0 h1
  have hc : ∀ j u, c[j]? = some u → w.cell? (ad.add (i.toNat * 3 + j)) = some u := hc0
  obtain ⟨A1, c1, rfl, l1, g1⟩ := k27_open hK
  exact ⟨ad, A1, c1, e, hc 0 _ rfl, by rw [← add_field _ _ 1 (by omega)]; exact hc 1 _ rfl, by rw [← add_field _ _ 2 (by omega)]; exact hc 2 _ rfl, l1, g1⟩

end Go.Proofs.Ytjdnnpfhlkgooaa.PFnImages
