-- PRINTED BY print.sh 35421559b90ae4d0a3588c463048766b98c2df88dd9212a6774a882060cdf62d: not written by this session
import Derived.Test.YtjdnnpfhlkgooaaDoorProg
import Derived.Below
import Derived.Deep.Draws
import Derived.Deep.AppendLies
import Derived.Maps.AppendAt
import Derived.OwnWalk
import Derived.Laws.BytesArg
import Derived.Laws.MakeOwn
import Derived.Laws.OwnMore
import Derived.Deep.OwnRows
import Derived.Tactics
import Derived.Lib.ConvBytes
import Derived.Laws.Slices
import Derived.WalkKit
import Derived.KernelRfl
import Derived.RowKit3
import Derived.Deep.LoopGhost
import Derived.Deep.QuietTactic
import Derived.BigQuiet
import Derived.WideLaws
import Derived.Deep.DeepCutAuto
import Derived.Deep.CutBlock
import Derived.Deep.RegionHeld3
import Derived.Laws.Rows
import Derived.Lib.AppendStr
import Derived.ArgAppend
import Derived.Laws.IdiomCopy
import Derived.OrdersHeld
import Derived.Laws.BitsLemmas
import Derived.RowKit
import Derived.Test.YtjdnnpfhlkgooaaDoorWWords
import Derived.Test.YtjdnnpfhlkgooaaDoorWLast
import Derived.Test.YtjdnnpfhlkgooaaDoorWTab
import Derived.Test.YtjdnnpfhlkgooaaDoorWFour
import Derived.Test.YtjdnnpfhlkgooaaDoorWQPut
import Derived.Test.YtjdnnpfhlkgooaaDoorWApart
import Derived.Test.YtjdnnpfhlkgooaaDoorWArr
import Derived.Test.YtjdnnpfhlkgooaaDoorWZeros
import Derived.Test.YtjdnnpfhlkgooaaDoorWFoot
import Derived.Test.YtjdnnpfhlkgooaaDoorWKept
import Derived.Test.YtjdnnpfhlkgooaaDoorWShare
import Derived.Test.YtjdnnpfhlkgooaaDoorWN
import Derived.Test.YtjdnnpfhlkgooaaDoorWFootNe
import Derived.Test.YtjdnnpfhlkgooaaDoorWAt
import Derived.Test.YtjdnnpfhlkgooaaDoorWEqStruct
import Derived.Test.YtjdnnpfhlkgooaaDoorWRepsOne
import Derived.Test.YtjdnnpfhlkgooaaDoorWInv
import Derived.Test.YtjdnnpfhlkgooaaDoorWInvWords
import Derived.Test.YtjdnnpfhlkgooaaDoorWGuard
import Derived.Test.YtjdnnpfhlkgooaaDoorWNEv
import Derived.Test.YtjdnnpfhlkgooaaDoorWMore
namespace Go.Proofs.YtjdnnpfhlkgooaaDoor.PFnWriteOnePass
open Go.RowKit Go.Proofs.YtjdnnpfhlkgooaaDoorW.PrintWords Go.Proofs.YtjdnnpfhlkgooaaDoorW.PrintLast Go.Proofs.YtjdnnpfhlkgooaaDoorW.PrintMore
attribute [local go_sem] max2_int min2_int max_two min_two max_three min_three max_four min_four   -- for this text's walks alone
set_option linter.unusedVariables false
set_option linter.unusedSimpArgs false



def errW : Option Int → Value
  | none => .nilIface
  | some c => .iface 0 (.int .i64 c)
theorem errW_none : errW none = .nilIface := rfl
theorem errW_some (c : Int) : errW (some c) = .iface 0 (.int .i64 c) := rfl

theorem info5 : (Tryd.prog.info? 5).map (fun i => (i.zero, i.size, i.bytes)) = some (some (.int .u8 0), 1, 1) := by kernel_rfl
theorem info170 : (Tryd.prog.info? 170).map (fun i => (i.zero, i.size, i.bytes)) = some (some (.agg #[(.int .u8 0), (.int .u64 0)]), 2, 16) := by kernel_rfl
-- the values' own types
/-! #### struct type 170 -/
structure S170 where
  f0 : Int
  f1 : Int
def z170 : S170 := ⟨(0 : Int), (0 : Int)⟩
def k170 : Kd S170 := Kd.iso (Kd.pair (Kd.int .u8) (Kd.int .u64)) (fun x : S170 => (x.f0, x.f1))
theorem k170_open {w : World} {x : S170} {cs : List Value} (h : k170.K w x cs) : cs = [.int .u8 x.f0, .int .u64 x.f1] := by
  obtain ⟨_, _, rfl, rfl, rfl⟩ := h
  exact rfl
theorem k170_openM {w : World} {base : Nat} {ok : Nat → Prop} {x : S170} {cs : List Value} (h : k170.M w base ok x cs) : cs = [.int .u8 x.f0, .int .u64 x.f1] := by
  obtain ⟨_, _, rfl, rfl, rfl⟩ := h
  exact rfl
theorem k170_mk (w : World) (x : S170)  : k170.K w x [.int .u8 x.f0, .int .u64 x.f1] := ⟨[.int .u8 x.f0], [.int .u64 x.f1], rfl, rfl, rfl⟩
theorem k170_mkM (w : World) (base : Nat) (ok : Nat → Prop) (x : S170)  : k170.M w base ok x [.int .u8 x.f0, .int .u64 x.f1] := ⟨[.int .u8 x.f0], [.int .u64 x.f1], rfl, rfl, rfl⟩
def rd_T170 (xs : List S170) (i : Int) : S170 := xs.getD i.toNat z170
theorem at_T170 {w : World} {A : Option Addr} {n : Nat} {xs : List S170} (h : Kd.C k170 w A n xs) (i : Int) (h0 : 0 ≤ i) (h1 : i < n) : ∃ ad , A = some ad ∧ w.cell? (ad.add (i.toNat * 2)) = some (.int .u8 (rd_T170 xs i).f0) ∧ w.cell? ⟨(ad.add (i.toNat * 2)).block, (ad.add (i.toNat * 2)).off + 1, none⟩ = some (.int .u64 (rd_T170 xs i).f1) := by
  obtain ⟨ad, c, e, _, hK, hc0⟩ := Kd.C_get h z170 i h0 h1
  have hc : ∀ j u, c[j]? = some u → w.cell? (ad.add (i.toNat * 2 + j)) = some u := hc0
  obtain rfl := k170_open hK
  exact ⟨ad, e, hc 0 _ rfl, by rw [← add_field _ _ 1 (by omega)]; exact hc 1 _ rfl⟩

end Go.Proofs.YtjdnnpfhlkgooaaDoor.PFnWriteOnePass
