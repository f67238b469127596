-- PRINTED BY print.sh 35421559b90ae4d0a3588c463048766b98c2df88dd9212a6774a882060cdf62d: not written by this session
import Derived.Test.YtfhefoaieefnkaaDoorProg
import Derived.Below
import Derived.Deep.Draws
import Derived.Deep.AppendLies
import Derived.Maps.AppendAt
import Derived.OwnWalk
import Derived.Laws.BytesArg
import Derived.Laws.MakeOwn
import Derived.Laws.OwnMore
import Derived.Deep.OwnRows
import Derived.Tactics
import Derived.Lib.ConvBytes
import Derived.Laws.Slices
import Derived.WalkKit
import Derived.KernelRfl
import Derived.RowKit3
import Derived.Deep.LoopGhost
import Derived.Deep.QuietTactic
import Derived.BigQuiet
import Derived.WideLaws
import Derived.Deep.DeepCutAuto
import Derived.Deep.CutBlock
import Derived.Deep.RegionHeld3
import Derived.Laws.Rows
import Derived.Lib.AppendStr
import Derived.ArgAppend
import Derived.Laws.IdiomCopy
import Derived.OrdersHeld
import Derived.Laws.BitsLemmas
import Derived.RowKit
import Derived.Test.YtfhefoaieefnkaaDoorWWords
import Derived.Test.YtfhefoaieefnkaaDoorWLast
import Derived.Test.YtfhefoaieefnkaaDoorWTab
import Derived.Test.YtfhefoaieefnkaaDoorWFour
import Derived.Test.YtfhefoaieefnkaaDoorWQPut
import Derived.Test.YtfhefoaieefnkaaDoorWApart
import Derived.Test.YtfhefoaieefnkaaDoorWArr
import Derived.Test.YtfhefoaieefnkaaDoorWZeros
import Derived.Test.YtfhefoaieefnkaaDoorWFoot
import Derived.Test.YtfhefoaieefnkaaDoorWKept
import Derived.Test.YtfhefoaieefnkaaDoorWShare
import Derived.Test.YtfhefoaieefnkaaDoorWN
import Derived.Test.YtfhefoaieefnkaaDoorWFootNe
import Derived.Test.YtfhefoaieefnkaaDoorWAt
import Derived.Test.YtfhefoaieefnkaaDoorWEqStruct
import Derived.Test.YtfhefoaieefnkaaDoorWRepsOne
import Derived.Test.YtfhefoaieefnkaaDoorWInv
import Derived.Test.YtfhefoaieefnkaaDoorWInvWords
import Derived.Test.YtfhefoaieefnkaaDoorWGuard
import Derived.Test.YtfhefoaieefnkaaDoorWNEv
import Derived.Test.YtfhefoaieefnkaaDoorWMore
namespace Go.Proofs.YtfhefoaieefnkaaDoor.PFnOpaqueBack
open Go.RowKit Go.Proofs.YtfhefoaieefnkaaDoorW.PrintWords Go.Proofs.YtfhefoaieefnkaaDoorW.PrintLast Go.Proofs.YtfhefoaieefnkaaDoorW.PrintMore
attribute [local go_sem] max2_int min2_int max_two min_two max_three min_three max_four min_four   -- for this text's walks alone
set_option linter.unusedVariables false
set_option linter.unusedSimpArgs false



def errW : Option Int → Value
  | none => .nilIface
  | some c => .iface 0 (.int .i64 c)
theorem errW_none : errW none = .nilIface := rfl
theorem errW_some (c : Int) : errW (some c) = .iface 0 (.int .i64 c) := rfl

-- the values' own types
def rd_L1 (xs : List (List Int)) (i : Int) : (List Int) := xs.getD i.toNat ([] : List Int)
theorem at_L1 {w : World} {A : Option Addr} {n : Nat} {xs : List (List Int)} (h : Kd.C (Kd.slice 5 (Kd.int .u8)) w A n xs) (i : Int) (h0 : 0 ≤ i) (h1 : i < n) : ∃ ad A0 c0, A = some ad ∧ w.cell? (ad.add i.toNat) = some (.slice A0 (rd_L1 xs i).length c0) ∧ (rd_L1 xs i).length ≤ c0 ∧ (Kd.int .u8).C w A0 (rd_L1 xs i).length (rd_L1 xs i) := by
  obtain ⟨ad, c, e, _, hK, hc0⟩ := Kd.C_get h ([] : List Int) i h0 h1
  have hc : ∀ j u, c[j]? = some u → w.cell? (ad.add (i.toNat * 1 + j)) = some u := hc0
  obtain ⟨A0, c0, rfl, l0, g0⟩ := hK
  exact ⟨ad, A0, c0, e, by have hq := hc 0 _ rfl; rwa [Nat.mul_one, Nat.add_zero] at hq, l0, g0⟩

/-! #### struct type 76 -/
structure S76 where
  f0 : Int
  f1 : (List Int)
def z76 : S76 := ⟨(0 : Int), ([] : List Int)⟩
def k76 : Kd S76 := Kd.iso (Kd.pair (Kd.int .u8) (Kd.slice 5 (Kd.int .u8))) (fun x : S76 => (x.f0, x.f1))
theorem k76_open {w : World} {x : S76} {cs : List Value} (h : k76.K w x cs) : ∃ A1 c1, cs = [.int .u8 x.f0, .slice A1 x.f1.length c1] ∧ x.f1.length ≤ c1 ∧ (Kd.int .u8).C w A1 x.f1.length x.f1 := by
  obtain ⟨_, _, rfl, rfl, ⟨A1, c1, rfl, l1, g1⟩⟩ := h
  exact ⟨A1, c1, rfl, l1, g1⟩
theorem k76_openM {w : World} {base : Nat} {ok : Nat → Prop} {x : S76} {cs : List Value} (h : k76.M w base ok x cs) : ∃ v1, cs = [.int .u8 x.f0, v1] ∧ (Kd.int .u8).R 5 w base ok v1 x.f1 := by
  obtain ⟨_, _, rfl, rfl, ⟨v1, rfl, g1⟩⟩ := h
  exact ⟨v1, rfl, g1⟩
theorem k76_mk (w : World) (x : S76) {A1 : Option Addr} {c1 : Nat} (l1 : x.f1.length ≤ c1) (g1 : (Kd.int .u8).C w A1 x.f1.length x.f1) : k76.K w x [.int .u8 x.f0, .slice A1 x.f1.length c1] := ⟨[.int .u8 x.f0], [.slice A1 x.f1.length c1], rfl, rfl, ⟨A1, c1, rfl, l1, g1⟩⟩
theorem k76_mkM (w : World) (base : Nat) (ok : Nat → Prop) (x : S76) {v1 : Value} (g1 : (Kd.int .u8).R 5 w base ok v1 x.f1) : k76.M w base ok x [.int .u8 x.f0, v1] := ⟨[.int .u8 x.f0], [v1], rfl, rfl, ⟨v1, rfl, g1⟩⟩
def rd_T76 (xs : List S76) (i : Int) : S76 := xs.getD i.toNat z76
theorem at_T76 {w : World} {A : Option Addr} {n : Nat} {xs : List S76} (h : Kd.C k76 w A n xs) (i : Int) (h0 : 0 ≤ i) (h1 : i < n) : ∃ ad A1 c1, A = some ad ∧ w.cell? (ad.add (i.toNat * 2)) = some (.int .u8 (rd_T76 xs i).f0) ∧ w.cell? ⟨(ad.add (i.toNat * 2)).block, (ad.add (i.toNat * 2)).off + 1, none⟩ = some (.slice A1 (rd_T76 xs i).f1.length c1) ∧ (rd_T76 xs i).f1.length ≤ c1 ∧ (Kd.int .u8).C w A1 (rd_T76 xs i).f1.length (rd_T76 xs i).f1 := by
  obtain ⟨ad, c, e, _, hK, hc0⟩ := Kd.C_get h z76 i h0 h1
  have hc : ∀ j u, c[j]? = some u → w.cell? (ad.add (i.toNat * 2 + j)) = some u := hc0
  obtain ⟨A1, c1, rfl, l1, g1⟩ := k76_open hK
  exact ⟨ad, A1, c1, e, hc 0 _ rfl, by rw [← add_field _ _ 1 (by omega)]; exact hc 1 _ rfl, l1, g1⟩

/-! #### struct type 60 -/
structure S60 where
  f0 : Int
  f1 : (List Int)
def z60 : S60 := ⟨(0 : Int), ([] : List Int)⟩
def k60 : Kd S60 := Kd.iso (Kd.pair (Kd.int .i64) (Kd.slice 5 (Kd.int .u8))) (fun x : S60 => (x.f0, x.f1))
theorem k60_open {w : World} {x : S60} {cs : List Value} (h : k60.K w x cs) : ∃ A1 c1, cs = [.int .i64 x.f0, .slice A1 x.f1.length c1] ∧ x.f1.length ≤ c1 ∧ (Kd.int .u8).C w A1 x.f1.length x.f1 := by
  obtain ⟨_, _, rfl, rfl, ⟨A1, c1, rfl, l1, g1⟩⟩ := h
  exact ⟨A1, c1, rfl, l1, g1⟩
theorem k60_openM {w : World} {base : Nat} {ok : Nat → Prop} {x : S60} {cs : List Value} (h : k60.M w base ok x cs) : ∃ v1, cs = [.int .i64 x.f0, v1] ∧ (Kd.int .u8).R 5 w base ok v1 x.f1 := by
  obtain ⟨_, _, rfl, rfl, ⟨v1, rfl, g1⟩⟩ := h
  exact ⟨v1, rfl, g1⟩
theorem k60_mk (w : World) (x : S60) {A1 : Option Addr} {c1 : Nat} (l1 : x.f1.length ≤ c1) (g1 : (Kd.int .u8).C w A1 x.f1.length x.f1) : k60.K w x [.int .i64 x.f0, .slice A1 x.f1.length c1] := ⟨[.int .i64 x.f0], [.slice A1 x.f1.length c1], rfl, rfl, ⟨A1, c1, rfl, l1, g1⟩⟩
theorem k60_mkM (w : World) (base : Nat) (ok : Nat → Prop) (x : S60) {v1 : Value} (g1 : (Kd.int .u8).R 5 w base ok v1 x.f1) : k60.M w base ok x [.int .i64 x.f0, v1] := ⟨[.int .i64 x.f0], [v1], rfl, rfl, ⟨v1, rfl, g1⟩⟩
def rd_T60 (xs : List S60) (i : Int) : S60 := xs.getD i.toNat z60
theorem at_T60 {w : World} {A : Option Addr} {n : Nat} {xs : List S60} (h : Kd.C k60 w A n xs) (i : Int) (h0 : 0 ≤ i) (h1 : i < n) : ∃ ad A1 c1, A = some ad ∧ w.cell? (ad.add (i.toNat * 2)) = some (.int .i64 (rd_T60 xs i).f0) ∧ w.cell? ⟨(ad.add (i.toNat * 2)).block, (ad.add (i.toNat * 2)).off + 1, none⟩ = some (.slice A1 (rd_T60 xs i).f1.length c1) ∧ (rd_T60 xs i).f1.length ≤ c1 ∧ (Kd.int .u8).C w A1 (rd_T60 xs i).f1.length (rd_T60 xs i).f1 := by
  obtain ⟨ad, c, e, _, hK, hc0⟩ := Kd.C_get h z60 i h0 h1
  have hc : ∀ j u, c[j]? = some u → w.cell? (ad.add (i.toNat * 2 + j)) = some u := hc0
  obtain ⟨A1, c1, rfl, l1, g1⟩ := k60_open hK
  exact ⟨ad, A1, c1, e, hc 0 _ rfl, by rw [← add_field _ _ 1 (by omega)]; exact hc 1 _ rfl, l1, g1⟩

end Go.Proofs.YtfhefoaieefnkaaDoor.PFnOpaqueBack
