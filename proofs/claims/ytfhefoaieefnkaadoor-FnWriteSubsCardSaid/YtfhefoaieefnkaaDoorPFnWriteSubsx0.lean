-- PRINTED BY print.sh 35421559b90ae4d0a3588c463048766b98c2df88dd9212a6774a882060cdf62d: not written by this session
import Derived.Test.YtfhefoaieefnkaaDoorProg
import Derived.Below
import Derived.Deep.Draws
import Derived.Deep.AppendLies
import Derived.Maps.AppendAt
import Derived.OwnWalk
import Derived.Laws.BytesArg
import Derived.Laws.MakeOwn
import Derived.Laws.OwnMore
import Derived.Deep.OwnRows
import Derived.Tactics
import Derived.Lib.ConvBytes
import Derived.Laws.Slices
import Derived.WalkKit
import Derived.KernelRfl
import Derived.RowKit3
import Derived.Deep.LoopGhost
import Derived.Deep.QuietTactic
import Derived.BigQuiet
import Derived.WideLaws
import Derived.Deep.DeepCutAuto
import Derived.Deep.CutBlock
import Derived.Deep.RegionHeld3
import Derived.Laws.Rows
import Derived.Lib.AppendStr
import Derived.ArgAppend
import Derived.Laws.IdiomCopy
import Derived.OrdersHeld
import Derived.Laws.BitsLemmas
import Derived.RowKit
import Derived.Test.YtfhefoaieefnkaaDoorWWords
import Derived.Test.YtfhefoaieefnkaaDoorWLast
import Derived.Test.YtfhefoaieefnkaaDoorWTab
import Derived.Test.YtfhefoaieefnkaaDoorWFour
import Derived.Test.YtfhefoaieefnkaaDoorWQPut
import Derived.Test.YtfhefoaieefnkaaDoorWApart
import Derived.Test.YtfhefoaieefnkaaDoorWArr
import Derived.Test.YtfhefoaieefnkaaDoorWZeros
import Derived.Test.YtfhefoaieefnkaaDoorWFoot
import Derived.Test.YtfhefoaieefnkaaDoorWKept
import Derived.Test.YtfhefoaieefnkaaDoorWShare
import Derived.Test.YtfhefoaieefnkaaDoorWN
import Derived.Test.YtfhefoaieefnkaaDoorWFootNe
import Derived.Test.YtfhefoaieefnkaaDoorWAt
import Derived.Test.YtfhefoaieefnkaaDoorWEqStruct
import Derived.Test.YtfhefoaieefnkaaDoorWRepsOne
import Derived.Test.YtfhefoaieefnkaaDoorWInv
import Derived.Test.YtfhefoaieefnkaaDoorWInvWords
import Derived.Test.YtfhefoaieefnkaaDoorWGuard
import Derived.Test.YtfhefoaieefnkaaDoorWNEv
import Derived.Test.YtfhefoaieefnkaaDoorWMore
namespace Go.Proofs.YtfhefoaieefnkaaDoor.PFnWriteSubs
open Go.RowKit Go.Proofs.YtfhefoaieefnkaaDoorW.PrintWords Go.Proofs.YtfhefoaieefnkaaDoorW.PrintLast Go.Proofs.YtfhefoaieefnkaaDoorW.PrintMore
attribute [local go_sem] max2_int min2_int max_two min_two max_three min_three max_four min_four   -- for this text's walks alone
set_option linter.unusedVariables false
set_option linter.unusedSimpArgs false



def errW : Option Int → Value
  | none => .nilIface
  | some c => .iface 0 (.int .i64 c)
theorem errW_none : errW none = .nilIface := rfl
theorem errW_some (c : Int) : errW (some c) = .iface 0 (.int .i64 c) := rfl

theorem info5 : (Tryd.prog.info? 5).map (fun i => (i.zero, i.size, i.bytes)) = some (some (.int .u8 0), 1, 1) := by kernel_rfl
-- the values' own types
def rd_L1 (xs : List (List Int)) (i : Int) : (List Int) := xs.getD i.toNat ([] : List Int)
theorem at_L1 {w : World} {A : Option Addr} {n : Nat} {xs : List (List Int)} (h : Kd.C (Kd.slice 5 (Kd.int .u8)) w A n xs) (i : Int) (h0 : 0 ≤ i) (h1 : i < n) : ∃ ad A0 c0, A = some ad ∧ w.cell? (ad.add i.toNat) = some (.slice A0 (rd_L1 xs i).length c0) ∧ (rd_L1 xs i).length ≤ c0 ∧ (Kd.int .u8).C w A0 (rd_L1 xs i).length (rd_L1 xs i) := by
  obtain ⟨ad, c, e, _, hK, hc0⟩ := Kd.C_get h ([] : List Int) i h0 h1
  have hc : ∀ j u, c[j]? = some u → w.cell? (ad.add (i.toNat * 1 + j)) = some u := hc0
  obtain ⟨A0, c0, rfl, l0, g0⟩ := hK
  exact ⟨ad, A0, c0, e, by have hq := hc 0 _ rfl; rwa [Nat.mul_one, Nat.add_zero] at hq, l0, g0⟩

/-! #### struct type 119 -/
structure S119 where
  f0 : Int
  f1 : (List Int)
  f2 : Bool
def z119 : S119 := ⟨(0 : Int), ([] : List Int), false⟩
def k119 : Kd S119 := Kd.iso (Kd.pair (Kd.int .u8) (Kd.pair (Kd.slice 5 (Kd.int .u8)) Kd.bool)) (fun x : S119 => (x.f0, x.f1, x.f2))
theorem k119_open {w : World} {x : S119} {cs : List Value} (h : k119.K w x cs) : ∃ A1 c1, cs = [.int .u8 x.f0, .slice A1 x.f1.length c1, .bool x.f2] ∧ x.f1.length ≤ c1 ∧ (Kd.int .u8).C w A1 x.f1.length x.f1 := by
  obtain ⟨_, _, rfl, rfl, ⟨_, _, rfl, ⟨A1, c1, rfl, l1, g1⟩, rfl⟩⟩ := h
  exact ⟨A1, c1, rfl, l1, g1⟩
theorem k119_openM {w : World} {base : Nat} {ok : Nat → Prop} {x : S119} {cs : List Value} (h : k119.M w base ok x cs) : ∃ v1, cs = [.int .u8 x.f0, v1, .bool x.f2] ∧ (Kd.int .u8).R 5 w base ok v1 x.f1 := by
  obtain ⟨_, _, rfl, rfl, ⟨_, _, rfl, ⟨v1, rfl, g1⟩, rfl⟩⟩ := h
  exact ⟨v1, rfl, g1⟩
theorem k119_mk (w : World) (x : S119) {A1 : Option Addr} {c1 : Nat} (l1 : x.f1.length ≤ c1) (g1 : (Kd.int .u8).C w A1 x.f1.length x.f1) : k119.K w x [.int .u8 x.f0, .slice A1 x.f1.length c1, .bool x.f2] := ⟨[.int .u8 x.f0], [.slice A1 x.f1.length c1, .bool x.f2], rfl, rfl, ⟨[.slice A1 x.f1.length c1], [.bool x.f2], rfl, ⟨A1, c1, rfl, l1, g1⟩, rfl⟩⟩
theorem k119_mkM (w : World) (base : Nat) (ok : Nat → Prop) (x : S119) {v1 : Value} (g1 : (Kd.int .u8).R 5 w base ok v1 x.f1) : k119.M w base ok x [.int .u8 x.f0, v1, .bool x.f2] := ⟨[.int .u8 x.f0], [v1, .bool x.f2], rfl, rfl, ⟨[v1], [.bool x.f2], rfl, ⟨v1, rfl, g1⟩, rfl⟩⟩
theorem k119_openF {W : World} {ok : Nat → Prop} {x : S119} {cs : List Value} (h : Kd.FK k119 W ok x cs) : ∃ A1 c1, cs = [.int .u8 x.f0, .slice A1 x.f1.length c1, .bool x.f2] ∧ x.f1.length ≤ c1 ∧ Kd.F (Kd.int .u8) W ok A1 x.f1.length x.f1 := by
  obtain ⟨A1, c1, rfl, l1, _⟩ := k119_open (Kd.FK_now h)
  exact ⟨A1, c1, rfl, l1, (fun W' hW => by obtain ⟨A1_, c1_, he, l1_, g1_⟩ := k119_open (h W' hW); injection (Option.some.inj (show some (Value.slice A1 x.f1.length c1) = some (Value.slice A1_ x.f1.length c1_) from congrArg (fun l => l[1]?) he)) with ha_ _ _; rw [ha_]; exact g1_)⟩
theorem k119_mkF (W : World) (ok : Nat → Prop) (x : S119) {A1 : Option Addr} {c1 : Nat} (l1 : x.f1.length ≤ c1) (g1 : Kd.F (Kd.int .u8) W ok A1 x.f1.length x.f1) : Kd.FK k119 W ok x [.int .u8 x.f0, .slice A1 x.f1.length c1, .bool x.f2] := fun W2 hW => k119_mk W2 x l1 (g1 W2 hW)
def rd_T119 (xs : List S119) (i : Int) : S119 := xs.getD i.toNat z119
theorem at_T119 {w : World} {A : Option Addr} {n : Nat} {xs : List S119} (h : Kd.C k119 w A n xs) (i : Int) (h0 : 0 ≤ i) (h1 : i < n) : ∃ ad A1 c1, A = some ad ∧ w.cell? (ad.add (i.toNat * 3)) = some (.int .u8 (rd_T119 xs i).f0) ∧ w.cell? ⟨(ad.add (i.toNat * 3)).block, (ad.add (i.toNat * 3)).off + 1, none⟩ = some (.slice A1 (rd_T119 xs i).f1.length c1) ∧ w.cell? ⟨(ad.add (i.toNat * 3)).block, (ad.add (i.toNat * 3)).off + 2, none⟩ = some (.bool (rd_T119 xs i).f2) ∧ (rd_T119 xs i).f1.length ≤ c1 ∧ (Kd.int .u8).C w A1 (rd_T119 xs i).f1.length (rd_T119 xs i).f1 := by
  obtain ⟨ad, c, e, _, hK, hc0⟩ := Kd.C_get h z119 i h0 h1
  have hc : ∀ j u, c[j]? = some u → w.cell? (ad.add (i.toNat * 3 + j)) = some u := hc0
  obtain ⟨A1, c1, rfl, l1, g1⟩ := k119_open hK
  exact ⟨ad, A1, c1, e, hc 0 _ rfl, by rw [← add_field _ _ 1 (by omega)]; exact hc 1 _ rfl, by rw [← add_field _ _ 2 (by omega)]; exact hc 2 _ rfl, l1, g1⟩

/-! #### struct type 123 -/
structure S123 where
  f0 : Int
  f1 : (List Int)
  f2 : (List Int)
def z123 : S123 := ⟨(0 : Int), ([] : List Int), ([] : List Int)⟩
def k123 : Kd S123 := Kd.iso (Kd.pair (Kd.int .i64) (Kd.pair (Kd.slice 5 (Kd.int .u8)) (Kd.slice 5 (Kd.int .u8)))) (fun x : S123 => (x.f0, x.f1, x.f2))
theorem k123_open {w : World} {x : S123} {cs : List Value} (h : k123.K w x cs) : ∃ A1 c1 A2 c2, cs = [.int .i64 x.f0, .slice A1 x.f1.length c1, .slice A2 x.f2.length c2] ∧ x.f1.length ≤ c1 ∧ (Kd.int .u8).C w A1 x.f1.length x.f1 ∧ x.f2.length ≤ c2 ∧ (Kd.int .u8).C w A2 x.f2.length x.f2 := by
  obtain ⟨_, _, rfl, rfl, ⟨_, _, rfl, ⟨A1, c1, rfl, l1, g1⟩, ⟨A2, c2, rfl, l2, g2⟩⟩⟩ := h
  exact ⟨A1, c1, A2, c2, rfl, l1, g1, l2, g2⟩
theorem k123_openM {w : World} {base : Nat} {ok : Nat → Prop} {x : S123} {cs : List Value} (h : k123.M w base ok x cs) : ∃ v1 v2, cs = [.int .i64 x.f0, v1, v2] ∧ (Kd.int .u8).R 5 w base ok v1 x.f1 ∧ (Kd.int .u8).R 5 w base ok v2 x.f2 := by
  obtain ⟨_, _, rfl, rfl, ⟨_, _, rfl, ⟨v1, rfl, g1⟩, ⟨v2, rfl, g2⟩⟩⟩ := h
  exact ⟨v1, v2, rfl, g1, g2⟩
theorem k123_mk (w : World) (x : S123) {A1 : Option Addr} {c1 : Nat} (l1 : x.f1.length ≤ c1) (g1 : (Kd.int .u8).C w A1 x.f1.length x.f1) {A2 : Option Addr} {c2 : Nat} (l2 : x.f2.length ≤ c2) (g2 : (Kd.int .u8).C w A2 x.f2.length x.f2) : k123.K w x [.int .i64 x.f0, .slice A1 x.f1.length c1, .slice A2 x.f2.length c2] := ⟨[.int .i64 x.f0], [.slice A1 x.f1.length c1, .slice A2 x.f2.length c2], rfl, rfl, ⟨[.slice A1 x.f1.length c1], [.slice A2 x.f2.length c2], rfl, ⟨A1, c1, rfl, l1, g1⟩, ⟨A2, c2, rfl, l2, g2⟩⟩⟩
theorem k123_mkM (w : World) (base : Nat) (ok : Nat → Prop) (x : S123) {v1 : Value} (g1 : (Kd.int .u8).R 5 w base ok v1 x.f1) {v2 : Value} (g2 : (Kd.int .u8).R 5 w base ok v2 x.f2) : k123.M w base ok x [.int .i64 x.f0, v1, v2] := ⟨[.int .i64 x.f0], [v1, v2], rfl, rfl, ⟨[v1], [v2], rfl, ⟨v1, rfl, g1⟩, ⟨v2, rfl, g2⟩⟩⟩
theorem k123_openF {W : World} {ok : Nat → Prop} {x : S123} {cs : List Value} (h : Kd.FK k123 W ok x cs) : ∃ A1 c1 A2 c2, cs = [.int .i64 x.f0, .slice A1 x.f1.length c1, .slice A2 x.f2.length c2] ∧ x.f1.length ≤ c1 ∧ Kd.F (Kd.int .u8) W ok A1 x.f1.length x.f1 ∧ x.f2.length ≤ c2 ∧ Kd.F (Kd.int .u8) W ok A2 x.f2.length x.f2 := by
  obtain ⟨A1, c1, A2, c2, rfl, l1, _, l2, _⟩ := k123_open (Kd.FK_now h)
  exact ⟨A1, c1, A2, c2, rfl, l1, (fun W' hW => by obtain ⟨A1_, c1_, A2_, c2_, he, l1_, g1_, l2_, g2_⟩ := k123_open (h W' hW); injection (Option.some.inj (show some (Value.slice A1 x.f1.length c1) = some (Value.slice A1_ x.f1.length c1_) from congrArg (fun l => l[1]?) he)) with ha_ _ _; rw [ha_]; exact g1_), l2, (fun W' hW => by obtain ⟨A1_, c1_, A2_, c2_, he, l1_, g1_, l2_, g2_⟩ := k123_open (h W' hW); injection (Option.some.inj (show some (Value.slice A2 x.f2.length c2) = some (Value.slice A2_ x.f2.length c2_) from congrArg (fun l => l[2]?) he)) with ha_ _ _; rw [ha_]; exact g2_)⟩
theorem k123_mkF (W : World) (ok : Nat → Prop) (x : S123) {A1 : Option Addr} {c1 : Nat} (l1 : x.f1.length ≤ c1) (g1 : Kd.F (Kd.int .u8) W ok A1 x.f1.length x.f1) {A2 : Option Addr} {c2 : Nat} (l2 : x.f2.length ≤ c2) (g2 : Kd.F (Kd.int .u8) W ok A2 x.f2.length x.f2) : Kd.FK k123 W ok x [.int .i64 x.f0, .slice A1 x.f1.length c1, .slice A2 x.f2.length c2] := fun W2 hW => k123_mk W2 x l1 (g1 W2 hW) l2 (g2 W2 hW)
def rd_T123 (xs : List S123) (i : Int) : S123 := xs.getD i.toNat z123
theorem at_T123 {w : World} {A : Option Addr} {n : Nat} {xs : List S123} (h : Kd.C k123 w A n xs) (i : Int) (h0 : 0 ≤ i) (h1 : i < n) : ∃ ad A1 c1 A2 c2, A = some ad ∧ w.cell? (ad.add (i.toNat * 3)) = some (.int .i64 (rd_T123 xs i).f0) ∧ w.cell? ⟨(ad.add (i.toNat * 3)).block, (ad.add (i.toNat * 3)).off + 1, none⟩ = some (.slice A1 (rd_T123 xs i).f1.length c1) ∧ w.cell? ⟨(ad.add (i.toNat * 3)).block, (ad.add (i.toNat * 3)).off + 2, none⟩ = some (.slice A2 (rd_T123 xs i).f2.length c2) ∧ (rd_T123 xs i).f1.length ≤ c1 ∧ (Kd.int .u8).C w A1 (rd_T123 xs i).f1.length (rd_T123 xs i).f1 ∧ (rd_T123 xs i).f2.length ≤ c2 ∧ (Kd.int .u8).C w A2 (rd_T123 xs i).f2.length (rd_T123 xs i).f2 := by
  obtain ⟨ad, c, e, _, hK, hc0⟩ := Kd.C_get h z123 i h0 h1
  have hc : ∀ j u, c[j]? = some u → w.cell? (ad.add (i.toNat * 3 + j)) = some u := hc0
  obtain ⟨A1, c1, A2, c2, rfl, l1, g1, l2, g2⟩ := k123_open hK
  exact ⟨ad, A1, c1, A2, c2, e, hc 0 _ rfl, by rw [← add_field _ _ 1 (by omega)]; exact hc 1 _ rfl, by rw [← add_field _ _ 2 (by omega)]; exact hc 2 _ rfl, l1, g1, l2, g2⟩

/-! #### struct type 50 -/
structure S50 where
  f0 : Int
  f1 : (List Int)
  f2 : (List Int)
def z50 : S50 := ⟨(0 : Int), ([] : List Int), ([] : List Int)⟩
def k50 : Kd S50 := Kd.iso (Kd.pair (Kd.int .u8) (Kd.pair (Kd.slice 5 (Kd.int .u8)) (Kd.slice 5 (Kd.int .u8)))) (fun x : S50 => (x.f0, x.f1, x.f2))
theorem k50_open {w : World} {x : S50} {cs : List Value} (h : k50.K w x cs) : ∃ A1 c1 A2 c2, cs = [.int .u8 x.f0, .slice A1 x.f1.length c1, .slice A2 x.f2.length c2] ∧ x.f1.length ≤ c1 ∧ (Kd.int .u8).C w A1 x.f1.length x.f1 ∧ x.f2.length ≤ c2 ∧ (Kd.int .u8).C w A2 x.f2.length x.f2 := by
  obtain ⟨_, _, rfl, rfl, ⟨_, _, rfl, ⟨A1, c1, rfl, l1, g1⟩, ⟨A2, c2, rfl, l2, g2⟩⟩⟩ := h
  exact ⟨A1, c1, A2, c2, rfl, l1, g1, l2, g2⟩
theorem k50_openM {w : World} {base : Nat} {ok : Nat → Prop} {x : S50} {cs : List Value} (h : k50.M w base ok x cs) : ∃ v1 v2, cs = [.int .u8 x.f0, v1, v2] ∧ (Kd.int .u8).R 5 w base ok v1 x.f1 ∧ (Kd.int .u8).R 5 w base ok v2 x.f2 := by
  obtain ⟨_, _, rfl, rfl, ⟨_, _, rfl, ⟨v1, rfl, g1⟩, ⟨v2, rfl, g2⟩⟩⟩ := h
  exact ⟨v1, v2, rfl, g1, g2⟩
theorem k50_mk (w : World) (x : S50) {A1 : Option Addr} {c1 : Nat} (l1 : x.f1.length ≤ c1) (g1 : (Kd.int .u8).C w A1 x.f1.length x.f1) {A2 : Option Addr} {c2 : Nat} (l2 : x.f2.length ≤ c2) (g2 : (Kd.int .u8).C w A2 x.f2.length x.f2) : k50.K w x [.int .u8 x.f0, .slice A1 x.f1.length c1, .slice A2 x.f2.length c2] := ⟨[.int .u8 x.f0], [.slice A1 x.f1.length c1, .slice A2 x.f2.length c2], rfl, rfl, ⟨[.slice A1 x.f1.length c1], [.slice A2 x.f2.length c2], rfl, ⟨A1, c1, rfl, l1, g1⟩, ⟨A2, c2, rfl, l2, g2⟩⟩⟩
theorem k50_mkM (w : World) (base : Nat) (ok : Nat → Prop) (x : S50) {v1 : Value} (g1 : (Kd.int .u8).R 5 w base ok v1 x.f1) {v2 : Value} (g2 : (Kd.int .u8).R 5 w base ok v2 x.f2) : k50.M w base ok x [.int .u8 x.f0, v1, v2] := ⟨[.int .u8 x.f0], [v1, v2], rfl, rfl, ⟨[v1], [v2], rfl, ⟨v1, rfl, g1⟩, ⟨v2, rfl, g2⟩⟩⟩
theorem k50_openF {W : World} {ok : Nat → Prop} {x : S50} {cs : List Value} (h : Kd.FK k50 W ok x cs) : ∃ A1 c1 A2 c2, cs = [.int .u8 x.f0, .slice A1 x.f1.length c1, .slice A2 x.f2.length c2] ∧ x.f1.length ≤ c1 ∧ Kd.F (Kd.int .u8) W ok A1 x.f1.length x.f1 ∧ x.f2.length ≤ c2 ∧ Kd.F (Kd.int .u8) W ok A2 x.f2.length x.f2 := by
  obtain ⟨A1, c1, A2, c2, rfl, l1, _, l2, _⟩ := k50_open (Kd.FK_now h)
  exact ⟨A1, c1, A2, c2, rfl, l1, (fun W' hW => by obtain ⟨A1_, c1_, A2_, c2_, he, l1_, g1_, l2_, g2_⟩ := k50_open (h W' hW); injection (Option.some.inj (show some (Value.slice A1 x.f1.length c1) = some (Value.slice A1_ x.f1.length c1_) from congrArg (fun l => l[1]?) he)) with ha_ _ _; rw [ha_]; exact g1_), l2, (fun W' hW => by obtain ⟨A1_, c1_, A2_, c2_, he, l1_, g1_, l2_, g2_⟩ := k50_open (h W' hW); injection (Option.some.inj (show some (Value.slice A2 x.f2.length c2) = some (Value.slice A2_ x.f2.length c2_) from congrArg (fun l => l[2]?) he)) with ha_ _ _; rw [ha_]; exact g2_)⟩
theorem k50_mkF (W : World) (ok : Nat → Prop) (x : S50) {A1 : Option Addr} {c1 : Nat} (l1 : x.f1.length ≤ c1) (g1 : Kd.F (Kd.int .u8) W ok A1 x.f1.length x.f1) {A2 : Option Addr} {c2 : Nat} (l2 : x.f2.length ≤ c2) (g2 : Kd.F (Kd.int .u8) W ok A2 x.f2.length x.f2) : Kd.FK k50 W ok x [.int .u8 x.f0, .slice A1 x.f1.length c1, .slice A2 x.f2.length c2] := fun W2 hW => k50_mk W2 x l1 (g1 W2 hW) l2 (g2 W2 hW)
def rd_T50 (xs : List S50) (i : Int) : S50 := xs.getD i.toNat z50
theorem at_T50 {w : World} {A : Option Addr} {n : Nat} {xs : List S50} (h : Kd.C k50 w A n xs) (i : Int) (h0 : 0 ≤ i) (h1 : i < n) : ∃ ad A1 c1 A2 c2, A = some ad ∧ w.cell? (ad.add (i.toNat * 3)) = some (.int .u8 (rd_T50 xs i).f0) ∧ w.cell? ⟨(ad.add (i.toNat * 3)).block, (ad.add (i.toNat * 3)).off + 1, none⟩ = some (.slice A1 (rd_T50 xs i).f1.length c1) ∧ w.cell? ⟨(ad.add (i.toNat * 3)).block, (ad.add (i.toNat * 3)).off + 2, none⟩ = some (.slice A2 (rd_T50 xs i).f2.length c2) ∧ (rd_T50 xs i).f1.length ≤ c1 ∧ (Kd.int .u8).C w A1 (rd_T50 xs i).f1.length (rd_T50 xs i).f1 ∧ (rd_T50 xs i).f2.length ≤ c2 ∧ (Kd.int .u8).C w A2 (rd_T50 xs i).f2.length (rd_T50 xs i).f2 := by
  obtain ⟨ad, c, e, _, hK, hc0⟩ := Kd.C_get h z50 i h0 h1
  have hc : ∀ j u, c[j]? = some u → w.cell? (ad.add (i.toNat * 3 + j)) = some u := hc0
  obtain ⟨A1, c1, A2, c2, rfl, l1, g1, l2, g2⟩ := k50_open hK
  exact ⟨ad, A1, c1, A2, c2, e, hc 0 _ rfl, by rw [← add_field _ _ 1 (by omega)]; exact hc 1 _ rfl, by rw [← add_field _ _ 2 (by omega)]; exact hc 2 _ rfl, l1, g1, l2, g2⟩

end Go.Proofs.YtfhefoaieefnkaaDoor.PFnWriteSubs
