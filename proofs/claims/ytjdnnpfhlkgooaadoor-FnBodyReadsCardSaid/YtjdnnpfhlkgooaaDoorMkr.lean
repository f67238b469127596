/- packet.Marker.parse; impl.ReadMarker. -/
import Derived.Test.YtjdnnpfhlkgooaaDoorRlen
import Derived.Stop.Asserts
set_option linter.unusedVariables false
set_option linter.unusedSimpArgs false
namespace Go.Proofs.YtjdnnpfhlkgooaaDoor.Rd
open Go.RowKit Go.Proofs.YtjdnnpfhlkgooaaDoorW.PrintWords Go.Proofs.YtjdnnpfhlkgooaaDoorW.PrintMore Go.Proofs.YtjdnnpfhlkgooaaDoor.Kit

theorem row_c3 {w : World} {e base g : Nat} {x y z : Int} (h : R8 e w base (.slice (some ⟨g, 0, none⟩) 3 3) [x, y, z]) : C8 w (some ⟨g, 0, none⟩) [x, y, z] := by
  obtain ⟨A, c, e1, _, hC⟩ := r8_reads h
  injection e1 with e2 e3 e4
  subst e2
  exact hC
/-- What parse comes to: an error (or none), the source read on, nothing else touched. -/
def Prs (w : World) (d s : Nat) (split : Int) (er : Value → Prop) (en : Ending) (w' : World) : Prop :=
  ∃ v, er v ∧ en = .returned v ∧ Tch (fun j => j = s) w w'
set_option maxRecDepth 100000 in
theorem end_form {w : World} {d : Nat} {aE aU : Addr} (hE : Env w d aE aU) (m : ByteArray) : Calls Tryd.prog 37 #[.iface 130 (.string m)] w fun en w' => en = .returned (.int .i64 3) ∧ w' = w := by
  have e0 := hE.e
  have u0 := hE.u
  have q1 := run_eql_iface_types (P := Tryd.prog) 130 209 (.string m) (.pointer (some aE)) Tryd.underlying85 (by decide) w
  have q2 := run_eql_iface_types (P := Tryd.prog) 130 209 (.string m) (.pointer (some aU)) Tryd.underlying85 (by decide) w
  have q3 : (Instr.typeAssert (.iface 130 (.string m)) 85 130 true).run Tryd.prog w = .ok (.tuple #[.string m, .bool true]) w := by kernel_rfl
  clear hE
  go_enter Tryd.func37, Tryd.ntmps37
  go_wp2_with fail
  go_ret
  exact ⟨rfl, rfl⟩
/-- A new marker, a new source. -/
theorem Env.up {w : World} {d d' : Nat} {aE aU : Addr} (h : Env w d aE aU) (hd : d ≤ d') : Env w d' aE aU :=
  { h with
    de := Nat.lt_of_lt_of_le h.de hd
    du := Nat.lt_of_lt_of_le h.du hd
    ge := Nat.lt_of_lt_of_le h.ge hd
    gu := Nat.lt_of_lt_of_le h.gu hd }
end Go.Proofs.YtjdnnpfhlkgooaaDoor.Rd
