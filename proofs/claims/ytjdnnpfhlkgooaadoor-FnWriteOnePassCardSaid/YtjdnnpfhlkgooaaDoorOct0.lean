/- The byte's row of the table of types. -/
import Derived.Test.YtjdnnpfhlkgooaaDoorProg
import Derived.Test.YtjdnnpfhlkgooaaDoorKit
namespace Go.Proofs.YtjdnnpfhlkgooaaDoor.Kit
open Go.RowKit Go.Proofs.YtjdnnpfhlkgooaaDoorW.PrintWords

theorem infoB : (Tryd.prog.info? 5).map (fun i => (i.zero, i.size, i.bytes)) = some (some (.int .u8 0), 1, 1) := by kernel_rfl
theorem infoB1 : (Tryd.prog.info? 5).map (·.size) = some 1 := by kernel_rfl
theorem wf_u8 {a : Int} (h : (Lit.int .u8 a).wf = true) : 0 ≤ a ∧ a ≤ 255 := by
  simp [Lit.wf, IntKind.min, IntKind.max, IntKind.signed, IntKind.bits] at h
  omega
/-- All are bytes. -/
def Bytes (l : List Int) : Prop := ∀ i : Nat, 0 ≤ l.getD i 0 ∧ l.getD i 0 ≤ 255
theorem bytes_of {l : List Int} (h : ∀ x ∈ l, (Lit.int .u8 x).wf = true) : Bytes l := by
  intro i
  by_cases hi : i < l.length
  · have := wf_u8 (h _ (List.getElem_mem hi))
    rw [List.getD_eq_getElem?_getD, List.getElem?_eq_getElem hi, Option.getD_some]
    omega
  · rw [List.getD_eq_getElem?_getD, List.getElem?_eq_none (by omega)]
    simp
end Go.Proofs.YtjdnnpfhlkgooaaDoor.Kit
