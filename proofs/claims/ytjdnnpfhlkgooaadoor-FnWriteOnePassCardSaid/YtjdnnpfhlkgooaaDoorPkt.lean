/- A packet that was written, as spec.ReadPacket reads it. -/
import Derived.Test.YtjdnnpfhlkgooaaDoorRpp
import Derived.Test.YtjdnnpfhlkgooaaDoorHdr
set_option linter.unusedVariables false
set_option linter.unusedSimpArgs false
namespace Go.Proofs.YtjdnnpfhlkgooaaDoor.Rd
open Go.RowKit Go.Proofs.YtjdnnpfhlkgooaaDoorW.PrintWords Go.Proofs.YtjdnnpfhlkgooaaDoorW.PrintMore Go.Proofs.YtjdnnpfhlkgooaaDoor.Kit
open Go.Proofs.YtjdnnpfhlkgooaaDoor Go.Proofs.YtjdnnpfhlkgooaaDoor.PFnBodyReads

theorem rdl_lenB (n : Int) (h0 : 0 ≤ n) (h1 : n ≤ 4294967295) (m : List Int) : rdl (lenB n ++ m) = some (n, false, m) := by
  unfold lenB
  split
  · rename_i a; simp only [List.cons_append, List.nil_append, rdl, if_pos a]
  · rename_i a
    split
    · rename_i b
      have e : (192 + (n - 192) / 256 - 192) * 256 + ((n - 192) % 256 + 192) = n := by omega
      simp only [List.cons_append, List.nil_append, rdl]
      rw [if_neg (by omega), if_pos (by omega), e]
    · rename_i b
      have e : n / 16777216 * 16777216 + n / 65536 % 256 * 65536 + n / 256 % 256 * 256 + n % 256 = n := by omega
      simp only [List.cons_append, List.nil_append, rdl]
      rw [if_neg (by omega), if_neg (by omega), if_neg (by omega), e]
theorem lenB_bytes (n : Int) (h0 : 0 ≤ n) (h1 : n ≤ 4294967295) : ∀ x ∈ lenB n, 0 ≤ x ∧ x ≤ 255 := by
  intro x hx
  unfold lenB at hx
  split at hx
  · simp at hx; omega
  · split at hx
    · simp at hx; omega
    · simp at hx; omega
theorem bytes_all {l : List Int} (h : ∀ x ∈ l, 0 ≤ x ∧ x ≤ 255) : Bytes l := by
  intro i
  by_cases hi : i < l.length
  · rw [List.getD_eq_getElem?_getD, List.getElem?_eq_getElem hi]; exact h _ (List.getElem_mem hi)
  · rw [List.getD_eq_getElem?_getD, List.getElem?_eq_none (by omega)]; simp
/-- Two rows of bytes in a row. -/
theorem tagB_val : ∀ n : Nat, n < 64 → tagB (n : Int) = 192 + (n : Int) := by decide +kernel
def pkt (p : Nat) (body : List Int) : List Int := tagB (p : Int) :: (lenB (body.length : Int) ++ body)
theorem pkt_bytes {p : Nat} (hp : p < 64) {body : List Int} (hb : ∀ x ∈ body, 0 ≤ x ∧ x ≤ 255) (hl : body.length ≤ 5000000) : Bytes (pkt p body) := by
  refine bytes_all (fun x hx => ?_)
  unfold pkt at hx
  rcases List.mem_cons.1 hx with q | q
  · rw [q, tagB_val p hp]; omega
  · rcases List.mem_append.1 q with q | q
    · exact lenB_bytes _ (by omega) (by omega) x q
    · exact hb x q
theorem pkt_hdr {p : Nat} (hp : p < 64) (body : List Int) (hl : body.length ≤ 5000000) : Hdr (pkt p body) (p : Int) (body.length : Int) body true [] := by
  have h := Hdr.new (b := tagB (p : Int)) (by rw [tagB_val p hp]; omega) (rdl_lenB (body.length : Int) (by omega) (by omega) body)
  rw [Int.toNat_natCast, List.take_of_length_le (Nat.le_refl _), List.drop_of_length_le (Nat.le_refl _), decide_eq_true (Nat.le_refl _), show tagB (p : Int) % 64 = (p : Int) by rw [tagB_val p hp]; omega] at h
  exact h
theorem pkt_read {p : Nat} (hp : p < 64) {body : List Int} (hb : ∀ x ∈ body, 0 ≤ x ∧ x ≤ 255) (hl : body.length ≤ 5000000) : ∃ k, spec_ReadPacket.f k (pkt p body) = some ((p : Int), body, ((pkt p body).length : Int), 0) := by
  have lp : (pkt p body).length ≤ 10000000 := by
    unfold pkt
    have := (lenB_length (body.length : Int)).2
    rw [List.length_cons, List.length_append]
    omega
  obtain ⟨k, hk⟩ := sp_head (pkt_hdr hp body hl) (pkt_bytes hp hb hl) lp
  rw [if_pos rfl] at hk
  simp only [List.length_nil] at hk
  exact ⟨k, by rw [hk]; simp⟩
end Go.Proofs.YtjdnnpfhlkgooaaDoor.Rd
