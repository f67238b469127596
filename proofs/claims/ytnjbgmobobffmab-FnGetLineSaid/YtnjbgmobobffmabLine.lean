/- The first line of bytes: what the program and the statement make of it, walked. -/
import Derived.Test.YtnjbgmobobffmabOwn
import Derived.Test.YtnjbgmobobffmabSame
import Derived.Lib.BytesEntry
import Derived.Lib.IndexLaws
set_option linter.unusedVariables false
set_option linter.unusedSimpArgs false
namespace Go.Proofs.Ytnjbgmobobffmab.Line
open Go.RowKit Go.Proofs.YtnjbgmobobffmabW.PrintWords Go.Proofs.YtnjbgmobobffmabW.PrintMore Go.Proofs.Ytnjbgmobobffmab.Kit

/-- The first 10 of l lies at i. -/
structure At (l : List Int) (i : Nat) : Prop where
  lt : i < l.length
  is : l.getD i 0 = 10
  no : ∀ j, j < i → l.getD j 0 ≠ 10
/-- No 10 in l. -/
def Non (l : List Int) : Prop := ∀ j, j < l.length → l.getD j 0 ≠ 10
theorem non_or_at (l : List Int) (k : Nat) : k ≤ l.length → (∀ j, j < k → l.getD j 0 ≠ 10) ∨ ∃ i, At l i := by
  induction k with
  | zero => intro _; exact .inl (fun j h => by omega)
  | succ k ih =>
    intro hk
    rcases ih (by omega) with h | h
    · by_cases e : l.getD k 0 = 10
      · exact .inr ⟨k, by omega, e, h⟩
      · refine .inl fun j hj => ?_
        by_cases hjk : j = k
        · subst hjk; exact e
        · exact h j (by omega)
    · exact .inr h

theorem bytes_at (l : List Int) (hB : Bytes l) (k : Nat) : (Lib.bytesOf l)[k]? = some (10 : UInt8) ↔ k < l.length ∧ l.getD k 0 = 10 := by
  have hb := hB k
  unfold Lib.bytesOf
  rw [List.getElem?_map]
  rcases Nat.lt_or_ge k l.length with h | h
  · rw [List.getElem?_eq_getElem h, Option.map_some]
    rw [List.getD_eq_getElem?_getD, List.getElem?_eq_getElem h, Option.getD_some] at hb ⊢
    constructor
    · intro e
      have e1 := congrArg UInt8.toNat (Option.some.inj e)
      rw [UInt8.toNat_ofNat'] at e1
      refine ⟨h, ?_⟩
      have : (10 : UInt8).toNat = 10 := rfl
      omega
    · rintro ⟨_, e⟩
      rw [e]
      rfl
  · rw [List.getElem?_eq_none h]
    simp
    omega
theorem ix_none (l : List Int) (hB : Bytes l) (h : Non l) : Lib.indexByte (Lib.bytesOf l) (10 : UInt8) = -1 := by
  have hge := Lib.indexByte_ge (Lib.bytesOf l) (10 : UInt8)
  by_cases e : Lib.indexByte (Lib.bytesOf l) (10 : UInt8) = -1
  · exact e
  · obtain ⟨o, ho⟩ : ∃ o : Nat, Lib.indexByte (Lib.bytesOf l) (10 : UInt8) = o := ⟨(Lib.indexByte (Lib.bytesOf l) (10 : UInt8)).toNat, by omega⟩
    have := (bytes_at l hB o).1 (Lib.indexByte_some ho).1
    exact absurd this.2 (h o this.1)
theorem ix_some (l : List Int) (hB : Bytes l) (i : Nat) (h : At l i) : Lib.indexByte (Lib.bytesOf l) (10 : UInt8) = i := by
  have hge := Lib.indexByte_ge (Lib.bytesOf l) (10 : UInt8)
  by_cases e : Lib.indexByte (Lib.bytesOf l) (10 : UInt8) = -1
  · exact absurd ((bytes_at l hB i).2 ⟨h.lt, h.is⟩) (Lib.indexByte_none e i)
  · obtain ⟨o, ho⟩ : ∃ o : Nat, Lib.indexByte (Lib.bytesOf l) (10 : UInt8) = o := ⟨(Lib.indexByte (Lib.bytesOf l) (10 : UInt8)).toNat, by omega⟩
    obtain ⟨h1, h2⟩ := Lib.indexByte_some ho
    have h3 := (bytes_at l hB o).1 h1
    have h4 : ¬ o < i := fun hlt => h.no o hlt h3.2
    have h5 : ¬ i < o := fun hlt => h2 i hlt ((bytes_at l hB i).2 ⟨h.lt, h.is⟩)
    rw [ho]
    congr 1
    omega

theorem run_idx {P : Program} (w : World) (A : Option Addr) (c : Nat) (xs : List Int) (h : C8 w A xs) :
    (Extern.BytealgIndexByte.indexByte #[.slice A xs.length c, .int .u8 10]).run P w = .ok (.int .i64 (Lib.indexByte (Lib.bytesOf xs) (10 : UInt8))) w := by
  rcases Nat.eq_zero_or_pos xs.length with h0 | hp
  · obtain rfl : xs = [] := List.length_eq_zero_iff.1 h0
    cases A with
    | none => exact Lib.run_indexByteNil w 0 c 10
    | some a =>
      have hs := Lib.run_indexByteString (P := P) .empty 10 w
      exact hs
  · have hR := Kd.reads_of_C (enc := Value.int .u8) (d := (0 : Int)) (h1 := fun _ => rfl) h
    obtain ⟨ad, rfl, hc⟩ := hR.2.2 hp
    have hl := Lib.run_loadBytesX (P := P) w xs ad .empty (fun j x hj => by
      have hjl : j < xs.length := (List.getElem?_eq_some_iff.1 hj).1
      rw [hc j hjl, List.getD_eq_getElem?_getD, hj]
      rfl)
    have hs := Lib.run_indexByteString (P := P) ⟨(Lib.bytesOf xs).toArray⟩ 10 w
    have he : (⟨ByteArray.empty.data ++ (Lib.bytesOf xs).toArray⟩ : ByteArray) = ⟨(Lib.bytesOf xs).toArray⟩ := by
      apply ByteArray.ext
      show (#[] : Array UInt8) ++ (Lib.bytesOf xs).toArray = (Lib.bytesOf xs).toArray
      simp
    rw [he] at hl
    have key : ∀ v : Value, Extern.BytealgIndexByte.indexByte #[v, .int .u8 10] = (do
        let b ← Extern.Bytes.bytesOf v
        let d ← Extern.Bytes.asByte (.int .u8 10)
        match (List.range b.size).find? fun i => b[i]! == d with
        | some i => pure (goInt i)
        | none => pure (goInt (-1))) := fun _ => rfl
    rw [key] at hs ⊢
    simp only [Extern.Bytes.bytesOf, Sem.run_bind, Sem.run_pure, hl, Result.andThen] at hs ⊢
    exact hs

set_option maxHeartbeats 800000 in
set_option maxRecDepth 100000 in
theorem idx_calls (A : Option Addr) (c : Nat) (l : List Int) (w : World) (h : C8 w A l) :
    Calls Try.prog 45 #[.slice A l.length c, .int .u8 10] w fun e w' => e = .returned (.int .i64 (Lib.indexByte (Lib.bytesOf l) (10 : UInt8))) ∧ w = w' := by
  have H := Aside0.mk h
  clear h
  go_enter Try.func45, Try.ntmps45
  go_wp2
  rw [run_callFunc_extern Try.func47 (by kernel_rfl) (by kernel_rfl) (by kernel_rfl) (e := Extern.BytealgIndexByte.indexByte) (by kernel_rfl), run_idx w A c l H.out]
  simp only [Result.andThen]
  rw [Oper.upon_value]
  go_wp2
  go_ret
  exact ⟨rfl, rfl⟩
end Go.Proofs.Ytnjbgmobobffmab.Line
