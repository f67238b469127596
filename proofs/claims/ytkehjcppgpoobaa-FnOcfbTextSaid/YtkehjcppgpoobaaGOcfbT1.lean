/- OpenPGP cipher feedback deciphers what follows a right prefix: the law FnOcfbText returns true for every input (no condition). -/
import Derived.Test.YtkehjcppgpoobaaGOcfb3
import Derived.Test.YtkehjcppgpoobaaProg
import Derived.Test.YtkehjcppgpoobaaGOcfb1
import Derived.Deep.Cut
import Derived.Test.YtkehjcppgpoobaaWMore
import Derived.Deep.Matrix
import Derived.Test.YtkehjcppgpoobaaRows
import Derived.WalkKit
import Derived.ProofKit
import Derived.OpenShut
import Derived.ShutString
import Derived.ChangeOld
import Derived.Below
import Derived.SizedLaws
import Derived.Lib.SmallJoins
import Derived.Test.YtkehjcppgpoobaaWSized
/- What the guards of the feedback mode's laws come to, in plain lists. -/
set_option linter.unusedVariables false
set_option linter.unusedSimpArgs false
namespace Go.Proofs.Ytkehjcppgpoobaa.Ocf
open Go.RowKit Go.Proofs.YtkehjcppgpoobaaW.PrintWords Go.Proofs.YtkehjcppgpoobaaW.PrintMore Go.Proofs.Ytkehjcppgpoobaa.Kit Go.Proofs.Ytkehjcppgpoobaa.Mix Go.Proofs.Ytkehjcppgpoobaa.Blk Go.Proofs.Ytkehjcppgpoobaa.PFnOcfb

theorem rdL (l : List (List Int)) (i : Nat) : rd_L1 l (i : Int) = l.getD i [] := by simp [rd_L1, rdOf]
theorem drop_count (l : List Int) (v : Int) (i : Nat) (hi : i < l.length) : (l.drop i).count v = (l.drop (i + 1)).count v + if l.getD i 0 = v then 1 else 0 := by
  rw [List.drop_eq_getElem_cons hi, List.count_cons, List.getD_eq_getElem?_getD, List.getElem?_eq_getElem hi, Option.getD_some]
  by_cases h : l[i] = v <;> simp [h]
theorem perm_l1 (l : List Int) (hB : Bytes l) (val n v : Int) (hl : l.length ≤ 4294967296) : ∀ d i (m k : Nat), i + d = l.length → m ≤ i →
    spec_permutes.l1 (d + (k + 1)) l val m n v l (l.length : Int) (i : Int) = if m + (l.drop i).count val = 1 then spec_permutes.l0 k l n (wrap64 (v + 1)) else some false
  | 0, i, m, k, h, hm => by
    rw [Nat.zero_add, spec_permutes.l1, if_neg (by omega), List.drop_of_length_le (by omega)]
    by_cases e : m = 1
    · rw [if_pos (by omega), if_pos (by simp; omega)]
    · rw [if_neg (by omega), if_neg (by simp; omega)]
  | d + 1, i, m, k, h, hm => by
    rw [show d + 1 + (k + 1) = (d + (k + 1)) + 1 by omega, spec_permutes.l1, if_pos (by omega), if_pos (by omega), if_pos (by omega), rdn, wrap64_id (by have := hB i; omega) (by have := hB i; omega)]
    have e1 : wrap64 ((m : Int) + 1) = ((m + 1 : Nat) : Int) := (wrap64_id (by omega) (by omega)).trans (by omega)
    have e2 : wrap64 ((i : Int) + 1) = ((i + 1 : Nat) : Int) := (wrap64_id (by omega) (by omega)).trans (by omega)
    rw [e1, e2, perm_l1 l hB val n v hl d (i + 1) (m + 1) k (by omega) (by omega), perm_l1 l hB val n v hl d (i + 1) m k (by omega) (by omega), drop_count l val i (by omega)]
    by_cases hv : l.getD i 0 = val
    · rw [if_pos hv, if_pos hv, show m + ((l.drop (i + 1)).count val + 1) = m + 1 + (l.drop (i + 1)).count val by omega]
    · rw [if_neg hv, if_neg hv, show m + ((l.drop (i + 1)).count val + 0) = m + (l.drop (i + 1)).count val by omega]
theorem perm_l0 (l : List Int) (hB : Bytes l) (n : Nat) (hn : n ≤ 256) (hl : l.length ≤ 4294967296) : ∀ d v, v + d = n → ∃ k b, spec_permutes.l0 k l n (v : Int) = some b ∧ (b = true → ∀ u, v ≤ u → u < n → l.count (u : Int) = 1)
  | 0, v, h => ⟨1, true, by rw [spec_permutes.l0, if_neg (by omega)], fun _ u h1 h2 => by omega⟩
  | d + 1, v, h => by
    obtain ⟨k, b, h1, h2⟩ := perm_l0 l hB n hn hl d (v + 1) (by omega)
    have e2 : wrap64 ((v : Int) + 1) = ((v + 1 : Nat) : Int) := (wrap64_id (by omega) (by omega)).trans (by omega)
    have h3 := perm_l1 l hB v n v hl l.length 0 0 k (by omega) (Nat.le_refl _)
    rw [e2, h1, List.drop_zero, Nat.zero_add] at h3
    by_cases hc : l.count (v : Int) = 1
    · rw [if_pos hc] at h3
      refine ⟨l.length + (k + 1) + 1, b, by rw [spec_permutes.l0, if_pos (by omega)]; exact h3, fun hb u h1 h2' => ?_⟩
      by_cases e : u = v
      · subst e; exact hc
      · exact h2 hb u (by omega) h2'
    · rw [if_neg hc] at h3
      exact ⟨l.length + (k + 1) + 1, false, by rw [spec_permutes.l0, if_pos (by omega)]; exact h3, fun hb => by cases hb⟩
theorem perm_f (l : List Int) (hB : Bytes l) (n : Nat) (hn : n ≤ 256) (hl : l.length ≤ 4294967296) : ∃ k b, spec_permutes.f k l n = some b ∧ (b = true → l.length = n ∧ ∀ u, u < n → l.count (u : Int) = 1) := by
  obtain ⟨k, b, h1, h2⟩ := perm_l0 l hB n hn hl n 0 (by omega)
  by_cases e : l.length = n
  · exact ⟨k, b, by unfold spec_permutes.f; rw [if_pos (by omega)]; exact h1, fun hb => ⟨e, fun u hu => h2 hb u (Nat.zero_le _) hu⟩⟩
  · exact ⟨0, false, by unfold spec_permutes.f; rw [if_neg (by omega)], fun hb => by cases hb⟩
/-- How many of a list lie below n. -/
def lown (l : List Int) (n : Nat) : Nat := l.countP (fun x => decide (0 ≤ x ∧ x < (n : Int)))
theorem lown_succ (l : List Int) (n : Nat) : lown l (n + 1) = lown l n + l.count (n : Int) := by
  unfold lown
  induction l with
  | nil => rfl
  | cons a l ih =>
    rw [List.countP_cons, List.countP_cons, List.count_cons, ih]
    by_cases h1 : a = (n : Int)
    · subst h1
      have q1 : decide (0 ≤ (n : Int) ∧ (n : Int) < ((n + 1 : Nat) : Int)) = true := decide_eq_true (by omega)
      have q2 : decide (0 ≤ (n : Int) ∧ (n : Int) < (n : Int)) = false := decide_eq_false (by omega)
      rw [q1, q2]; simp; omega
    · have q : decide (0 ≤ a ∧ a < ((n + 1 : Nat) : Int)) = decide (0 ≤ a ∧ a < (n : Int)) := decide_eq_decide.2 (by omega)
      rw [q]; simp [h1]; omega
theorem lown_all (l : List Int) : ∀ n : Nat, (∀ u : Nat, u < n → l.count (u : Int) = 1) → lown l n = n
  | 0, _ => by
    unfold lown
    rw [List.countP_eq_zero]
    intro a _; simp
  | n + 1, h => by rw [lown_succ, lown_all l n (fun u hu => h u (by omega)), h n (by omega)]
theorem perm_of {l : List Int} {n : Nat} (hl : l.length = n) (h : ∀ u : Nat, u < n → l.count (u : Int) = 1) : (∀ i, i < n → 0 ≤ l.getD i 0 ∧ l.getD i 0 < n) ∧ l.Nodup := by
  have h1 := lown_all l n h
  have h2 : ∀ a, a ∈ l → 0 ≤ a ∧ a < (n : Int) := by
    have : l.countP (fun x => decide (0 ≤ x ∧ x < (n : Int))) = l.length := by rw [hl]; exact h1
    rw [List.countP_eq_length] at this
    intro a ha
    exact of_decide_eq_true (this a ha)
  refine ⟨fun i hi => ?_, ?_⟩
  · rw [List.getD_eq_getElem?_getD, List.getElem?_eq_getElem (by omega), Option.getD_some]
    exact h2 _ (List.getElem_mem _)
  · rw [List.nodup_iff_count]
    intro a
    by_cases ha : a ∈ l
    · obtain ⟨q1, q2⟩ := h2 a ha
      obtain ⟨u, rfl⟩ : ∃ u : Nat, a = u := ⟨a.toNat, by omega⟩
      exact Nat.le_of_eq (h u (by omega))
    · rw [List.count_eq_zero.2 ha]; omega
theorem at_k {α : Type} {g : Nat → Option α} (h : ∀ k, LeO (g k) (g (k + 1))) {k : Nat} {r : α} (hr : g k = some r) (j : Nat) : g (k + j) = some r := at_rounds h (by omega) hr
theorem right_f (perm sub mask : List Int) (bP : Bytes perm) (bS : Bytes sub) (bM : Bytes mask) (lp : perm.length ≤ 2147483647) (ls : sub.length ≤ 2147483647) (lm : mask.length ≤ 2147483647) :
    ∃ k b, spec_RightBlock.f k perm sub mask = some b ∧ (b = true → Right perm sub mask) := by
  unfold spec_RightBlock.f
  by_cases h1 : (mask.length : Int) ≥ 1
  · by_cases h2 : (mask.length : Int) ≤ 32
    · obtain ⟨k1, b1, e1, p1⟩ := perm_f perm bP mask.length (by omega) (by omega)
      obtain ⟨k2, b2, e2, p2⟩ := perm_f sub bS 256 (by omega) (by omega)
      have f1 := at_k (g := fun k => spec_permutes.f k perm (mask.length : Int)) (fun k => spec_permutes.mono _ _ k) e1 k2
      have f2 := at_k (g := fun k => spec_permutes.f k sub ((256 : Nat) : Int)) (fun k => spec_permutes.mono _ _ k) e2 k1
      refine ⟨k1 + k2, b1 && b2, ?_, fun hb => ?_⟩
      · rw [if_pos h1, if_pos h2]
        refine bind_of f1 ?_
        cases b1
        · rfl
        · rw [if_pos rfl]
          rw [Nat.add_comm] at f2
          exact bind_of f2 (by simp)
      · rw [Bool.and_eq_true] at hb
        obtain ⟨q1, q2⟩ := p1 hb.1
        obtain ⟨q3, q4⟩ := p2 hb.2
        obtain ⟨r1, r2⟩ := perm_of q1 q2
        obtain ⟨r3, r4⟩ := perm_of q3 q4
        exact ⟨q1, q3, by omega, by omega, r1, bS, bM, r2, r4⟩
    · exact ⟨0, false, by rw [if_pos h1, if_neg h2], fun hb => by cases hb⟩
  · exact ⟨0, false, by rw [if_neg h1], fun hb => by cases hb⟩
theorem fits_l0 (ls : List (List Int)) (hl : ls.length ≤ 2147483647) : ∀ d i, i + d = ls.length → ∃ k b, laws_zzFits2.l0 k ls (ls.length : Int) (i : Int) = some b ∧ (b = true → ∀ j, i ≤ j → j < ls.length → (ls.getD j []).length ≤ 2147483647)
  | 0, i, h => ⟨1, true, by rw [laws_zzFits2.l0, if_neg (by omega)], fun _ j h1 h2 => by omega⟩
  | d + 1, i, h => by
    obtain ⟨k, b, h1, h2⟩ := fits_l0 ls hl d (i + 1) (by omega)
    have e2 : wrap64 ((i : Int) + 1) = ((i + 1 : Nat) : Int) := (wrap64_id (by omega) (by omega)).trans (by omega)
    by_cases hc : (((ls.getD i []).length : Nat) : Int) > 2147483647
    · exact ⟨k + 1, false, by rw [laws_zzFits2.l0, if_pos (by omega), if_pos (by omega), if_pos (by omega), rdL, if_pos hc], fun hb => by cases hb⟩
    · refine ⟨k + 1, b, by rw [laws_zzFits2.l0, if_pos (by omega), if_pos (by omega), if_pos (by omega), rdL, if_neg hc, e2]; exact h1, fun hb j h3 h4 => ?_⟩
      by_cases e : j = i
      · subst e; omega
      · exact h2 hb j (by omega) h4
theorem fits_f (ls : List (List Int)) : ∃ k b, laws_zzFits2.f k ls = some b ∧ (b = true → ∀ l, l ∈ ls → l.length ≤ 2147483647) := by
  unfold laws_zzFits2.f
  by_cases h : (ls.length : Int) > 2147483647
  · exact ⟨0, false, by rw [if_pos h], fun hb => by cases hb⟩
  · obtain ⟨k, b, h1, h2⟩ := fits_l0 ls (by omega) ls.length 0 (by omega)
    refine ⟨k, b, by rw [if_neg h]; exact h1, fun hb l hl => ?_⟩
    obtain ⟨j, hj, e⟩ := List.getElem_of_mem hl
    have := h2 hb j (Nat.zero_le _) hj
    rw [List.getD_eq_getElem?_getD, List.getElem?_eq_getElem hj, Option.getD_some, e] at this
    exact this
theorem flat_le {ls : List (List Int)} {b : Nat} (h : ∀ l, l ∈ ls → l.length ≤ b) : ls.flatten.length ≤ ls.length * b := by
  induction ls with
  | nil => simp
  | cons l ls ih =>
    have h1 := h l (List.mem_cons_self ..)
    have h2 := ih (fun m hm => h m (List.mem_cons_of_mem _ hm))
    rw [List.flatten_cons, List.length_append, List.length_cons, Nat.add_mul]; omega
theorem joined_l0 (ls : List (List Int)) (hl : ls.length ≤ 60) (hb : ∀ l, l ∈ ls → l.length ≤ 2147483647) : ∀ d i, i + d = ls.length → laws_joinedTexts.l0 (d + 1) ls (ls.take i).flatten (i : Int) = some ls.flatten
  | 0, i, h => by rw [laws_joinedTexts.l0, if_neg (by omega), List.take_of_length_le (by omega)]
  | d + 1, i, h => by
    have hi : i < ls.length := by omega
    have e2 : wrap64 ((i : Int) + 1) = ((i + 1 : Nat) : Int) := (wrap64_id (by omega) (by omega)).trans (by omega)
    have q1 : (ls.take i).flatten.length ≤ (ls.take i).length * 2147483647 := flat_le (fun l hm => hb l (List.mem_of_mem_take hm))
    have q2 : (ls.take i).length ≤ 60 := by rw [List.length_take]; omega
    have q3 : (ls.getD i []).length ≤ 2147483647 := by rw [List.getD_eq_getElem?_getD, List.getElem?_eq_getElem hi, Option.getD_some]; exact hb _ (List.getElem_mem _)
    have q4 : (ls.take i).length * 2147483647 ≤ 60 * 2147483647 := Nat.mul_le_mul_right _ q2
    have e3 : (ls.take i).flatten ++ ls.getD i [] = (ls.take (i + 1)).flatten := by
      rw [List.take_succ_eq_append_getElem hi, List.flatten_append, List.getD_eq_getElem?_getD, List.getElem?_eq_getElem hi, Option.getD_some]; simp
    rw [laws_joinedTexts.l0, if_pos (by omega), if_pos (by omega), rdL, if_pos (by omega), e3, e2]
    exact joined_l0 ls hl hb d (i + 1) (by omega)
theorem joined_f (ls : List (List Int)) (hl : ls.length ≤ 60) (hb : ∀ l, l ∈ ls → l.length ≤ 2147483647) : laws_joinedTexts.f (ls.length + 1) ls = some ls.flatten :=
  joined_l0 ls hl hb ls.length 0 (by omega)
theorem brief_f1 (t : List Int) : laws_brief.f 2 [t] = some (decide (t.length ≤ 4096)) := by
  have e0 : rd_L1 [t] 0 = t := rfl
  unfold laws_brief.f
  rw [laws_brief.l0, if_pos (by simp), if_pos (by omega), e0]
  by_cases h : (t.length : Int) > 4096
  · rw [if_pos h, decide_eq_false (by omega)]
  · have e2 : wrap64 ((0 : Int) + 1) = 1 := by rw [wrap64_id (by omega) (by omega)]; rfl
    rw [if_neg h, e2, laws_brief.l0, if_neg (by simp), decide_eq_true (by omega)]
theorem feed_f (perm sub mask R : List Int) (ls : List (List Int)) (bP : Bytes perm) (bS : Bytes sub) (bM : Bytes mask) (lp : perm.length ≤ 2147483647) (l2 : sub.length ≤ 2147483647) (lm : mask.length ≤ 2147483647) (hb : ∀ l, l ∈ ls → l.length ≤ 2147483647) :
    ∃ k b, laws_feedable.f k perm sub mask R ls = some b ∧ (b = true → Right perm sub mask ∧ 2 ≤ mask.length ∧ R.length = mask.length ∧ ls.length ≤ 60 ∧ ls.flatten.length ≤ 4096) := by
  obtain ⟨k1, b1, e1, p1⟩ := right_f perm sub mask bP bS bM lp l2 lm
  unfold laws_feedable.f
  cases b1
  · exact ⟨k1, false, bind_of e1 rfl, fun hb => by cases hb⟩
  by_cases h1 : (mask.length : Int) ≥ 2
  · by_cases h2 : (R.length : Int) = (mask.length : Int)
    · by_cases h3 : (ls.length : Int) ≤ 60
      · have f1 := at_k (g := fun k => spec_RightBlock.f k perm sub mask) (fun k => spec_RightBlock.mono _ _ _ k) e1 (ls.length + 1 + 2)
        have f2 := at_k (g := fun k => laws_joinedTexts.f k ls) (fun k => laws_joinedTexts.mono _ k) (joined_f ls (by omega) hb) (k1 + 2)
        have f3 := at_k (g := fun k => laws_brief.f k [ls.flatten]) (fun k => laws_brief.mono _ k) (brief_f1 ls.flatten) (k1 + (ls.length + 1))
        refine ⟨k1 + (ls.length + 1 + 2), decide (ls.flatten.length ≤ 4096), bind_of f1 ?_, fun hb => ⟨p1 rfl, by omega, by omega, by omega, of_decide_eq_true hb⟩⟩
        rw [if_pos rfl, if_pos h1, if_pos h2, if_pos h3]
        refine bind_of (by rw [show k1 + (ls.length + 1 + 2) = ls.length + 1 + (k1 + 2) by omega]; exact f2) ?_
        exact bind_of (by rw [show k1 + (ls.length + 1 + 2) = 2 + (k1 + (ls.length + 1)) by omega]; exact f3) rfl
      · exact ⟨k1, false, bind_of e1 (by rw [if_pos rfl, if_pos h1, if_pos h2, if_neg h3]), fun hb => by cases hb⟩
    · exact ⟨k1, false, bind_of e1 (by rw [if_pos rfl, if_pos h1, if_neg h2]), fun hb => by cases hb⟩
  · exact ⟨k1, false, bind_of e1 (by rw [if_pos rfl, if_neg h1]), fun hb => by cases hb⟩
theorem alike_l0 (a b : List (List Int)) (hm : a.map List.length = b.map List.length) (hl : a.length ≤ 2147483647) : ∀ d i, i + d = a.length → laws_alike.l0 (d + 1) a b (i : Int) = some true
  | 0, i, h => by rw [laws_alike.l0, if_neg (by omega)]
  | d + 1, i, h => by
    have hab : a.length = b.length := by have := congrArg List.length hm; simpa using this
    have e2 : wrap64 ((i : Int) + 1) = ((i + 1 : Nat) : Int) := (wrap64_id (by omega) (by omega)).trans (by omega)
    have e3 : (a.getD i []).length = (b.getD i []).length := by
      have := congrArg (fun l => l[i]?) hm
      simp only [List.getElem?_map, List.getElem?_eq_getElem (show i < a.length by omega), List.getElem?_eq_getElem (show i < b.length by omega), Option.map_some, Option.some.injEq] at this
      rw [List.getD_eq_getElem?_getD, List.getD_eq_getElem?_getD, List.getElem?_eq_getElem (show i < a.length by omega), List.getElem?_eq_getElem (show i < b.length by omega)]
      exact this
    rw [laws_alike.l0, if_pos (by omega), if_pos (by omega), if_pos (by omega), rdL, rdL, if_pos (by omega), e2]
    exact alike_l0 a b hm hl d (i + 1) (by omega)
theorem alike_f (a b : List (List Int)) (hm : a.map List.length = b.map List.length) (hl : a.length ≤ 2147483647) : laws_alike.f (a.length + 1) a b = some true := by
  have hab : a.length = b.length := by have := congrArg List.length hm; simpa using this
  unfold laws_alike.f
  rw [if_pos (by omega)]
  exact alike_l0 a b hm hl a.length 0 (by omega)
end Go.Proofs.Ytkehjcppgpoobaa.Ocf

/- spec.SameBytes of two slices that read alike. -/
set_option linter.unusedVariables false
set_option linter.unusedSimpArgs false
namespace Go.Proofs.Ytkehjcppgpoobaa.Kit
open Go.RowKit Go.Proofs.YtkehjcppgpoobaaW.PrintWords Go.Proofs.YtkehjcppgpoobaaW.PrintMore

set_option maxHeartbeats 800000 in
set_option maxRecDepth 100000 in
theorem same_calls {A B : Option Addr} {c d n m : Nat} {l l' : List Int} {w : World} (hA : C8 w A l) (hB : C8 w B l') (e : l = l') (hn : n = l.length) (hm : m = l'.length) :
    Calls Try.prog 15 #[.slice A n c, .slice B m d] w fun e w' => e = .returned (.bool true) ∧ Below w.heap.size w w' := by
  subst e hn hm
  have HA := Aside0.mk hA
  have HB := Aside0.mk hB
  have hmax : l.length ≤ 9223372036854775807 := Kd.C_max hA
  clear hA hB
  go_enter Try.func15, Try.ntmps15
  go_wp2
  go_loopw [13] (fun i wr => ∃ k : Nat, k ≤ l.length ∧ i = .int .i64 (k : Int) ∧ Aside0 (∃ n, wr = w.drewN n)) (fun i _ => l.length - (intOf i).toNat)
  case atStart => exact ⟨0, Nat.zero_le _, rfl, ⟨⟨0, rfl⟩⟩⟩
  case round =>
    obtain ⟨k, hk, rfl, ⟨nd, rfl⟩⟩ := hrel
    by_cases hlt : k < l.length
    · obtain ⟨ad, rfl, hx⟩ := Kd.at_int HA.out (k : Int) (by omega) (by omega)
      obtain ⟨bd, rfl, hy⟩ := Kd.at_int HB.out (k : Int) (by omega) (by omega)
      rw [Int.toNat_natCast] at hx hy
      have hlt' : (k : Int) < (l.length : Int) := by omega
      have h0 : (0 : Int) ≤ (k : Int) := by omega
      have ht : ((k : Int)).toNat = k := by omega
      go_wp2
      go_quiet (fail)
      go_wp2
      go_roundw
      case rel => exact ⟨k + 1, hlt, by go_num, ⟨⟨_, by first | rfl | (simp only [World.drewN_drewN]; rfl)⟩⟩⟩
      case measure => simp [intOf]; omega
    · go_wp2
      go_ret
      exact ⟨rfl, pw_below_drewN (Below.refl _ _) _⟩
end Go.Proofs.Ytkehjcppgpoobaa.Kit

/- spec.OcfbBack over plain data, walked. -/
set_option linter.unusedVariables false
set_option linter.unusedSimpArgs false
namespace Go.Proofs.Ytkehjcppgpoobaa.Ocf
open Go.RowKit Go.Proofs.YtkehjcppgpoobaaW.PrintWords Go.Proofs.YtkehjcppgpoobaaW.PrintMore Go.Proofs.Ytkehjcppgpoobaa.Kit Go.Proofs.Ytkehjcppgpoobaa.Mix Go.Proofs.Ytkehjcppgpoobaa.Blk Go.Proofs.Ytkehjcppgpoobaa.PFnOcfb

theorem litH {e : TypeId} {base k : Nat} {W W' : World} (h : W'.heap = (W.alloc (.cells #[] e)).heap) (hk : k = W.heap.size) (hb : base ≤ W.heap.size) : R8 e W' base (.slice (some ⟨k, 0, none⟩) 0 0) [] := by
  subst hk
  exact Kd.R_lower (Kd.R_step (Kd.R_of_own (own_lit W W.heap.size e .u8 [] (Nat.le_refl _) (by simp)) (fun _ _ => trivial)) (fun k _ _ => by rw [h]; rfl)) hb
theorem litH2 {e : TypeId} {base k : Nat} {W W' : World} {o : Obj} (h : W'.heap = ((W.alloc (.cells #[] e)).alloc o).heap) (hk : k = W.heap.size) (hb : base ≤ W.heap.size) : R8 e W' base (.slice (some ⟨k, 0, none⟩) 0 0) [] := by
  subst hk
  exact Kd.R_lower (Kd.R_step (Kd.R_alloc (Kd.R_of_own (own_lit W W.heap.size e .u8 [] (Nat.le_refl _) (by simp)) (fun _ _ => trivial)) o) (fun k _ _ => by rw [h]; rfl)) hb
theorem c8_heap {w w' : World} {A : Option Addr} {l : List Int} (h : w'.heap = w.heap) (hc : C8 w A l) : C8 w' A l := by
  refine ⟨hc.1, hc.2.1, fun hn => ?_⟩
  obtain ⟨ad, he, hcc⟩ := hc.2.2 hn
  refine ⟨ad, he, fun j p hj => ?_⟩
  obtain ⟨cs, h1, h2, h3⟩ := hcc j p hj
  refine ⟨cs, h1, h2, fun i u hu => ?_⟩
  have := h3 i u hu
  simpa [World.cell?, h] using this
theorem zH {e : TypeId} {k n : Nat} {W W' : World} (h : W'.heap = (W.alloc (.cells (madeCells #[Value.int IntKind.u8 0] n) e)).heap) (hk : k = W.heap.size) (hn : n ≤ 281474976710656) : C8 W' (some ⟨k, 0, none⟩) (List.replicate n 0) := by
  subst hk
  exact c8_heap h (Kd.R_reads' (made8 e n hn W)).2.2
theorem zH2 {e : TypeId} {k n : Nat} {W W' : World} {o : Obj} (h : W'.heap = ((W.alloc (.cells (madeCells #[Value.int IntKind.u8 0] n) e)).alloc o).heap) (hk : k = W.heap.size) (hn : n ≤ 281474976710656) : C8 W' (some ⟨k, 0, none⟩) (List.replicate n 0) := by
  subst hk
  exact c8_heap h (Kd.C_alloc (Kd.R_reads' (made8 e n hn W)).2.2 o)
theorem litE (e : TypeId) (W : World) : R8 e (W.alloc (.cells #[] e)) W.heap.size (.slice (some ⟨W.heap.size, 0, none⟩) 0 0) [] := Kd.R_of_own (own_lit W W.heap.size e .u8 [] (Nat.le_refl _) (by simp)) (fun _ _ => trivial)

set_option maxHeartbeats 3200000 in
set_option maxRecDepth 100000 in
theorem ocfbB_calls (Ap : Option Addr) (cp : Nat) (perm : List Int) (As : Option Addr) (cs : Nat) (sub : List Int) (Am : Option Addr) (cm : Nat) (mask : List Int) (Ar : Option Addr) (cr : Nat) (R : List Int) (At : Option Addr) (ct : Nat) (T : List Int) (resync : Bool) (w : World)
    (hp : C8 w Ap perm) (hs : C8 w As sub) (hm : C8 w Am mask) (hr : Right perm sub mask) (h2 : 2 ≤ mask.length) (hR : C8 w Ar R) (hRB : Bytes R) (hRl : R.length = mask.length + 2) (hRc : R.length ≤ cr) (hT : C8 w At T) (hTB : Bytes T) (hTc : T.length ≤ ct) (hTl : T.length ≤ 1000000) {nr nt : Nat} (hnr : nr = R.length) (hnt : nt = T.length) :
    Calls Try.prog 26 #[.iface 79 (.agg #[.slice Ap perm.length cp, .slice As sub.length cs, .slice Am mask.length cm]), .slice Ar nr cr, .bool resync, .slice At nt ct] w fun e w' => ∃ A1 c1 A2 n2 c2, e = .returned (.tuple #[.slice A1 (mask.length + 2) c1, .slice A2 n2 c2]) ∧
      C8 w' A1 (outN (enc perm sub mask) mask.length true (List.replicate mask.length 0, mask.length) R) ∧ mask.length + 2 ≤ c1 ∧
      n2 = (after (enc perm sub mask) mask.length true resync R R T).length ∧ C8 w' A2 (after (enc perm sub mask) mask.length true resync R R T) ∧ n2 ≤ c2 ∧ Below w.heap.size w w' := by
  subst hnr
  subst hnt
  have HP := Aside0.mk hp
  have HS := Aside0.mk hs
  have HM := Aside0.mk hm
  have HR := Aside0.mk hr
  have HX := Aside0.mk hR
  have HT := Aside0.mk hT
  have HB := Aside0.mk (And.intro hRB hTB)
  have HL := Aside0.mk hRl
  have HC := Aside0.mk (And.intro hRc hTc)
  have m1 := hr.m1
  have m2 := hr.m2
  have hmk := made_run (P := Try.prog) 22 5 mask.length Try.underlying22 infoB (by omega)
  rw [hRl]
  clear hp hs hm hr hR hT hRB hTB hRl hRc hTc
  cases resync
  · have hadd : IntKind.i64.wrap ((mask.length : Int) + 2) = (mask.length : Int) + 2 := IntWalk.i64_in _ (by omega)
    go_enter Try.func26, Try.ntmps26
    go_wp2_with (first | (go_at_call 110; (with_reducible refine (dsize_calls Ap perm.length cp As sub.length cs Am mask.length cm).mono ?_); rintro e w1 ⟨rfl, hBs⟩) | (go_at_call 44; (with_reducible refine (cfb_calls Ap cp perm As cs sub Am cm mask _ _ (List.replicate mask.length 0) Ar cr R true _ (Kd.C_below HP.out ?hb) (Kd.C_below HS.out ?hb) (Kd.C_below HM.out ?hb) HR.out ?hz (zeros_bytes _) List.length_replicate (Kd.C_below HX.out ?hb) HB.out.1 HC.out.1 (by rw [HL.out]; omega) List.length_replicate.symm HL.out.symm).mono ?_); (case hb => exact hBs.alloc (below_size hBs) _); (case hz => exact (Kd.R_reads' (made8 5 mask.length (by omega) _)).2.2); rintro e w3 ⟨v18, rfl, hR, hB18⟩; obtain ⟨A18, c18, e18, hc18, hr18⟩ := r8_reads hR; subst e18; rw [outN_length, HL.out] at hc18 ⊢; have R18 := Aside0.mk hr18; have C18 := Aside0.mk hc18; have BW := Aside0.mk (below_then (hBs.alloc (below_size hBs) _) (below_size (hBs.alloc (below_size hBs) _)) hB18); clear hR hr18 hB18 hBs))
    go_region_held3 (fun w' => Below w3.heap.size w3 w') (first | assumption | (focus (go_grown; done)) | (focus (refine Below.alloc ?_ ?_ _; (assumption); (exact below_size (by assumption))))) (first | (refine appendS w3.heap.size rfl (.tmp 29) (.tmp 30) 22 5 rfl Try.underlying22 infoB _ [] R Ar cr rfl rfl HL.out.symm ?_ ?_ ?_ ?_ ?_; (focus (first | (exact litH rfl (by first | (simp; done) | rfl) (by first | (exact Nat.le_refl _) | (simp; done) | (simp; omega) | (exact below_size (by assumption)))) | (exact litH2 rfl (by first | (simp; done) | rfl) (by first | (exact Nat.le_refl _) | (simp; done) | (simp; omega) | (exact below_size (by assumption)))))); (focus (exact Kd.C_below HX.out (below_then BW.out (below_size BW.out) (by assumption)))); (focus (exact below_size (by assumption))); (focus (rw [HL.out]; simp; omega)); intro v31 w5 hR31 hBa hG31 hAt31; rw [List.nil_append] at hR31; obtain ⟨A31, c31, e31, hc31, hr31⟩ := r8_reads hR31; subst e31; rw [HL.out] at hc31 hR31 hAt31 ⊢; have hB0 : Below w3.heap.size w3 w5 := (by refine Below.trans (b := _) ?_ hBa; assumption); have H31 := Aside0.mk (And.intro hR31 (And.intro hc31 hr31)); have HA31 := Aside0.mk hAt31; (first | (have ZF := Aside0.mk (Tch.c8 (Tch.of_grown hG31) (show C8 _ (some ⟨w3.heap.size, 0, none⟩) (List.replicate mask.length 0) by (first | (exact zH rfl (by first | (simp; done) | rfl) (by omega)) | (exact zH2 rfl (by first | (simp; done) | rfl) (by omega)))) (fun ad e _ hk => by injection e with e; subst e; have q := Option.some.inj hk; first | omega | (simp at q; done) | (simp at q; omega)))) | (have ZF := Aside0.mk (Tch.c8 (Tch.of_grown hG31) (show C8 _ (some ⟨w3.heap.size + 1, 0, none⟩) (List.replicate mask.length 0) by (first | (exact zH rfl (by first | (simp; done) | rfl) (by omega)) | (exact zH2 rfl (by first | (simp; done) | rfl) (by omega)))) (fun ad e _ hk => by injection e with e; subst e; have q := Option.some.inj hk; first | omega | (simp at q; done) | (simp at q; omega)))) | skip); clear hR31 hc31 hr31 hAt31 hG31 hBa) | (refine appendS w3.heap.size rfl (.tmp 31) (.tmp 32) 22 5 rfl Try.underlying22 infoB (.slice A31 (mask.length + 2) c31) R T At ct rfl rfl rfl ?_ ?_ ?_ ?_ ?_; (focus (first | (exact H31.out.1) | (exact Kd.R_below H31.out.1 (below_alloc (Below.refl _ _) _)))); (focus (exact Kd.C_below HT.out (below_then BW.out (below_size BW.out) (by assumption)))); (focus (exact below_size (by assumption))); (focus (rw [HL.out]; omega)); intro v33 w6 hR33 hBb hG33 hAt33; obtain ⟨A33, c33, e33, hc33, hr33⟩ := r8_reads hR33; subst e33; rw [List.length_append, HL.out] at hc33 ⊢; have R33 := Aside0.mk (And.intro hc33 hr33); have hB6 : Below w3.heap.size w3 w6 := (by refine Below.trans (b := _) ?_ hBb; assumption); (first | (have n1 := Aside0.mk (Tch.c8 (Tch.of_grown hG33) ZF.out (fun ad e _ hk => by injection e with e; subst e; rcases HA31.out with q | ⟨b, q, hb⟩ <;> (have q2 := Option.some.inj (q.symm.trans hk); first | omega | (simp at q2; done) | (simp at q2; omega) | (simp at hb q2; omega)))); clear ZF; have ZF := n1; clear n1) | (have ZF := Aside0.mk (Tch.c8 (Tch.of_grown hG33) (show C8 _ (some ⟨w5.heap.size, 0, none⟩) (List.replicate mask.length 0) by (first | (exact zH rfl (by first | (simp; done) | rfl) (by omega)) | (exact zH2 rfl (by first | (simp; done) | rfl) (by omega)))) (fun ad e _ hk => by injection e with e; subst e; have q := Kd.R_lt H31.out.1 _ hk; first | omega | (simp at q; done) | (simp at q; omega)))) | skip); clear hR33 hc33 hr33 hAt33 hG33 hBb) | (go_at_call 44; (with_reducible refine (cfb_calls Ap cp perm As cs sub Am cm mask _ _ (List.replicate mask.length 0) A33 c33 (R ++ T) true _ (Kd.C_below HP.out ?hb) (Kd.C_below HS.out ?hb) (Kd.C_below HM.out ?hb) HR.out ?hz (zeros_bytes _) List.length_replicate ?hr (bytes_app HB.out.1 HB.out.2) (by rw [List.length_append, HL.out]; exact R33.out.1) (by rw [List.length_append, HL.out]; omega) List.length_replicate.symm (by rw [List.length_append, HL.out])).mono ?_); (case hb => exact (below_then BW.out (below_size BW.out) (by assumption))); (case hz => first | (exact ZF.out) | (first | (exact zH rfl (by first | (simp; done) | rfl) (by omega)) | (exact zH2 rfl (by first | (simp; done) | rfl) (by omega)))); (case hr => first | (exact R33.out.2) | (exact Kd.C_alloc R33.out.2 _)); rintro e w7 ⟨v34, rfl, hR, hB34⟩; obtain ⟨A34, c34, e34, hc34, hr34⟩ := r8_reads hR; subst e34; rw [outN_length, List.length_append, HL.out] at hc34 ⊢; obtain ⟨Ax, x1, x2, x3⟩ := drop8 (P := Try.prog) (t := 22) (e := 5) Try.underlying22 infoB A34 c34 (outN (enc perm sub mask) mask.length true (List.replicate mask.length 0, mask.length) (R ++ T)) (mask.length + 2) (by rw [outN_length, List.length_append, HL.out]; omega) (by rw [outN_length, List.length_append, HL.out]; exact hc34) (n := mask.length + 2 + T.length) (by rw [outN_length, List.length_append, HL.out]); have X2 := Aside0.mk (x2 _ hr34); have y1 : ∀ W : World, (Instr.slice 22 (.slice A34 (mask.length + 2 + T.length) c34) (some (.int .i64 ((mask.length : Int) + 2))) none none).run Try.prog W = .ok (.slice Ax (mask.length + 2 + T.length - (mask.length + 2)) (c34 - (mask.length + 2))) W := x1; have hB7 : Below w3.heap.size w3 w7 := (by refine below_then (w1 := _) ?_ ?_ hB34; (assumption); (exact below_size (by assumption))); clear hr34 hR x1 x2 x3 hB34))
    all_goals
      go_wp2_with fail
      go_ret2
      exact ⟨_, _, _, _, _, rfl, Kd.C_below R18.out hB7, C18.out, by show _ = ((outN _ _ _ _ _).drop _).length; rw [List.length_drop, outN_length, List.length_append, HL.out]; omega, X2.out, by omega, below_then BW.out (below_size BW.out) hB7⟩
  · obtain ⟨Ad, d1, d2, d3⟩ := drop8 (P := Try.prog) (t := 22) (e := 5) Try.underlying22 infoB Ar cr R 2 (by rw [HL.out]; omega) HC.out.1 HL.out.symm
    have D2 := Aside0.mk d2
    have hm0 : ¬ mask.length = 0 := by omega
    have e1 : mask.length + 2 - 2 = mask.length := by omega
    rw [e1] at d1
    have d1' : ∀ W : World, (Instr.slice 22 (.slice Ar (mask.length + 2) cr) (some (.int .i64 2)) none none).run Try.prog W = .ok (.slice Ad mask.length (cr - 2)) W := d1
    clear d2 d3 e1 d1
    go_enter Try.func26, Try.ntmps26
    go_upto_region 4 with (first | (go_at_call 110; (with_reducible refine (dsize_calls Ap perm.length cp As sub.length cs Am mask.length cm).mono ?_); rintro e w1 ⟨rfl, hBs⟩) | (go_at_call 44; (with_reducible refine (cfb_calls Ap cp perm As cs sub Am cm mask _ _ (List.replicate mask.length 0) Ar cr R true _ (Kd.C_below HP.out ?hb) (Kd.C_below HS.out ?hb) (Kd.C_below HM.out ?hb) HR.out ?hz (zeros_bytes _) List.length_replicate (Kd.C_below HX.out ?hb) HB.out.1 HC.out.1 (by rw [HL.out]; omega) List.length_replicate.symm HL.out.symm).mono ?_); (case hb => exact hBs.alloc (below_size hBs) _); (case hz => exact (Kd.R_reads' (made8 5 mask.length (by omega) _)).2.2); rintro e w3 ⟨v18, rfl, hR, hB18⟩; obtain ⟨A18, c18, e18, hc18, hr18⟩ := r8_reads hR; subst e18; rw [outN_length, HL.out] at hc18 ⊢; have R18 := Aside0.mk hr18; have C18 := Aside0.mk hc18; have BW := Aside0.mk (below_then (hBs.alloc (below_size hBs) _) (below_size (hBs.alloc (below_size hBs) _)) hB18); clear hR hr18 hB18 hBs))
    go_wp2_with fail
    (with_reducible refine (cfb_calls Ap cp perm As cs sub Am cm mask Ad (cr - 2) (R.drop 2) At ct T true _ (Kd.C_below HP.out BW.out) (Kd.C_below HS.out BW.out) (Kd.C_below HM.out BW.out) HR.out (D2.out _ (Kd.C_below HX.out BW.out)) (bytes_drop HB.out.1 2) (by rw [List.length_drop, HL.out]; omega) (Kd.C_below HT.out BW.out) HB.out.2 HC.out.2 (by omega) (by rw [List.length_drop, HL.out]; omega) rfl).mono ?_)
    rintro e w4 ⟨v25, rfl, hR, hB25⟩
    obtain ⟨A25, c25, e25, hc25, hr25⟩ := r8_reads hR
    subst e25
    have R25 := Aside0.mk hr25
    have C25 := Aside0.mk hc25
    have B25 := Aside0.mk hB25
    clear hR hr25 hB25
    go_wp2
    go_ret2
    exact ⟨_, _, _, _, _, rfl, Kd.C_below R18.out B25.out, C18.out, rfl, R25.out, C25.out, below_then BW.out (below_size BW.out) B25.out⟩
end Go.Proofs.Ytkehjcppgpoobaa.Ocf

/- The law FnOcfbText, for every input. -/
set_option linter.unusedVariables false
set_option linter.unusedSimpArgs false
namespace Go.Proofs.Ytkehjcppgpoobaa.Ocf
open Go.RowKit Go.Proofs.YtkehjcppgpoobaaW.PrintWords Go.Proofs.YtkehjcppgpoobaaW.PrintMore Go.Proofs.Ytkehjcppgpoobaa.Kit Go.Proofs.Ytkehjcppgpoobaa.Mix Go.Proofs.Ytkehjcppgpoobaa.Blk Go.Proofs.Ytkehjcppgpoobaa.PFnOcfb

/-- What comes in. -/
structure Inp (w : World) (Ap : Option Addr) (cp : Nat) (perm : List Int) (As : Option Addr) (cs : Nat) (sub : List Int) (Am : Option Addr) (cm : Nat) (mask : List Int) (Ar : Option Addr) (cr : Nat) (R : List Int) (A : Option Addr) (c : Nat) (ls : List (List Int)) : Prop where
  p : C8 w Ap perm
  s : C8 w As sub
  m : C8 w Am mask
  r : C8 w Ar R
  l : Kd.C (Kd.slice 5 (Kd.int .u8)) w A ls.length ls
  pc : perm.length ≤ cp
  sc : sub.length ≤ cs
  mc : mask.length ≤ cm
  rc : R.length ≤ cr
  lc : ls.length ≤ c
  bP : Bytes perm
  bS : Bytes sub
  bM : Bytes mask
  bR : Bytes R
  bL : ∀ l, l ∈ ls → Bytes l
theorem Inp.below {w w1 : World} {Ap : Option Addr} {cp : Nat} {perm : List Int} {As : Option Addr} {cs : Nat} {sub : List Int} {Am : Option Addr} {cm : Nat} {mask : List Int} {Ar : Option Addr} {cr : Nat} {R : List Int} {A : Option Addr} {c : Nat} {ls : List (List Int)} (h : Inp w Ap cp perm As cs sub Am cm mask Ar cr R A c ls) (hB : Below w.heap.size w w1) : Inp w1 Ap cp perm As cs sub Am cm mask Ar cr R A c ls :=
  { h with p := Kd.C_below h.p hB, s := Kd.C_below h.s hB, m := Kd.C_below h.m hB, r := Kd.C_below h.r hB, l := Kd.C_below h.l hB }

theorem len_flat {l : List Int} {ls : List (List Int)} (h : l ∈ ls) : l.length ≤ ls.flatten.length := by
  induction ls with
  | nil => cases h
  | cons m ls ih =>
    rw [List.flatten_cons, List.length_append]
    rcases List.mem_cons.1 h with h | h
    · subst h; omega
    · have := ih h; omega

theorem flat_bytes {ls : List (List Int)} (h : ∀ l, l ∈ ls → Bytes l) : Bytes ls.flatten := by
  induction ls with
  | nil => exact nil_bytes
  | cons l ls ih => rw [List.flatten_cons]; exact bytes_app (h l (List.mem_cons_self ..)) (ih (fun m hm => h m (List.mem_cons_of_mem _ hm)))
theorem outs_le {E : List Int → List Int} {n : Nat} {back : Bool} {s : List Int × Nat} {ls : List (List Int)} {b : Nat} (h : ∀ l, l ∈ ls → l.length ≤ b) : ∀ l, l ∈ outsN E n back s ls → l.length ≤ b := by
  intro l hl
  have h1 : l.length ∈ (outsN E n back s ls).map List.length := List.mem_map.2 ⟨l, hl, rfl⟩
  rw [outsN_lengths] at h1
  obtain ⟨m, hm, e⟩ := List.mem_map.1 h1
  rw [← e]; exact h m hm

theorem Bx.held {w w' : World} {b : Nat} {v0 v1 v2 : Value} (k : w.cell? ⟨b, 0, none⟩ = some v0 ∧ w.cell? ⟨b, 1, none⟩ = some v1 ∧ w.cell? ⟨b, 2, none⟩ = some v2) (hb : Below w.heap.size w w') :
    w'.cell? ⟨b, 0, none⟩ = some v0 ∧ w'.cell? ⟨b, 1, none⟩ = some v1 ∧ w'.cell? ⟨b, 2, none⟩ = some v2 ∧ Below w.heap.size w w' :=
  ⟨pw_cell_below hb k.1, pw_cell_below hb k.2.1, pw_cell_below hb k.2.2, hb⟩
theorem held_below {w w' : World} {a0 a1 a2 : Addr} {v0 v1 v2 : Value} (h : w'.cell? a0 = some v0 ∧ w'.cell? a1 = some v1 ∧ w'.cell? a2 = some v2 ∧ Below w.heap.size w w') : Below w.heap.size w w' := h.2.2.2

set_option maxHeartbeats 3200000 in
set_option maxRecDepth 100000 in
theorem lawT_a {Ap : Option Addr} {cp : Nat} {perm : List Int} {As : Option Addr} {cs : Nat} {sub : List Int} {Am : Option Addr} {cm : Nat} {mask : List Int} {Ar : Option Addr} {cr : Nat} {R : List Int} {resync : Bool} {A : Option Addr} {c : Nat} {ls : List (List Int)} {w : World} (hin : Inp w Ap cp perm As cs sub Am cm mask Ar cr R A c ls) (h27 : laws_zzFits27.f perm sub mask = some false) :
    Calls Try.prog 5 #[(.agg #[.slice Ap perm.length cp, .slice As sub.length cs, .slice Am mask.length cm]), .slice Ar R.length cr, .bool resync, .slice A ls.length c] w fun e w' => e = .returned (.bool true) ∧ Below w.heap.size w w' := by
  have HI := Aside0.mk (hin.below (below_alloc (Below.refl _ _) (.cells #[.slice Ap perm.length cp, .slice As sub.length cs, .slice Am mask.length cm] 39)))
  have H27 := Aside0.mk h27
  clear h27
  clear hin
  go_enter Try.func5, Try.ntmps5
  go_upto_region 1 with (fail)
  have n1 := Bx.new w (.slice Ap perm.length cp) (.slice As sub.length cs) (.slice Am mask.length cm) 39
  generalize w.alloc (.cells #[.slice Ap perm.length cp, .slice As sub.length cs, .slice Am mask.length cm] 39) = W0 at n1 HI ⊢
  generalize w.heap.size = bx at n1 ⊢
  have k0 := n1.k0
  have k1 := n1.k1
  have k2 := n1.k2
  have HX := Aside0.mk n1
  clear n1
  go_wp2_with (first | (go_at_call 20; (with_reducible refine (laws_zzFits27.calls Ap cp perm As cs sub Am cm mask false _ HI.out.p HI.out.pc HI.out.s HI.out.sc HI.out.m HI.out.mc H27.out).mono ?_); rintro e w1 ⟨rfl, hB⟩; have n1 := HX.out.below hB; clear k0 k1 k2 HX; have k0 := n1.k0; have k1 := n1.k1; have k2 := n1.k2; have HX := Aside0.mk n1; clear n1; have n2 := HI.out.below hB; clear HI; have HI := Aside0.mk n2; clear n2; clear hB))
  go_ret
  exact ⟨rfl, HX.out.bl⟩

set_option maxHeartbeats 3200000 in
set_option maxRecDepth 100000 in
theorem lawT_b {Ap : Option Addr} {cp : Nat} {perm : List Int} {As : Option Addr} {cs : Nat} {sub : List Int} {Am : Option Addr} {cm : Nat} {mask : List Int} {Ar : Option Addr} {cr : Nat} {R : List Int} {resync : Bool} {A : Option Addr} {c : Nat} {ls : List (List Int)} {w : World} (hin : Inp w Ap cp perm As cs sub Am cm mask Ar cr R A c ls) (h27 : laws_zzFits27.f perm sub mask = some true) (hRl : 2147483647 < R.length) :
    Calls Try.prog 5 #[(.agg #[.slice Ap perm.length cp, .slice As sub.length cs, .slice Am mask.length cm]), .slice Ar R.length cr, .bool resync, .slice A ls.length c] w fun e w' => e = .returned (.bool true) ∧ Below w.heap.size w w' := by
  have HI := Aside0.mk (hin.below (below_alloc (Below.refl _ _) (.cells #[.slice Ap perm.length cp, .slice As sub.length cs, .slice Am mask.length cm] 39)))
  have H27 := Aside0.mk h27
  clear h27
  have d1 : decide ((2147483647 : Int) < (R.length : Int)) = true := decide_eq_true (by omega)
  have d1' : decide (2147483647 < R.length) = true := decide_eq_true (by omega)
  clear hin
  go_enter Try.func5, Try.ntmps5
  go_upto_region 1 with (fail)
  have n1 := Bx.new w (.slice Ap perm.length cp) (.slice As sub.length cs) (.slice Am mask.length cm) 39
  generalize w.alloc (.cells #[.slice Ap perm.length cp, .slice As sub.length cs, .slice Am mask.length cm] 39) = W0 at n1 HI ⊢
  generalize w.heap.size = bx at n1 ⊢
  have k0 := n1.k0
  have k1 := n1.k1
  have k2 := n1.k2
  have HX := Aside0.mk n1
  clear n1
  go_wp2_with (first | (go_at_call 20; (with_reducible refine (laws_zzFits27.calls Ap cp perm As cs sub Am cm mask true _ HI.out.p HI.out.pc HI.out.s HI.out.sc HI.out.m HI.out.mc H27.out).mono ?_); rintro e w1 ⟨rfl, hB⟩; have n1 := HX.out.below hB; clear k0 k1 k2 HX; have k0 := n1.k0; have k1 := n1.k1; have k2 := n1.k2; have HX := Aside0.mk n1; clear n1; have n2 := HI.out.below hB; clear HI; have HI := Aside0.mk n2; clear n2; clear hB))
  go_ret
  exact ⟨rfl, HX.out.bl⟩

set_option maxHeartbeats 3200000 in
set_option maxRecDepth 100000 in
theorem lawT_c {Ap : Option Addr} {cp : Nat} {perm : List Int} {As : Option Addr} {cs : Nat} {sub : List Int} {Am : Option Addr} {cm : Nat} {mask : List Int} {Ar : Option Addr} {cr : Nat} {R : List Int} {resync : Bool} {A : Option Addr} {c : Nat} {ls : List (List Int)} {w : World} (hin : Inp w Ap cp perm As cs sub Am cm mask Ar cr R A c ls) (h27 : laws_zzFits27.f perm sub mask = some true) (hRl : R.length ≤ 2147483647) (k2f : Nat) (h2f : laws_zzFits2.f k2f ls = some false) :
    Calls Try.prog 5 #[(.agg #[.slice Ap perm.length cp, .slice As sub.length cs, .slice Am mask.length cm]), .slice Ar R.length cr, .bool resync, .slice A ls.length c] w fun e w' => e = .returned (.bool true) ∧ Below w.heap.size w w' := by
  have HI := Aside0.mk (hin.below (below_alloc (Below.refl _ _) (.cells #[.slice Ap perm.length cp, .slice As sub.length cs, .slice Am mask.length cm] 39)))
  have H27 := Aside0.mk h27
  clear h27
  have H2F := Aside0.mk h2f
  clear h2f
  have d1 : decide ((2147483647 : Int) < (R.length : Int)) = false := decide_eq_false (by omega)
  have d1' : decide (2147483647 < R.length) = false := decide_eq_false (by omega)
  clear hin
  go_enter Try.func5, Try.ntmps5
  go_upto_region 1 with (fail)
  have n1 := Bx.new w (.slice Ap perm.length cp) (.slice As sub.length cs) (.slice Am mask.length cm) 39
  generalize w.alloc (.cells #[.slice Ap perm.length cp, .slice As sub.length cs, .slice Am mask.length cm] 39) = W0 at n1 HI ⊢
  generalize w.heap.size = bx at n1 ⊢
  have k0 := n1.k0
  have k1 := n1.k1
  have k2 := n1.k2
  have HX := Aside0.mk n1
  clear n1
  go_wp2_with (first | (go_at_call 20; (with_reducible refine (laws_zzFits27.calls Ap cp perm As cs sub Am cm mask true _ HI.out.p HI.out.pc HI.out.s HI.out.sc HI.out.m HI.out.mc H27.out).mono ?_); rintro e w1 ⟨rfl, hB⟩; have n1 := HX.out.below hB; clear k0 k1 k2 HX; have k0 := n1.k0; have k1 := n1.k1; have k2 := n1.k2; have HX := Aside0.mk n1; clear n1; have n2 := HI.out.below hB; clear HI; have HI := Aside0.mk n2; clear n2; clear hB) | (go_at_call 21; (with_reducible refine (laws_zzFits2.calls k2f A c ls false _ HI.out.l HI.out.lc H2F.out).mono ?_); rintro e w1 ⟨rfl, hD⟩; have hB := hD.below; have n1 := HX.out.below hB; clear k0 k1 k2 HX; have k0 := n1.k0; have k1 := n1.k1; have k2 := n1.k2; have HX := Aside0.mk n1; clear n1; have n2 := HI.out.below hB; clear HI; have HI := Aside0.mk n2; clear n2; clear hB hD))
  go_ret
  exact ⟨rfl, HX.out.bl⟩

set_option maxHeartbeats 3200000 in
set_option maxRecDepth 100000 in
theorem lawT_d {Ap : Option Addr} {cp : Nat} {perm : List Int} {As : Option Addr} {cs : Nat} {sub : List Int} {Am : Option Addr} {cm : Nat} {mask : List Int} {Ar : Option Addr} {cr : Nat} {R : List Int} {resync : Bool} {A : Option Addr} {c : Nat} {ls : List (List Int)} {w : World} (hin : Inp w Ap cp perm As cs sub Am cm mask Ar cr R A c ls) (h27 : laws_zzFits27.f perm sub mask = some true) (hRl : R.length ≤ 2147483647) (k2f : Nat) (h2f : laws_zzFits2.f k2f ls = some true) (kf : Nat) (hff : laws_feedable.f kf perm sub mask R ls = some false) :
    Calls Try.prog 5 #[(.agg #[.slice Ap perm.length cp, .slice As sub.length cs, .slice Am mask.length cm]), .slice Ar R.length cr, .bool resync, .slice A ls.length c] w fun e w' => e = .returned (.bool true) ∧ Below w.heap.size w w' := by
  have HI := Aside0.mk (hin.below (below_alloc (Below.refl _ _) (.cells #[.slice Ap perm.length cp, .slice As sub.length cs, .slice Am mask.length cm] 39)))
  have H27 := Aside0.mk h27
  clear h27
  have H2F := Aside0.mk h2f
  clear h2f
  have HFF := Aside0.mk hff
  clear hff
  have d1 : decide ((2147483647 : Int) < (R.length : Int)) = false := decide_eq_false (by omega)
  have d1' : decide (2147483647 < R.length) = false := decide_eq_false (by omega)
  clear hin
  go_enter Try.func5, Try.ntmps5
  go_upto_region 1 with (fail)
  have n1 := Bx.new w (.slice Ap perm.length cp) (.slice As sub.length cs) (.slice Am mask.length cm) 39
  generalize w.alloc (.cells #[.slice Ap perm.length cp, .slice As sub.length cs, .slice Am mask.length cm] 39) = W0 at n1 HI ⊢
  generalize w.heap.size = bx at n1 ⊢
  have k0 := n1.k0
  have k1 := n1.k1
  have k2 := n1.k2
  have HX := Aside0.mk n1
  clear n1
  go_wp2_with (first | (go_at_call 20; (with_reducible refine (laws_zzFits27.calls Ap cp perm As cs sub Am cm mask true _ HI.out.p HI.out.pc HI.out.s HI.out.sc HI.out.m HI.out.mc H27.out).mono ?_); rintro e w1 ⟨rfl, hB⟩; have n1 := HX.out.below hB; clear k0 k1 k2 HX; have k0 := n1.k0; have k1 := n1.k1; have k2 := n1.k2; have HX := Aside0.mk n1; clear n1; have n2 := HI.out.below hB; clear HI; have HI := Aside0.mk n2; clear n2; clear hB) | (go_at_call 21; (with_reducible refine (laws_zzFits2.calls k2f A c ls true _ HI.out.l HI.out.lc H2F.out).mono ?_); rintro e w1 ⟨rfl, hD⟩; have hB := hD.below; have n1 := HX.out.below hB; clear k0 k1 k2 HX; have k0 := n1.k0; have k1 := n1.k1; have k2 := n1.k2; have HX := Aside0.mk n1; clear n1; have n2 := HI.out.below hB; clear HI; have HI := Aside0.mk n2; clear n2; clear hB hD) | (go_at_call 22; (with_reducible refine (laws_feedable.calls kf Ap cp perm As cs sub Am cm mask Ar cr R A c ls false _ HI.out.p HI.out.pc HI.out.s HI.out.sc HI.out.m HI.out.mc HI.out.r HI.out.rc HI.out.l HI.out.lc HFF.out).mono ?_); rintro e w1 ⟨rfl, hB⟩; have n1 := HX.out.below hB; clear k0 k1 k2 HX; have k0 := n1.k0; have k1 := n1.k1; have k2 := n1.k2; have HX := Aside0.mk n1; clear n1; have n2 := HI.out.below hB; clear HI; have HI := Aside0.mk n2; clear n2; clear hB))
  go_ret
  exact ⟨rfl, HX.out.bl⟩

set_option maxHeartbeats 3200000 in
set_option maxRecDepth 100000 in
theorem lawT_m {Ap : Option Addr} {cp : Nat} {perm : List Int} {As : Option Addr} {cs : Nat} {sub : List Int} {Am : Option Addr} {cm : Nat} {mask : List Int} {Ar : Option Addr} {cr : Nat} {R : List Int} {resync : Bool} {A : Option Addr} {c : Nat} {ls : List (List Int)} {w : World} (hin : Inp w Ap cp perm As cs sub Am cm mask Ar cr R A c ls) (h27 : laws_zzFits27.f perm sub mask = some true) (hRl : R.length ≤ 2147483647) (k2f : Nat) (h2f : laws_zzFits2.f k2f ls = some true) (kf : Nat) (hff : laws_feedable.f kf perm sub mask R ls = some true) (hr : Right perm sub mask) (h2 : 2 ≤ mask.length) (hRm : R.length = mask.length) (h60 : ls.length ≤ 60) (hfl : ls.flatten.length ≤ 4096) :
    Calls Try.prog 5 #[(.agg #[.slice Ap perm.length cp, .slice As sub.length cs, .slice Am mask.length cm]), .slice Ar R.length cr, .bool resync, .slice A ls.length c] w fun e w' => e = .returned (.bool true) ∧ Below w.heap.size w w' := by
  have HI := Aside0.mk (hin.below (below_alloc (Below.refl _ _) (.cells #[.slice Ap perm.length cp, .slice As sub.length cs, .slice Am mask.length cm] 39)))
  have H27 := Aside0.mk h27
  clear h27
  have H2F := Aside0.mk h2f
  clear h2f
  have HFF := Aside0.mk hff
  clear hff
  have d1 : decide ((2147483647 : Int) < (R.length : Int)) = false := decide_eq_false (by omega)
  have d1' : decide (2147483647 < R.length) = false := decide_eq_false (by omega)
  have HM := Aside0.mk (And.intro hr (And.intro hRm (And.intro h60 hfl)))
  have m2 := hr.m2
  obtain ⟨F, eF⟩ : ∃ F, outN (enc perm sub mask) mask.length false (List.replicate mask.length 0, mask.length) (told R) = F := ⟨_, rfl⟩
  obtain ⟨G, eG⟩ : ∃ G, outN (enc perm sub mask) mask.length true (List.replicate mask.length 0, mask.length) F = G := ⟨_, rfl⟩
  obtain ⟨st, eS⟩ : ∃ st, begun (enc perm sub mask) mask.length true resync F F = st := ⟨_, rfl⟩
  have fl : F.length = mask.length + 2 := by rw [← eF, outN_length, told_length (by omega), hRm]
  have FL := Aside0.mk fl
  have FB := Aside0.mk (show Bytes F by rw [← eF]; exact outN_bytes (fun x => enc_bytes hr) _ _ (told_bytes hin.bR) (zeros_bytes _))
  have GL := Aside0.mk (show G.length = mask.length + 2 by rw [← eG, outN_length, fl])
  have ES := Aside0.mk (And.intro eF (And.intro eG eS))
  have AF := Aside0.mk (show outN (enc perm sub mask) mask.length true st ls.flatten = after (enc perm sub mask) mask.length true resync F F ls.flatten by rw [← eS]; exact begun_after (by omega) fl)
  obtain ⟨T, eT⟩ : ∃ T, ls.flatten = T := ⟨_, rfl⟩
  obtain ⟨Y, eY⟩ : ∃ Y, after (enc perm sub mask) mask.length true resync F F T = Y := ⟨_, rfl⟩
  have TE := Aside0.mk eT
  have YE := Aside0.mk eY
  have TL := Aside0.mk (show T.length ≤ 4096 by rw [← eT]; exact hfl)
  have TB := Aside0.mk (show Bytes T by rw [← eT]; exact flat_bytes hin.bL)
  rw [eT, eY] at AF
  clear hr hRm h60 hfl eF eS eG eT eY fl
  clear hin
  go_enter Try.func5, Try.ntmps5
  go_upto_region 1 with (fail)
  have n1 := Bx.new w (.slice Ap perm.length cp) (.slice As sub.length cs) (.slice Am mask.length cm) 39
  generalize w.alloc (.cells #[.slice Ap perm.length cp, .slice As sub.length cs, .slice Am mask.length cm] 39) = W0 at n1 HI ⊢
  generalize w.heap.size = bx at n1 ⊢
  have k0 := n1.k0
  have k1 := n1.k1
  have k2 := n1.k2
  have HX := Aside0.mk n1
  clear n1
  go_wp2_with (first | (go_at_call 20; (with_reducible refine (laws_zzFits27.calls Ap cp perm As cs sub Am cm mask true _ HI.out.p HI.out.pc HI.out.s HI.out.sc HI.out.m HI.out.mc H27.out).mono ?_); rintro e w1 ⟨rfl, hB⟩; have n1 := HX.out.below hB; clear k0 k1 k2 HX; have k0 := n1.k0; have k1 := n1.k1; have k2 := n1.k2; have HX := Aside0.mk n1; clear n1; have n2 := HI.out.below hB; clear HI; have HI := Aside0.mk n2; clear n2; clear hB) | (go_at_call 21; (with_reducible refine (laws_zzFits2.calls k2f A c ls true _ HI.out.l HI.out.lc H2F.out).mono ?_); rintro e w1 ⟨rfl, hD⟩; have hB := hD.below; have n1 := HX.out.below hB; clear k0 k1 k2 HX; have k0 := n1.k0; have k1 := n1.k1; have k2 := n1.k2; have HX := Aside0.mk n1; clear n1; have n2 := HI.out.below hB; clear HI; have HI := Aside0.mk n2; clear n2; clear hB hD) | (go_at_call 22; (with_reducible refine (laws_feedable.calls kf Ap cp perm As cs sub Am cm mask Ar cr R A c ls true _ HI.out.p HI.out.pc HI.out.s HI.out.sc HI.out.m HI.out.mc HI.out.r HI.out.rc HI.out.l HI.out.lc HFF.out).mono ?_); rintro e w1 ⟨rfl, hB⟩; have n1 := HX.out.below hB; clear k0 k1 k2 HX; have k0 := n1.k0; have k1 := n1.k1; have k2 := n1.k2; have HX := Aside0.mk n1; clear n1; have n2 := HI.out.below hB; clear HI; have HI := Aside0.mk n2; clear n2; clear hB) | (go_at_call 24; (with_reducible refine (data_calls _ _ _ _ _ _ _ _ _).mono ?_); rintro e w1 ⟨rfl, hB⟩; (try (have n1 := Kd.C_below V1.out hB; clear V1; have V1 := Aside0.mk n1; clear n1)); (try (have n1 := Kd.C_below V2.out hB; clear V2; have V2 := Aside0.mk n1; clear n1)); (try (have n1 := Kd.C_below W1.out hB; clear W1; have W1 := Aside0.mk n1; clear n1)); have n1 := HX.out.below hB; clear k0 k1 k2 HX; have k0 := n1.k0; have k1 := n1.k1; have k2 := n1.k2; have HX := Aside0.mk n1; clear n1; have n2 := HI.out.below hB; clear HI; have HI := Aside0.mk n2; clear n2; clear hB) | (go_at_call 23; (with_reducible refine (ocfb_calls (nt := 0) Ap cp perm As cs sub Am cm mask Ar cr R none 0 [] resync _ HI.out.p HI.out.s HI.out.m HM.out.1 h2 HI.out.r HI.out.bR HM.out.2.1 HI.out.rc (Kd.C_nil _ _) nil_bytes (Nat.le_refl _) (Nat.zero_le _) rfl rfl).mono ?_); rintro e w1 ⟨B1, d1, B2, n2, d2, rfl, hb1, hd1, hbx, hd2, hB⟩; rw [ES.out.1] at hb1; have W1 := Aside0.mk hb1; have D1 := Aside0.mk hd1; clear hb1 hbx hd1 hd2; have n1 := HX.out.below hB; clear k0 k1 k2 HX; have k0 := n1.k0; have k1 := n1.k1; have k2 := n1.k2; have HX := Aside0.mk n1; clear n1; have n2 := HI.out.below hB; clear HI; have HI := Aside0.mk n2; clear n2; clear hB))
  have K3 := Aside0.mk (And.intro k0 (And.intro k1 k2))
  go_region_held3 (fun w' => w'.cell? ⟨bx, 0, none⟩ = some (.slice Ap perm.length cp) ∧ w'.cell? ⟨bx, 1, none⟩ = some (.slice As sub.length cs) ∧ w'.cell? ⟨bx, 2, none⟩ = some (.slice Am mask.length cm) ∧ Below w1.heap.size w1 w') ((refine Bx.held K3.out ?_; (first | assumption | (exact below_drew (Below.refl _ _)) | (focus (go_grown; done))))) (first | (refine appendS w1.heap.size rfl (.tmp 44) (.tmp 45) 22 5 rfl Try.underlying22 infoB _ [] F B1 d1 rfl rfl FL.out.symm ?_ ?_ ?_ ?_ ?_; (focus (first | (exact litH rfl (by first | (simp; done) | rfl) (by first | (exact Nat.le_refl _) | (simp; done) | (simp; omega) | (exact below_size (held_below (by assumption))))) | (exact litH2 rfl (by first | (simp; done) | rfl) (by first | (exact Nat.le_refl _) | (simp; done) | (simp; omega) | (exact below_size (held_below (by assumption))))))); (focus (exact Kd.C_below W1.out (held_below (by assumption)))); (focus (exact below_size (held_below (by assumption)))); (focus (rw [FL.out]; simp; omega)); intro v46 w5 hR46 hBa _ _; rw [List.nil_append] at hR46; obtain ⟨A46, c46, e46, _, hr46⟩ := r8_reads hR46; subst e46; rw [FL.out]; have R46 := Aside0.mk hr46; have hB0 : Below w1.heap.size w1 w5 := Below.trans (held_below (by assumption)) hBa; clear hR46 hr46 hBa) | (go_at_call 25; have hi := HI.out.below hB0; (with_reducible refine (idec_calls hi.p hi.s hi.m HM.out.1 h2 R46.out FB.out FL.out FL.out.symm resync hi.l hi.bL (by have := HM.out.2.2.1; omega) (fun l hl => by have := len_flat hl; have := HM.out.2.2.2; omega) rfl).mono ?_); rintro e w6 ⟨v1, v2, rfl, hB, hE⟩; obtain ⟨hR1, hN1⟩ := hE st G ES.out.2.1 ES.out.2.2; obtain ⟨A1, c1, rfl, _, hr1⟩ := r8_reads hR1; obtain ⟨A2, c2, rfl, hc2, hn2⟩ := Kd.N_reads hN1; have V1 := Aside0.mk hr1; have V2 := Aside0.mk hn2; have C2 := Aside0.mk hc2; have hB9 : Below w1.heap.size w1 w6 := below_then hB0 (below_size hB0) hB; clear hE hR1 hN1 hr1 hn2 hc2 hB hi))
  all_goals
    clear hB0
    have hB := hB9
    have n1 := Kd.C_below W1.out hB; clear W1; have W1 := Aside0.mk n1; clear n1
    have n1 := HX.out.below hB; clear k0 k1 k2 HX; have k0 := n1.k0; have k1 := n1.k1; have k2 := n1.k2; have HX := Aside0.mk n1; clear n1; have n2 := HI.out.below hB; clear HI; have HI := Aside0.mk n2; clear n2
    clear hB hB9 K3
    go_wp2_with (first | (go_at_call 24; (with_reducible refine (data_calls _ _ _ _ _ _ _ _ _).mono ?_); rintro e w1 ⟨rfl, hB⟩; (try (have n1 := Kd.C_below V1.out hB; clear V1; have V1 := Aside0.mk n1; clear n1)); (try (have n1 := Kd.C_below V2.out hB; clear V2; have V2 := Aside0.mk n1; clear n1)); (try (have n1 := Kd.C_below W1.out hB; clear W1; have W1 := Aside0.mk n1; clear n1)); have n1 := HX.out.below hB; clear k0 k1 k2 HX; have k0 := n1.k0; have k1 := n1.k1; have k2 := n1.k2; have HX := Aside0.mk n1; clear n1; have n2 := HI.out.below hB; clear HI; have HI := Aside0.mk n2; clear n2; clear hB) | (go_at_call 27; (with_reducible refine (laws_joinedTexts.calls (ls.length + 1) A c ls ls.flatten _ HI.out.l HI.out.lc (joined_f ls HM.out.2.2.1 (fun l hl => by have := len_flat hl; have := HM.out.2.2.2; omega))).mono ?_); rintro e w1 ⟨vJ, rfl, hRJ, hB⟩; rw [TE.out] at hRJ; obtain ⟨AJ, cJ, rfl, hcJ, hrJ⟩ := r8_reads hRJ; have VJ := Aside0.mk (And.intro hrJ hcJ); clear hRJ hrJ hcJ; have n1 := Kd.C_below V1.out hB; clear V1; have V1 := Aside0.mk n1; clear n1; have n1 := Kd.C_below V2.out hB; clear V2; have V2 := Aside0.mk n1; clear n1; have n1 := Kd.C_below W1.out hB; clear W1; have W1 := Aside0.mk n1; clear n1; have n1 := HX.out.below hB; clear k0 k1 k2 HX; have k0 := n1.k0; have k1 := n1.k1; have k2 := n1.k2; have HX := Aside0.mk n1; clear n1; have n2 := HI.out.below hB; clear HI; have HI := Aside0.mk n2; clear n2; clear hB) | (go_at_call 26; (with_reducible refine (ocfbB_calls Ap cp perm As cs sub Am cm mask B1 d1 F AJ cJ T resync _ HI.out.p HI.out.s HI.out.m HM.out.1 h2 W1.out FB.out FL.out (by rw [FL.out]; exact D1.out) VJ.out.1 TB.out VJ.out.2 (by have := TL.out; omega) FL.out.symm rfl).mono ?_); rintro e w1 ⟨X1, x1, X2, n2, x2, rfl, hb1, hd1, e2, hb2, hd2, hB⟩; rw [ES.out.2.1] at hb1; rw [YE.out] at e2 hb2; have Z1 := Aside0.mk hb1; have Z2 := Aside0.mk hb2; have E2 := Aside0.mk e2; clear hb1 hb2 e2 hd1 hd2 VJ; have n1 := Kd.C_below V1.out hB; clear V1; have V1 := Aside0.mk n1; clear n1; have n1 := Kd.C_below V2.out hB; clear V2; have V2 := Aside0.mk n1; clear n1; have n1 := HX.out.below hB; clear k0 k1 k2 HX; have k0 := n1.k0; have k1 := n1.k1; have k2 := n1.k2; have HX := Aside0.mk n1; clear n1; have n2 := HI.out.below hB; clear HI; have HI := Aside0.mk n2; clear n2; clear hB) | (go_at_call 15; (with_reducible refine (same_calls V1.out Z1.out rfl rfl GL.out.symm).mono ?_); rintro e w1 ⟨rfl, hB⟩; have n1 := Kd.C_below V2.out hB; clear V2; have V2 := Aside0.mk n1; clear n1; have n1 := Kd.C_below Z2.out hB; clear Z2; have Z2 := Aside0.mk n1; clear n1; have n1 := HX.out.below hB; clear k0 k1 k2 HX; have k0 := n1.k0; have k1 := n1.k1; have k2 := n1.k2; have HX := Aside0.mk n1; clear n1; have n2 := HI.out.below hB; clear HI; have HI := Aside0.mk n2; clear n2; clear hB) | (go_at_call 28; (with_reducible refine (laws_alike.calls _ A2 c2 _ A c ls true _ V2.out C2.out HI.out.l HI.out.lc (alike_f _ _ (outsN_lengths _ _ _ ls st) (by rw [outsN_length]; have := HM.out.2.2.1; omega))).mono ?_); rintro e w1 ⟨rfl, hD⟩; have hB := hD.below; have n1 := Kd.C_below V2.out hB; clear V2; have V2 := Aside0.mk n1; clear n1; have n1 := Kd.C_below Z2.out hB; clear Z2; have Z2 := Aside0.mk n1; clear n1; have n1 := HX.out.below hB; clear k0 k1 k2 HX; have k0 := n1.k0; have k1 := n1.k1; have k2 := n1.k2; have HX := Aside0.mk n1; clear n1; have n2 := HI.out.below hB; clear HI; have HI := Aside0.mk n2; clear n2; clear hB hD) | (go_at_call 27; (with_reducible refine (laws_joinedTexts.calls _ A2 c2 _ _ _ V2.out C2.out (joined_f _ (by rw [outsN_length]; exact HM.out.2.2.1) (outs_le (fun l hl => by have := len_flat hl; have := HM.out.2.2.2; omega)))).mono ?_); rintro e w1 ⟨vO, rfl, hRO, hB⟩; rw [outsN_flatten, TE.out, AF.out] at hRO; obtain ⟨AO, cO, rfl, hcO, hrO⟩ := r8_reads hRO; have VO := Aside0.mk hrO; clear hRO hrO hcO; have n1 := Kd.C_below Z2.out hB; clear Z2; have Z2 := Aside0.mk n1; clear n1; have n1 := HX.out.below hB; clear k0 k1 k2 HX; have k0 := n1.k0; have k1 := n1.k1; have k2 := n1.k2; have HX := Aside0.mk n1; clear n1; have n2 := HI.out.below hB; clear HI; have HI := Aside0.mk n2; clear n2; clear hB) | (go_at_call 15; (with_reducible refine (same_calls VO.out Z2.out rfl rfl E2.out).mono ?_); rintro e w1 ⟨rfl, hB⟩; have n1 := HX.out.below hB; clear k0 k1 k2 HX; have k0 := n1.k0; have k1 := n1.k1; have k2 := n1.k2; have HX := Aside0.mk n1; clear n1; have n2 := HI.out.below hB; clear HI; have HI := Aside0.mk n2; clear n2; clear hB))
    go_ret
    exact ⟨rfl, HX.out.bl⟩

theorem lawT_law {Ap : Option Addr} {cp : Nat} {perm : List Int} {As : Option Addr} {cs : Nat} {sub : List Int} {Am : Option Addr} {cm : Nat} {mask : List Int} {Ar : Option Addr} {cr : Nat} {R : List Int} {resync : Bool} {A : Option Addr} {c : Nat} {ls : List (List Int)} {w : World} (hin : Inp w Ap cp perm As cs sub Am cm mask Ar cr R A c ls) :
    Calls Try.prog 5 #[(.agg #[.slice Ap perm.length cp, .slice As sub.length cs, .slice Am mask.length cm]), .slice Ar R.length cr, .bool resync, .slice A ls.length c] w fun e w' => e = .returned (.bool true) ∧ Below w.heap.size w w' := by
  by_cases hf : (perm.length : Int) > 2147483647 ∨ (sub.length : Int) > 2147483647 ∨ (mask.length : Int) > 2147483647
  · refine lawT_a hin ?_
    unfold laws_zzFits27.f
    by_cases e1 : (perm.length : Int) > 2147483647
    · rw [if_pos e1]
    by_cases e2 : (sub.length : Int) > 2147483647
    · rw [if_neg e1, if_pos e2]
    rw [if_neg e1, if_neg e2, if_pos (by omega)]
  have h27 : laws_zzFits27.f perm sub mask = some true := by
    unfold laws_zzFits27.f
    rw [if_neg (by omega), if_neg (by omega), if_neg (by omega)]
  by_cases hR : 2147483647 < R.length
  · exact lawT_b hin h27 hR
  obtain ⟨k2, b2, e2, p2⟩ := fits_f ls
  cases b2
  · exact lawT_c hin h27 (by omega) k2 e2
  obtain ⟨kf, bf, ef, pf⟩ := feed_f perm sub mask R ls hin.bP hin.bS hin.bM (by omega) (by omega) (by omega) (p2 rfl)
  cases bf
  · exact lawT_d hin h27 (by omega) k2 e2 kf ef
  obtain ⟨q1, q2, q3, q4, q5⟩ := pf rfl
  exact lawT_m hin h27 (by omega) k2 e2 kf ef q1 q2 q3 q4 q5
/-- The law, as the row asks it. -/
theorem lawT_row (Ap : Option Addr) (cp : Nat) (perm : List Int) (As : Option Addr) (cs : Nat) (sub : List Int) (Am : Option Addr) (cm : Nat) (mask : List Int) (Ar : Option Addr) (cr : Nat) (R : List Int) (resync : Bool) (A : Option Addr) (c : Nat) (ls : List (List Int)) (w : World) (hp1 : C8 w Ap perm) (hp2 : perm.length ≤ cp) (_ : perm.length ≤ maxLen) (hp3 : ∀ y ∈ perm, (Lit.int .u8 y).wf = true) (hs1 : C8 w As sub) (hs2 : sub.length ≤ cs) (_ : sub.length ≤ maxLen) (hs3 : ∀ y ∈ sub, (Lit.int .u8 y).wf = true) (hm1 : C8 w Am mask) (hm2 : mask.length ≤ cm) (_ : mask.length ≤ maxLen) (hm3 : ∀ y ∈ mask, (Lit.int .u8 y).wf = true) (hr1 : C8 w Ar R) (hr2 : R.length ≤ cr) (_ : R.length ≤ maxLen) (hr3 : ∀ y ∈ R, (Lit.int .u8 y).wf = true) (hl1 : Kd.C (Kd.slice 5 (Kd.int .u8)) w A ls.length ls) (hl2 : ls.length ≤ c) (_ : ls.length ≤ maxLen) (hl3 : ∀ l ∈ ls, ∀ y ∈ l, (Lit.int .u8 y).wf = true) :
    Calls Try.prog 5 #[(.agg #[.slice Ap perm.length cp, .slice As sub.length cs, .slice Am mask.length cm]), .slice Ar R.length cr, .bool resync, .slice A ls.length c] w fun e w' => e = .returned (.bool true) ∧ Below w.heap.size w w' :=
  lawT_law ⟨hp1, hs1, hm1, hr1, hl1, hp2, hs2, hm2, hr2, hl2, bytes_of hp3, bytes_of hs3, bytes_of hm3, bytes_of hr3, fun l hl => bytes_of (hl3 l hl)⟩
end Go.Proofs.Ytkehjcppgpoobaa.Ocf

/- A slice of slices of bytes that comes in, as a row of rows. -/
set_option linter.unusedVariables false
set_option linter.unusedSimpArgs false
namespace Go.Proofs.Ytkehjcppgpoobaa.Kit
open Go.RowKit Go.Proofs.YtkehjcppgpoobaaW.PrintWords

theorem rows_read {e base : Nat} {w : World} {a : Addr} {len cap : Nat} {A : Nat → Option Addr} {L C : Nat → Nat} {Z : Nat → List Int} (hl : len ≤ cap) (hm : cap ≤ maxLen)
    (h : ∀ r, r < cap → w.cell? (a.add r) = some (.slice (A r) (L r) (C r)) ∧ L r ≤ C r ∧ C r ≤ maxLen ∧ (Z r).length = C r ∧ (∀ n ∈ Z r, (Lit.int .u8 n).wf = true) ∧ (A r = none → C r = 0) ∧ ∀ a', A r = some a' → base ≤ a'.block ∧ ∀ c, c < C r → w.cell? (a'.add c) = some (.int .u8 ((Z r).getD c 0))) :
    ∃ ls : List (List Int), len = ls.length ∧ Kd.C (Kd.slice e (Kd.int .u8)) w (some a) ls.length ls ∧ ls.length ≤ cap ∧ ls.length ≤ maxLen ∧ ∀ l ∈ ls, ∀ y ∈ l, (Lit.int .u8 y).wf = true := by
  have hlen : ((List.range len).map fun r => (Z r).take (L r)).length = len := by simp
  refine ⟨(List.range len).map fun r => (Z r).take (L r), hlen.symm, ?_, by rw [hlen]; exact hl, by rw [hlen]; exact Nat.le_trans hl hm, ?_⟩
  · refine ⟨rfl, by rw [hlen]; exact Nat.le_trans hl hm, fun _ => ⟨a, rfl, fun j p hj => ?_⟩⟩
    obtain ⟨hj1, hj2⟩ := List.getElem?_eq_some_iff.1 hj
    rw [hlen] at hj1
    have hp : p = (Z j).take (L j) := by rw [← hj2]; simp
    obtain ⟨q1, q2, q3, q4, q5, q6, q7⟩ := h j (by omega)
    have pl : p.length = L j := by rw [hp, List.length_take]; omega
    refine ⟨[.slice (A j) (L j) (C j)], rfl, ⟨A j, C j, by rw [pl], by omega, ?_⟩, fun i u hu => ?_⟩
    · rw [pl]
      refine Kd.C_of_reads (d := (0 : Int)) (h1 := fun _ => rfl) ⟨pl, by unfold maxLen at q3; omega, fun hn => ?_⟩
      cases hA : A j with
      | none => have := q6 hA; omega
      | some a' =>
        refine ⟨a', rfl, fun c hc => ?_⟩
        rw [(q7 a' hA).2 c (by omega), hp]
        congr 2
        rw [List.getD_eq_getElem?_getD, List.getD_eq_getElem?_getD, List.getElem?_take, if_pos hc]
    · match i, hu with
      | 0, hu =>
        injection hu with hu
        subst hu
        have : j * (Kd.slice e (Kd.int IntKind.u8)).sz + 0 = j := by show j * 1 + 0 = j; omega
        rw [this]; exact q1
  · intro l hl' y hy
    obtain ⟨r, hr, rfl⟩ := List.mem_map.1 hl'
    rw [List.mem_range] at hr
    exact (h r (by omega)).2.2.2.2.1 y (List.mem_of_mem_take hy)
end Go.Proofs.Ytkehjcppgpoobaa.Kit

/- The row of laws.FnOcfbText: for every input the law returns true, and each argument reads as it did. -/
namespace Go.Proofs.Ytkehjcppgpoobaa.rowFnOcfbText
open Go.ChangeShapes Go.WideShapes Go.ChangeAt Go.RowKit
open Go.ChangeMaps (open_string shut_string)
open Go.Joins
set_option linter.unusedVariables false
theorem own : ownKnob Try.prog.godebug = none := by kernel_rfl
theorem laidOut : laidOutB Try.prog = true := by kernel_rfl
def IsRow (k : IntKind) (w : World) (a : Option Addr) (len cap : Nat) (zs : List Int) : Prop :=
  (a = none ∧ len = 0 ∧ cap = 0 ∧ zs = []) ∨
  ∃ x, a = some x ∧ len ≤ cap ∧ cap ≤ maxLen ∧ zs.length = cap ∧ (∀ i, i < zs.length → w.cell? (x.add i) = some (.int k (zs.getD i 0))) ∧ ∀ n ∈ zs, (Lit.int k n).wf = true
set_option maxRecDepth 100000 in
theorem lifted (os : Os) (started : os.Started) (H : Type) (enc : TypeId × Value → H) :
    ReturnsInHanded {} Try.checked os 5 .any (Rows.fnOcfbTextSpec.pre6 enc Try.prog Try.f5 Rows.fnOcfbTextRow.domain false) (Rows.fnOcfbTextSpec.post enc Try.prog Try.f5 false true false false) := by
  refine returnsInHanded_of_change_sized (C := Try.checked) own started (by kernel_rfl) Try.func5
    (ChangeSpec.witness6 (enc := enc) (C := Try.checked) false ⟨#[], #[.agg #[.slice none 0 0, .slice none 0 0, .slice none 0 0], .slice none 0 0, .bool false, .slice none 0 0], []⟩ 8 (by kernel_rfl) (by kernel_rfl) (by kernel_rfl) (by kernel_rfl)) ?_
  intro W base args ds gs before hval0 hW hcnd hsz0 _
  have hsz : (DataW.weightsEach Try.prog (Try.f5.params.toList ++ Rows.fnOcfbTextSpec.plain.varTypes Try.prog) (ds ++ gs)).all (· ≤ reachBytes) = true := hsz0
  have hval : ∀ (j : Nat) t v, Try.f5.params[j]? = some t → args[j]? = some v → Value.okWide Try.prog W .any base t v := hval0
  have hW' := hW
  obtain ⟨p, q, hA0, hV, rfl, hfz, hnd⟩ := hW
  have hA : DataW.TrodAll enc Try.prog W 0 (fun _ => true) true Try.f5.params.toList args.toList ds p := hA0
  rw [Try.params5] at hA hval hsz
  obtain ⟨v0, vs0, d0, ds0, p0, q0, hargs, rfl, rfl, h0, r0⟩ := trodAll_cons hA
  obtain ⟨v1, vs1, d1, ds1, p1, q1, rfl, rfl, rfl, h1, r1⟩ := trodAll_cons r0
  obtain ⟨v2, vs2, d2, ds2, p2, q2, rfl, rfl, rfl, h2, r2⟩ := trodAll_cons r1
  obtain ⟨v3, vs3, d3, ds3, p3, q3, rfl, rfl, rfl, h3, r3⟩ := trodAll_cons r2
  obtain ⟨rfl, rfl, rfl⟩ := trodAll_nil r3
  obtain rfl : args = #[v0, v1, v2, v3] := by cases args; simp_all
  obtain ⟨rfl, rfl⟩ := trodVars_none hV
  have k0 := h0
  have lt0 : ∀ x ∈ p0, x.block < W.heap.size := by obtain ⟨m, hm⟩ := k0; exact DataW.trod_lt m _ _ _ hm
  obtain ⟨c0_0, c0_1, c0_2, y0_0, y0_1, y0_2, m0, e0, _, _, g0_0, g0_1, g0_2⟩ := open_agg3 Try.underlying39 (by kernel_rfl) (by kernel_rfl) (hval 0 39 v0 rfl rfl) h0
  subst e0
  obtain ⟨a0_0, len0_0, cap0_0, e0_0, z0_0, w0_0⟩ : ∃ a len cap, c0_0 = .slice a len cap ∧ ∃ zs, IsRow .u8 W a len cap zs := by
    rcases open_ints Try.underlying22 Try.underlying5 (by kernel_rfl) g0_0 with ⟨hcs, _⟩ | ⟨x, l, c, zs, hcs, _, hl, hm, hz, _, hcell, hwz⟩
    · exact ⟨none, 0, 0, by injection hcs, [], .inl ⟨rfl, rfl, rfl, rfl⟩⟩
    · exact ⟨some x, l, c, by injection hcs, zs, .inr ⟨_, rfl, hl, hm, by simpa using hz, hcell, hwz⟩⟩
  subst e0_0
  obtain ⟨l0_0, rfl, hr0_0, hm0_0, hw0_0, hc0_0⟩ := Go.Proofs.YtkehjcppgpoobaaW.PrintWords.ReadsInt.ofRowC w0_0
  obtain ⟨a0_1, len0_1, cap0_1, e0_1, z0_1, w0_1⟩ : ∃ a len cap, c0_1 = .slice a len cap ∧ ∃ zs, IsRow .u8 W a len cap zs := by
    rcases open_ints Try.underlying22 Try.underlying5 (by kernel_rfl) g0_1 with ⟨hcs, _⟩ | ⟨x, l, c, zs, hcs, _, hl, hm, hz, _, hcell, hwz⟩
    · exact ⟨none, 0, 0, by injection hcs, [], .inl ⟨rfl, rfl, rfl, rfl⟩⟩
    · exact ⟨some x, l, c, by injection hcs, zs, .inr ⟨_, rfl, hl, hm, by simpa using hz, hcell, hwz⟩⟩
  subst e0_1
  obtain ⟨l0_1, rfl, hr0_1, hm0_1, hw0_1, hc0_1⟩ := Go.Proofs.YtkehjcppgpoobaaW.PrintWords.ReadsInt.ofRowC w0_1
  obtain ⟨a0_2, len0_2, cap0_2, e0_2, z0_2, w0_2⟩ : ∃ a len cap, c0_2 = .slice a len cap ∧ ∃ zs, IsRow .u8 W a len cap zs := by
    rcases open_ints Try.underlying22 Try.underlying5 (by kernel_rfl) g0_2 with ⟨hcs, _⟩ | ⟨x, l, c, zs, hcs, _, hl, hm, hz, _, hcell, hwz⟩
    · exact ⟨none, 0, 0, by injection hcs, [], .inl ⟨rfl, rfl, rfl, rfl⟩⟩
    · exact ⟨some x, l, c, by injection hcs, zs, .inr ⟨_, rfl, hl, hm, by simpa using hz, hcell, hwz⟩⟩
  subst e0_2
  obtain ⟨l0_2, rfl, hr0_2, hm0_2, hw0_2, hc0_2⟩ := Go.Proofs.YtkehjcppgpoobaaW.PrintWords.ReadsInt.ofRowC w0_2
  obtain ⟨a1, len1, cap1, rfl⟩ := okWide_slice Try.underlying22 (hval 1 22 v1 rfl rfl)
  have k1 := h1
  have lt1 : ∀ x ∈ p1, x.block < W.heap.size := by obtain ⟨m, hm⟩ := k1; exact DataW.trod_lt m _ _ _ hm
  obtain ⟨z1, w1⟩ : ∃ zs, IsRow .u8 W a1 len1 cap1 zs := by
    obtain ⟨fuel, hf⟩ := h1
    rcases open_ints Try.underlying22 Try.underlying5 (by kernel_rfl) hf with ⟨hcs, _⟩ | ⟨x, l, c, zs, hcs, _, hl, hm, hz, _, hcell, hwz⟩
    · simp [Value.cells] at hcs
      obtain ⟨rfl, rfl, rfl⟩ := hcs
      exact ⟨[], .inl ⟨rfl, rfl, rfl, rfl⟩⟩
    · simp [Value.cells] at hcs
      obtain ⟨rfl, rfl, rfl⟩ := hcs
      exact ⟨zs, .inr ⟨_, rfl, hl, hm, by simpa using hz, hcell, hwz⟩⟩
  have y1 : len1 * 1 ≤ 140737488351232 := Go.Proofs.YtkehjcppgpoobaaW.PrintWords.sized_ints hsz (j := 1) (t := 22) rfl rfl Try.underlying22 Try.underlying5 (by kernel_rfl) (by kernel_rfl) h1
  obtain ⟨l1, rfl, hr1, hm1, hw1, hc1⟩ := Go.Proofs.YtkehjcppgpoobaaW.PrintWords.ReadsInt.ofRowC w1
  obtain ⟨a2, rfl, rfl, rfl⟩ := open_bool Try.underlying4 (hval 2 4 v2 rfl rfl) h2
  obtain ⟨a3, len3, cap3, rfl⟩ := okWide_slice Try.underlying40 (hval 3 40 v3 rfl rfl)
  have k3 := h3
  have lt3 : ∀ x ∈ p3, x.block < W.heap.size := by obtain ⟨m, hm⟩ := k3; exact DataW.trod_lt m _ _ _ hm
  obtain ⟨l3, e3, hr3, hc3, hm3, hw3⟩ : ∃ ls : List (List Int), len3 = ls.length ∧ Go.Proofs.YtkehjcppgpoobaaW.PrintWords.Kd.C (Go.Proofs.YtkehjcppgpoobaaW.PrintWords.Kd.slice 5 (Go.Proofs.YtkehjcppgpoobaaW.PrintWords.Kd.int .u8)) W a3 ls.length ls ∧ ls.length ≤ cap3 ∧ ls.length ≤ maxLen ∧ ∀ l ∈ ls, ∀ y ∈ l, (Lit.int .u8 y).wf = true := by
    obtain ⟨fuel, hf⟩ := h3
    rcases Go.Deep.open_int_rows Try.underlying40 Try.underlying22 Try.underlying5 (by kernel_rfl) (by kernel_rfl) hf with ⟨hcs, _⟩ | ⟨x, l, c, A', L', C', Z', hcs, _, hl, hm, _, hcell⟩
    · simp [Value.cells] at hcs
      obtain ⟨rfl, rfl, rfl⟩ := hcs
      exact ⟨[], rfl, Go.Proofs.YtkehjcppgpoobaaW.PrintWords.Kd.C_nil _ _, Nat.le_refl _, Nat.zero_le _, fun l hl => absurd hl List.not_mem_nil⟩
    · simp [Value.cells] at hcs
      obtain ⟨rfl, rfl, rfl⟩ := hcs
      exact Go.Proofs.Ytkehjcppgpoobaa.Kit.rows_read hl hm hcell
  subst e3
  clear hA0 hval0 hsz0 hsz
  refine (Go.Proofs.Ytkehjcppgpoobaa.Ocf.lawT_row a0_0 cap0_0 l0_0 a0_1 cap0_1 l0_1 a0_2 cap0_2 l0_2 a1 cap1 l1 a2 a3 cap3 l3 W (Go.Proofs.YtkehjcppgpoobaaW.PrintWords.Kd.C_of_reads (d := (0 : Int)) (h1 := fun _ => rfl) hr0_0) hc0_0 hm0_0 hw0_0 (Go.Proofs.YtkehjcppgpoobaaW.PrintWords.Kd.C_of_reads (d := (0 : Int)) (h1 := fun _ => rfl) hr0_1) hc0_1 hm0_1 hw0_1 (Go.Proofs.YtkehjcppgpoobaaW.PrintWords.Kd.C_of_reads (d := (0 : Int)) (h1 := fun _ => rfl) hr0_2) hc0_2 hm0_2 hw0_2 (Go.Proofs.YtkehjcppgpoobaaW.PrintWords.Kd.C_of_reads (d := (0 : Int)) (h1 := fun _ => rfl) hr1) hc1 hm1 hw1 hr3 hc3 hm3 hw3).mono fun e W' ⟨he, bel⟩ => ?_
  subst he
  exact ⟨_, rfl, _, _, _, [], _, [], hW', trodAll_mk1 (shut_bool Try.underlying4 _), (trodAll_cons_mk (Below.trod laidOut (by kernel_rfl) (of_decide_eq_true (by kernel_rfl)) k0 bel lt0) (trodAll_cons_mk (Below.trod laidOut (by kernel_rfl) (of_decide_eq_true (by kernel_rfl)) k1 bel lt1) (trodAll_cons_mk (shut_bool Try.underlying4 _) (trodAll_cons_mk (Below.trod laidOut (by kernel_rfl) (of_decide_eq_true (by kernel_rfl)) k3 bel lt3) trodAll_mk0)))), rfl, bel.frame _, fun h => by cases h⟩
theorem over : Rows.fnOcfbTextRow.holds Try.pinned (OpenSpec.ofChange Rows.fnOcfbTextSpec) :=
  OpenClaim.holds_of_wide 5 Try.f5 rfl rfl rfl rfl rfl rfl rfl ⟨rfl, rfl, rfl, rfl, rfl⟩ rfl rfl rfl rfl rfl (by kernel_rfl) Try.func5 (by kernel_rfl)
    (of_decide_eq_true (by kernel_rfl)) (by unfold Func.isWrapper; first | (rw [if_pos (by decide +kernel)]; kernel_rfl) | (rw [if_neg (by decide +kernel)]; exact ⟨rfl, rfl⟩))
    (fun os started H enc _ => lifted os started H enc)
end Go.Proofs.Ytkehjcppgpoobaa.rowFnOcfbText
namespace Go.Proofs.Ytkehjcppgpoobaa
/-- The row, under a short name, for the claim. -/
theorem fnOcfbText_holds : Rows.FnOcfbTextSaid := rowFnOcfbText.over
end Go.Proofs.Ytkehjcppgpoobaa
