/- Lemmas on the seat's program, in order (9 texts in one). -/
import Derived.Test.YtjdnnpfhlkgooaaDoorMOne2
import Derived.Test.YtjdnnpfhlkgooaaDoorPkt
import Derived.Test.YtjdnnpfhlkgooaaDoorOwx
import Derived.Test.YtjdnnpfhlkgooaaDoorPFnWriteOnePassx4
import Derived.Test.YtjdnnpfhlkgooaaDoorMOne3
import Derived.Test.YtjdnnpfhlkgooaaDoorMOne1
import Derived.Lib.SmallJoins
import Derived.Test.YtjdnnpfhlkgooaaDoorRows
import Derived.Test.YtjdnnpfhlkgooaaDoorSrc
import Derived.Stop.LaidErr
import Derived.Stop.Joined
import Derived.LaidHandle
import Derived.OpenShut
/- FnWriteOnePass: the pure side. -/
set_option linter.unusedVariables false
set_option linter.unusedSimpArgs false
namespace Go.Proofs.YtjdnnpfhlkgooaaDoor.Rd
open Go.RowKit Go.Proofs.YtjdnnpfhlkgooaaDoorW.PrintWords Go.Proofs.YtjdnnpfhlkgooaaDoorW.PrintMore Go.Proofs.YtjdnnpfhlkgooaaDoor.Kit Go.Proofs.YtjdnnpfhlkgooaaDoor.Hash
open Go.Proofs.YtjdnnpfhlkgooaaDoor Go.Proofs.YtjdnnpfhlkgooaaDoor.PFnWriteOnePass

theorem shr_is (k : Int) (i : Nat) (hi : i ≤ 7) : shr .u64 k (wrap64 (8 * (i : Int))) = k / 2 ^ (8 * i) := by
  have w : wrap64 (8 * (i : Int)) = 8 * (i : Int) := wrap64_id (by omega) (by omega)
  rw [w]
  have q := shr_small (k := .u64) (x := k) (y := 8 * (i : Int)) rfl (by show (8 * (i : Int)) ≤ ((64 : Nat) : Int); omega)
  rw [← q]
  congr 2
theorem ob_step {k : Nat} {x3 : List Int} {i : Nat} (hi : i ≤ 7) (hl : x3.length ≤ 1000) (a b c d key : Int) (S P : List Int) (last : Bool) :
    spec_OnePassBody.l0 (k + 1) x3 (i : Int) a b c d key S P last = spec_OnePassBody.l0 k (x3 ++ [key / 2 ^ (8 * i) % 256]) ((i : Int) - 1) a b c d key S P last := by
  have w : wrap64 (8 * (i : Int)) = 8 * (i : Int) := wrap64_id (by omega) (by omega)
  have w2 : wrap64 ((i : Int) - 1) = (i : Int) - 1 := wrap64_id (by omega) (by omega)
  rw [spec_OnePassBody.l0, if_pos (by omega), if_pos (by rw [w]; omega), if_pos (by omega), shr_is key i hi, w2]
theorem ob3 {kind id algo key : Int} (k0 : 0 ≤ kind ∧ kind ≤ 255) (i0 : 0 ≤ id ∧ id ≤ 255) (a0 : 0 ≤ algo ∧ algo ≤ 255) (last : Bool) (S P : List Int) : spec_OnePassBody.f 9 3 kind id algo key S P last = some (op3 kind id algo key last) := by
  have e : [(3 : Int) % 256, kind % 256, id % 256, algo % 256] = [3, kind, id, algo] := by
    rw [show kind % 256 = kind by omega, show id % 256 = id by omega, show algo % 256 = algo by omega]
    rfl
  rw [spec_OnePassBody.f, Option.bind_some, if_pos rfl, e]
  have s7 := ob_step (k := 8) (x3 := [3, kind, id, algo]) (i := 7) (by decide) (by simp) 3 kind id algo key S P last
  have s6 := fun x (h : x.length ≤ 1000) => ob_step (k := 7) (x3 := x) (i := 6) (by decide) h 3 kind id algo key S P last
  have s5 := fun x (h : x.length ≤ 1000) => ob_step (k := 6) (x3 := x) (i := 5) (by decide) h 3 kind id algo key S P last
  have s4 := fun x (h : x.length ≤ 1000) => ob_step (k := 5) (x3 := x) (i := 4) (by decide) h 3 kind id algo key S P last
  have s3 := fun x (h : x.length ≤ 1000) => ob_step (k := 4) (x3 := x) (i := 3) (by decide) h 3 kind id algo key S P last
  have s2 := fun x (h : x.length ≤ 1000) => ob_step (k := 3) (x3 := x) (i := 2) (by decide) h 3 kind id algo key S P last
  have s1 := fun x (h : x.length ≤ 1000) => ob_step (k := 2) (x3 := x) (i := 1) (by decide) h 3 kind id algo key S P last
  have s0 := fun x (h : x.length ≤ 1000) => ob_step (k := 1) (x3 := x) (i := 0) (by decide) h 3 kind id algo key S P last
  refine s7.trans ((s6 _ (by simp)).trans ((s5 _ (by simp)).trans ((s4 _ (by simp)).trans ((s3 _ (by simp)).trans ((s2 _ (by simp)).trans ((s1 _ (by simp)).trans ((s0 _ (by simp)).trans ?_)))))))
  rw [spec_OnePassBody.l0, if_neg (by omega)]
  cases last
  · rw [if_neg (by simp), if_pos (by simp)]
    simp [op3, be8]
  · rw [if_pos rfl, if_pos (by simp)]
    simp [op3, be8]
theorem ob6 {kind id algo key : Int} (k0 : 0 ≤ kind ∧ kind ≤ 255) (i0 : 0 ≤ id ∧ id ≤ 255) (a0 : 0 ≤ algo ∧ algo ≤ 255) (last : Bool) (S P : List Int) (hS : S.length ≤ 255) (hP : P.length ≤ 1000) : spec_OnePassBody.f 9 6 kind id algo key S P last = some (op6 kind id algo last S P) := by
  have e : [(6 : Int) % 256, kind % 256, id % 256, algo % 256] = [6, kind, id, algo] := by
    rw [show kind % 256 = kind by omega, show id % 256 = id by omega, show algo % 256 = algo by omega]
    rfl
  have e2 : ((S.length : Int)) % 256 = (S.length : Int) := by omega
  rw [spec_OnePassBody.f, Option.bind_some, if_neg (by decide), e, if_pos (by simp), Option.bind_some, e2, if_pos (by simp; omega), Option.bind_some, if_pos (by simp; omega), Option.bind_some]
  cases last
  · rw [if_neg (by simp), if_pos (by simp; omega)]
    simp [op6]
  · rw [if_pos rfl, if_pos (by simp; omega)]
    simp [op6]
/-- The salt's size. -/
def saltN (id : Int) : Int := if id = 8 ∨ id = 11 ∨ id = 12 then 16 else if id = 9 then 24 else if id = 10 ∨ id = 14 then 32 else 0
theorem salt_f (id : Int) : spec_SaltSize.f 1 id = some (saltN id) := by
  unfold spec_SaltSize.f spec_SaltSize.j0 saltN
  by_cases h8 : id = 8
  · subst h8; rfl
  by_cases h11 : id = 11
  · subst h11; rfl
  by_cases h12 : id = 12
  · subst h12; rfl
  by_cases h9 : id = 9
  · subst h9; rfl
  by_cases h10 : id = 10
  · subst h10; rfl
  by_cases h14 : id = 14
  · subst h14; rfl
  simp [h8, h11, h12, h9, h10, h14]
theorem be8_byte (k : Int) : ∀ x ∈ be8 k, 0 ≤ x ∧ x ≤ 255 := by
  intro x hx
  simp only [be8, List.mem_cons, List.not_mem_nil, or_false] at hx
  rcases hx with rfl | rfl | rfl | rfl | rfl | rfl | rfl | rfl <;> omega
theorem op3_byte {kind id algo key : Int} (k0 : 0 ≤ kind ∧ kind ≤ 255) (i0 : 0 ≤ id ∧ id ≤ 255) (a0 : 0 ≤ algo ∧ algo ≤ 255) (last : Bool) : ∀ x ∈ op3 kind id algo key last, 0 ≤ x ∧ x ≤ 255 := by
  intro x hx
  unfold op3 at hx
  rcases List.mem_append.1 hx with q | q
  · simp only [List.mem_cons, List.not_mem_nil, or_false] at q
    rcases q with rfl | rfl | rfl | rfl <;> omega
  · rcases List.mem_append.1 q with q | q
    · exact be8_byte key x q
    · rw [List.mem_singleton.1 q]; split <;> omega
theorem op6_byte {kind id algo : Int} (k0 : 0 ≤ kind ∧ kind ≤ 255) (i0 : 0 ≤ id ∧ id ≤ 255) (a0 : 0 ≤ algo ∧ algo ≤ 255) (last : Bool) {S P : List Int} (hS : ∀ x ∈ S, 0 ≤ x ∧ x ≤ 255) (hP : ∀ x ∈ P, 0 ≤ x ∧ x ≤ 255) (lS : S.length ≤ 255) : ∀ x ∈ op6 kind id algo last S P, 0 ≤ x ∧ x ≤ 255 := by
  intro x hx
  unfold op6 at hx
  rcases List.mem_append.1 hx with q | q
  · simp only [List.mem_cons, List.not_mem_nil, or_false] at q
    rcases q with rfl | rfl | rfl | rfl <;> omega
  · rcases List.mem_cons.1 q with q | q
    · rw [q]; omega
    · rcases List.mem_append.1 q with q | q
      · exact hS x q
      · rcases List.mem_append.1 q with q | q
        · exact hP x q
        · rw [List.mem_singleton.1 q]; split <;> omega
theorem op3_len (kind id algo key : Int) (last : Bool) : (op3 kind id algo key last).length = 13 := by simp [op3, be8]
theorem op6_len (kind id algo : Int) (last : Bool) (S P : List Int) : (op6 kind id algo last S P).length = 6 + S.length + P.length := by simp [op6]; omega
end Go.Proofs.YtjdnnpfhlkgooaaDoor.Rd

/- The law FnWriteOnePass. -/
set_option linter.unusedVariables false
set_option linter.unusedSimpArgs false
namespace Go.Proofs.YtjdnnpfhlkgooaaDoor.Rd
open Go.RowKit Go.Proofs.YtjdnnpfhlkgooaaDoorW.PrintWords Go.Proofs.YtjdnnpfhlkgooaaDoorW.PrintMore Go.Proofs.YtjdnnpfhlkgooaaDoor.Kit Go.Proofs.YtjdnnpfhlkgooaaDoor.Hash
open Go.Proofs.YtjdnnpfhlkgooaaDoor Go.Proofs.YtjdnnpfhlkgooaaDoor.PFnWriteOnePass

theorem Env.upc {w : World} {d d' : Nat} {aE aU : Addr} (h : Env w d aE aU) (hd : d ≤ d') : Env w d' aE aU :=
  { h with
    de := Nat.lt_of_lt_of_le h.de hd
    du := Nat.lt_of_lt_of_le h.du hd
    ge := Nat.lt_of_lt_of_le h.ge hd
    gu := Nat.lt_of_lt_of_le h.gu hd }
theorem env_c {w W : World} {aE aU : Addr} (h : Env w w.heap.size aE aU) (hB : Below w.heap.size w W) : Env W W.heap.size aE aU := (h.kept (Tch.of_below (S := fun _ => False) hB) (fun _ f => f.elim)).upc hB.size
theorem iof_tot (h : Int) : (∃ id, iOf h false = (id, true) ∧ iOf h true = (id, true) ∧ 4 ≤ h ∧ h ≤ 100 ∧ 0 ≤ id ∧ id ≤ 255) ∨ (h = 3 ∧ iOf h false = (0, false)) ∨ (h ≠ 3 ∧ iOf h false = (0, false) ∧ iOf h true = (0, false)) := by
  by_cases c3 : h = 3
  · subst c3; exact .inr (.inl ⟨rfl, rfl⟩)
  by_cases c5 : h = 5
  · subst c5; exact .inl ⟨8, rfl, rfl, by decide⟩
  by_cases c6 : h = 6
  · subst c6; exact .inl ⟨9, rfl, rfl, by decide⟩
  by_cases c7 : h = 7
  · subst c7; exact .inl ⟨10, rfl, rfl, by decide⟩
  by_cases c4 : h = 4
  · subst c4; exact .inl ⟨11, rfl, rfl, by decide⟩
  by_cases c11 : h = 11
  · subst c11; exact .inl ⟨12, rfl, rfl, by decide⟩
  by_cases c13 : h = 13
  · subst c13; exact .inl ⟨14, rfl, rfl, by decide⟩
  exact .inr (.inr ⟨c3, by simp [iOf, c3, c5, c6, c7, c4, c11, c13], by simp [iOf, c3, c5, c6, c7, c4, c11, c13]⟩)
set_option maxHeartbeats 1600000 in
set_option maxRecDepth 100000 in
theorem wl_big {w : World} {ver kind hash algo key : Int} {last : Bool} {As Ap : Option Addr} {cs cp ns np : Nat} {S P : List Int} {six : Bool} (hS : C8 w As S) (cS : S.length ≤ cs) (eS : ns = S.length) (hP : C8 w Ap P) (cP : P.length ≤ cp) (eP : np = P.length) (hf : laws_zzFits7.f ver kind hash algo key last S P = some false) : Calls Tryd.prog 4 #[.agg #[.int .i64 ver, .int .u8 kind, .int .i64 hash, .int .u8 algo, .int .u64 key, .bool last, .slice As ns cs, .slice Ap np cp], .bool six] w fun e w' => e = .returned (.bool true) ∧ Below w.heap.size w w' := by
  obtain ⟨W1, e1, r1, b1⟩ : ∃ W, w.alloc (.cells #[.int .i64 ver, .int .u8 kind, .int .i64 hash, .int .u8 algo, .int .u64 key, .bool last, .slice As ns cs, .slice Ap np cp] 37) = W ∧ W.heap[w.heap.size]? = some (.cells #[.int .i64 ver, .int .u8 kind, .int .i64 hash, .int .u8 algo, .int .u64 key, .bool last, .slice As ns cs, .slice Ap np cp] 37 (0, 0)) ∧ Below w.heap.size w W := ⟨_, rfl, heap_alloc_new _ _, below_alloc (Below.refl _ _) _⟩
  have ZC := laws_zzFits7.calls ver kind hash algo key last As cs S Ap cp P false W1 (Kd.C_below hS b1) cS (Kd.C_below hP b1) cP hf
  rw [← eS, ← eP] at ZC
  have ZC := Aside0.mk ZC
  have c1 : ∀ i u, #[.int .i64 ver, .int .u8 kind, .int .i64 hash, .int .u8 algo, .int .u64 key, .bool last, .slice As ns cs, .slice Ap np cp][i]? = some u → W1.cell? ⟨w.heap.size, i, none⟩ = some u := fun i u hu => by
    have q := cell_of_row _ _ i _ _ _ r1
    rw [hu] at q
    exact q
  have y0 := c1 0 _ rfl
  have y1 := c1 1 _ rfl
  have y2 := c1 2 _ rfl
  have y3 := c1 3 _ rfl
  have y4 := c1 4 _ rfl
  have y5 := c1 5 _ rfl
  have y6 := c1 6 _ rfl
  have y7 := c1 7 _ rfl
  have R1 := Aside0.mk r1
  have B1 := Aside0.mk b1
  clear hS cS eS hP cP eP hf r1 b1 c1
  go_enter Tryd.func4, Tryd.ntmps4
  go_wp2_with fail
  refine ZC.out.mono ?_
  rintro en w2 ⟨rfl, hB⟩
  have B2 := Aside0.mk (below_then B1.out B1.out.size hB)
  clear hB e1
  go_wp2_with fail
  go_ret
  exact ⟨rfl, B2.out⟩
set_option maxHeartbeats 1600000 in
set_option maxRecDepth 100000 in
theorem wl_len {w : World} {ver kind hash algo key : Int} {last : Bool} {As Ap : Option Addr} {cs cp ns np : Nat} {S P : List Int} {six : Bool} (hS : C8 w As S) (cS : S.length ≤ cs) (eS : ns = S.length) (hP : C8 w Ap P) (cP : P.length ≤ cp) (eP : np = P.length) (hf : laws_zzFits7.f ver kind hash algo key last S P = some true) (hl : ¬ (np : Int) = 32 ∨ (np : Int) = 32 ∧ (255 : Int) < (ns : Int)) : Calls Tryd.prog 4 #[.agg #[.int .i64 ver, .int .u8 kind, .int .i64 hash, .int .u8 algo, .int .u64 key, .bool last, .slice As ns cs, .slice Ap np cp], .bool six] w fun e w' => e = .returned (.bool true) ∧ Below w.heap.size w w' := by
  obtain ⟨W1, e1, r1, b1⟩ : ∃ W, w.alloc (.cells #[.int .i64 ver, .int .u8 kind, .int .i64 hash, .int .u8 algo, .int .u64 key, .bool last, .slice As ns cs, .slice Ap np cp] 37) = W ∧ W.heap[w.heap.size]? = some (.cells #[.int .i64 ver, .int .u8 kind, .int .i64 hash, .int .u8 algo, .int .u64 key, .bool last, .slice As ns cs, .slice Ap np cp] 37 (0, 0)) ∧ Below w.heap.size w W := ⟨_, rfl, heap_alloc_new _ _, below_alloc (Below.refl _ _) _⟩
  have ZC := laws_zzFits7.calls ver kind hash algo key last As cs S Ap cp P true W1 (Kd.C_below hS b1) cS (Kd.C_below hP b1) cP hf
  rw [← eS, ← eP] at ZC
  have ZC := Aside0.mk ZC
  have c1 : ∀ i u, #[.int .i64 ver, .int .u8 kind, .int .i64 hash, .int .u8 algo, .int .u64 key, .bool last, .slice As ns cs, .slice Ap np cp][i]? = some u → W1.cell? ⟨w.heap.size, i, none⟩ = some u := fun i u hu => by
    have q := cell_of_row _ _ i _ _ _ r1
    rw [hu] at q
    exact q
  have y0 := c1 0 _ rfl
  have y1 := c1 1 _ rfl
  have y2 := c1 2 _ rfl
  have y3 := c1 3 _ rfl
  have y4 := c1 4 _ rfl
  have y5 := c1 5 _ rfl
  have y6 := c1 6 _ rfl
  have y7 := c1 7 _ rfl
  have R1 := Aside0.mk r1
  have B1 := Aside0.mk b1
  clear hS cS eS hP cP eP hf r1 b1 c1
  go_enter Tryd.func4, Tryd.ntmps4
  go_wp2_with fail
  refine ZC.out.mono ?_
  rintro en w2 ⟨rfl, hB⟩
  have B2 := Aside0.mk (below_then B1.out B1.out.size hB)
  have r2 := (hB.block _ (blk_lt R1.out)).trans R1.out
  have y6 := (cell_of_row _ _ 6 _ _ _ r2).trans rfl
  have y7 := (cell_of_row _ _ 7 _ _ _ r2).trans rfl
  clear hB e1 r2
  rcases hl with h | ⟨h, h2⟩
  · go_wp2_with fail
    go_ret
    exact ⟨rfl, B2.out⟩
  · go_wp2_with fail
    go_ret
    exact ⟨rfl, B2.out⟩
end Go.Proofs.YtjdnnpfhlkgooaaDoor.Rd

/- The law FnWriteOnePass: WlA. -/
set_option linter.unusedVariables false
set_option linter.unusedSimpArgs false
namespace Go.Proofs.YtjdnnpfhlkgooaaDoor.Rd
open Go.RowKit Go.Proofs.YtjdnnpfhlkgooaaDoorW.PrintWords Go.Proofs.YtjdnnpfhlkgooaaDoorW.PrintMore Go.Proofs.YtjdnnpfhlkgooaaDoor.Kit Go.Proofs.YtjdnnpfhlkgooaaDoor.Hash
open Go.Proofs.YtjdnnpfhlkgooaaDoor Go.Proofs.YtjdnnpfhlkgooaaDoor.PFnWriteOnePass

set_option maxHeartbeats 3200000 in
set_option maxRecDepth 100000 in
theorem wl_three_is {w : World} {ver kind hash algo key : Int} {last : Bool} {As Ap : Option Addr} {cs cp ns np : Nat} {S P : List Int} {id : Int} (hS : C8 w As S) (cS : S.length ≤ cs) (eS : ns = S.length) (hP : C8 w Ap P) (cP : P.length ≤ cp) (eP : np = P.length) (hf : laws_zzFits7.f ver kind hash algo key last S P = some true) (l32 : np = 32) (l255 : ns ≤ 255) (k0 : 0 ≤ kind ∧ kind ≤ 255) (a0 : 0 ≤ algo ∧ algo ≤ 255) (wS : ∀ x ∈ S, 0 ≤ x ∧ x ≤ 255) (wP : ∀ x ∈ P, 0 ≤ x ∧ x ≤ 255) (hi : iOf hash false = (id, true)) (hi2 : iOf hash true = (id, true)) (h4 : 4 ≤ hash) (h100 : hash ≤ 100) (i0 : 0 ≤ id ∧ id ≤ 255) : Calls Tryd.prog 4 #[.agg #[.int .i64 ver, .int .u8 kind, .int .i64 hash, .int .u8 algo, .int .u64 key, .bool last, .slice As ns cs, .slice Ap np cp], .bool false] w fun e w' => e = .returned (.bool true) ∧ Below w.heap.size w w' := by
  obtain ⟨W1, e1, r1, b1⟩ : ∃ W, w.alloc (.cells #[.int .i64 ver, .int .u8 kind, .int .i64 hash, .int .u8 algo, .int .u64 key, .bool last, .slice As ns cs, .slice Ap np cp] 37) = W ∧ W.heap[w.heap.size]? = some (.cells #[.int .i64 ver, .int .u8 kind, .int .i64 hash, .int .u8 algo, .int .u64 key, .bool last, .slice As ns cs, .slice Ap np cp] 37 (0, 0)) ∧ Below w.heap.size w W := ⟨_, rfl, heap_alloc_new _ _, below_alloc (Below.refl _ _) _⟩
  have ZC := laws_zzFits7.calls ver kind hash algo key last As cs S Ap cp P true W1 (Kd.C_below hS b1) cS (Kd.C_below hP b1) cP hf
  rw [← eS, ← eP] at ZC
  have ZC := Aside0.mk ZC
  have c1 : ∀ i u, #[.int .i64 ver, .int .u8 kind, .int .i64 hash, .int .u8 algo, .int .u64 key, .bool last, .slice As ns cs, .slice Ap np cp][i]? = some u → W1.cell? ⟨w.heap.size, i, none⟩ = some u := fun i u hu => by
    have q := cell_of_row _ _ i _ _ _ r1
    rw [hu] at q
    exact q
  have y0 := c1 0 _ rfl
  have y1 := c1 1 _ rfl
  have y2 := c1 2 _ rfl
  have y3 := c1 3 _ rfl
  have y4 := c1 4 _ rfl
  have y5 := c1 5 _ rfl
  have y6 := c1 6 _ rfl
  have y7 := c1 7 _ rfl
  have R1 := Aside0.mk r1
  have B1 := Aside0.mk b1
  have SP := Aside0.mk (And.intro hS (And.intro cS (And.intro eS (And.intro hP (And.intro cP eP)))))
  have RG := Aside0.mk (And.intro k0 (And.intro a0 (And.intro wS (And.intro wP (And.intro l32 l255)))))
  have HI := Aside0.mk hi
  clear hS cS eS hP cP eP hf r1 b1 c1 k0 a0 wS wP hi
  have HI2 := Aside0.mk hi2
  have HH := Aside0.mk (And.intro h4 (And.intro h100 i0))
  have n3 : ¬ hash = 3 := by omega
  clear hi2 h4 h100 i0
  have q32 : (np : Int) = 32 := by omega
  have q255 : ¬ (255 : Int) < (ns : Int) := by omega
  clear l32 l255
  go_enter Tryd.func4, Tryd.ntmps4
  go_wp2_with fail
  refine ZC.out.mono ?_
  rintro en w2 ⟨rfl, hB⟩
  have B2 := Aside0.mk (below_then B1.out B1.out.size hB)
  have r2 := (hB.block _ (blk_lt R1.out)).trans R1.out
  obtain ⟨p, ep⟩ : ∃ p, w.heap.size = p := ⟨_, rfl⟩
  have EP := Aside0.mk ep
  rw [ep] at r2 B2 ⊢
  have R2 := Aside0.mk r2
  have y0 := (cell_of_row _ _ 0 _ _ _ r2).trans rfl
  have y2 := (cell_of_row _ _ 2 _ _ _ r2).trans rfl
  have y6 := (cell_of_row _ _ 6 _ _ _ r2).trans rfl
  have y7 := (cell_of_row _ _ 7 _ _ _ r2).trans rfl
  have f0 := frozen_of_row _ _ 0 _ _ r2
  clear hB e1 r2 y1 y3 y4 y5 ep ZC
  go_wp2_with fail
  obtain ⟨W3, e3⟩ : ∃ W3, w2.setCell ⟨p, 0, none⟩ (.int .i64 3) = W3 := ⟨_, rfl⟩
  have r3 : W3.heap[p]? = some (.cells #[.int .i64 3, .int .u8 kind, .int .i64 hash, .int .u8 algo, .int .u64 key, .bool last, .slice As ns cs, .slice Ap np cp] 37 (0, 0)) := e3 ▸ blk_put R2.out 0 _ rfl
  have B3 := Aside0.mk (show Below p w W3 from e3 ▸ ((Tch.refl (fun j => j = p) w2).setCell (p := ⟨p, 0, none⟩) (fun _ => rfl) _).below B2.out (Nat.le_of_lt (blk_lt R2.out)) (fun j q => by omega))
  have PZ := Aside0.mk (show p < W3.heap.size from blk_lt r3)
  rw [e3]
  have R3 := Aside0.mk r3
  clear y0 y2 y6 y7 f0 e3 r3
  refine (siof hash false W3).mono ?_
  rw [HI.out]
  rintro en w4 ⟨rfl, hB⟩
  have B4 := Aside0.mk (below_then B3.out (Nat.le_of_lt PZ.out) hB)
  have r4 := (hB.block _ PZ.out).trans R3.out
  have R4 := Aside0.mk r4
  have P4 := Aside0.mk (show p < w4.heap.size from blk_lt r4)
  have y0 := (cell_of_row _ _ 0 _ _ _ r4).trans rfl
  have y2 := (cell_of_row _ _ 2 _ _ _ r4).trans rfl
  have y6 := (cell_of_row _ _ 6 _ _ _ r4).trans rfl
  have f0 := frozen_of_row _ _ 0 _ _ r4
  clear hB r4
  have r6 := R4.out
  have B6B := B4
  clear f0 y0 y2 y6
  have y0 := (cell_of_row _ _ 0 _ _ _ r6).trans rfl
  have y1 := (cell_of_row _ _ 1 _ _ _ r6).trans rfl
  have y2 := (cell_of_row _ _ 2 _ _ _ r6).trans rfl
  have y3 := (cell_of_row _ _ 3 _ _ _ r6).trans rfl
  have y4 := (cell_of_row _ _ 4 _ _ _ r6).trans rfl
  have y5 := (cell_of_row _ _ 5 _ _ _ r6).trans rfl
  have y6 := (cell_of_row _ _ 6 _ _ _ r6).trans rfl
  have y7 := (cell_of_row _ _ 7 _ _ _ r6).trans rfl
  have R6 := Aside0.mk r6
  have P6 := Aside0.mk (show p < w4.heap.size from blk_lt r6)
  clear r6
  go_wp2_with fail
  have BB : Below w.heap.size w w4 := by rw [EP.out]; exact B6B.out
  have WC := Aside0.mk (wop3 (w := w4) (kind := kind) (hash := hash) (algo := algo) (key := key) (id := id) (last := last) (As := As) (Ap := Ap) (ns := ns) (cs := cs) (np := np) (cp := cp) HI2.out (by have := HH.out.1; omega) HH.out.2.1)
  have hl : ((op3 kind id algo key last).length : Int) = 13 := by rw [op3_len]; rfl
  have hpk : tagB 4 :: (lenB 13 ++ op3 kind id algo key last) = pkt 4 (op3 kind id algo key last) := by unfold pkt; rw [hl]; rfl
  have hob : spec_OnePassBody.f 9 3 kind id algo key S P last = some (op3 kind id algo key last) := ob3 RG.out.1 HH.out.2.2 RG.out.2.1 last S P
  obtain ⟨k9, hk9⟩ := pkt_read (p := 4) (body := op3 kind id algo key last) (by decide) (op3_byte RG.out.1 HH.out.2.2 RG.out.2.1 last) (by rw [op3_len]; omega)
  rw [hpk] at WC
  have lb : (op3 kind id algo key last).length ≤ 10000 := (by rw [op3_len]; omega)
  obtain ⟨body, eb⟩ : ∃ body, op3 kind id algo key last = body := ⟨_, rfl⟩
  rw [eb] at WC hob hk9 lb
  have OBF := Aside0.mk hob
  have KP := Aside0.mk hk9
  have LB := Aside0.mk lb
  clear BB hl hpk hob hk9 lb eb
  refine WC.out.mono ?_
  rintro en w7 ⟨vv, rfl, hR, hB⟩
  obtain ⟨A7, c7, rfl, l7, r7⟩ := Kd.R_reads hR
  have RP := PFnBodyReads.spec_ReadPacket.calls k9 A7 c7 (pkt 4 body) 4 body ((pkt 4 body).length : Int) 0 w7 r7 l7 KP.out
  obtain ⟨lv, elv⟩ : ∃ lv, (pkt 4 body).length = lv := ⟨_, rfl⟩
  rw [elv] at RP ⊢
  have RP := Aside0.mk RP
  have rp7 := (hB.block _ P6.out).trans R6.out
  have B7 := Aside0.mk (below_then B6B.out (Nat.le_of_lt P6.out) hB)
  have R7 := Aside0.mk rp7
  have P7 := Aside0.mk (show p < w7.heap.size from blk_lt rp7)
  clear hB hR l7 r7 rp7 elv y0 y1 y2 y3 y4 y5 y6 y7
  go_wp2_with fail
  refine RP.out.mono ?_
  rintro en w8 ⟨v8, rfl, hR8, hB8⟩
  obtain ⟨A8, c8, e8, l8, q8⟩ := r8_reads hR8
  subst e8
  obtain ⟨nb, enb⟩ : ∃ nb, body.length = nb := ⟨_, rfl⟩
  rw [enb] at l8 ⊢
  obtain ⟨W9, e9, r9, b9⟩ : ∃ W, w8.alloc (.cells #[.int .i64 4, .slice A8 nb c8] 25) = W ∧ W.heap[w8.heap.size]? = some (.cells #[.int .i64 4, .slice A8 nb c8] 25 (0, 0)) ∧ Below w8.heap.size w8 W := ⟨_, rfl, heap_alloc_new _ _, below_alloc (Below.refl _ _) _⟩
  obtain ⟨W10, e10, r10, b10⟩ : ∃ W, W9.alloc (.cells #[.int .i64 3, .int .i64 kind, .int .i64 id, .int .i64 algo, .int .u64 key, .slice As ns cs, .slice Ap np cp, .bool last] 45) = W ∧ W.heap[W9.heap.size]? = some (.cells #[.int .i64 3, .int .i64 kind, .int .i64 id, .int .i64 algo, .int .u64 key, .slice As ns cs, .slice Ap np cp, .bool last] 45 (0, 0)) ∧ Below W9.heap.size W9 W := ⟨_, rfl, heap_alloc_new _ _, below_alloc (Below.refl _ _) _⟩
  have rp9 := (b9.block _ (Nat.lt_of_lt_of_le P7.out hB8.size)).trans ((hB8.block _ P7.out).trans R7.out)
  have y0 := (cell_of_row _ _ 0 _ _ _ rp9).trans rfl
  have y1 := (cell_of_row _ _ 1 _ _ _ rp9).trans rfl
  have y2 := (cell_of_row _ _ 2 _ _ _ rp9).trans rfl
  have y3 := (cell_of_row _ _ 3 _ _ _ rp9).trans rfl
  have y4 := (cell_of_row _ _ 4 _ _ _ rp9).trans rfl
  have y5 := (cell_of_row _ _ 5 _ _ _ rp9).trans rfl
  have y6 := (cell_of_row _ _ 6 _ _ _ rp9).trans rfl
  have y7 := (cell_of_row _ _ 7 _ _ _ rp9).trans rfl
  have B10 := Aside0.mk (below_then (below_then (below_then B7.out (Nat.le_of_lt P7.out) hB8) (Nat.le_trans (Nat.le_of_lt P7.out) hB8.size) b9) (Nat.le_trans (Nat.le_trans (Nat.le_of_lt P7.out) hB8.size) b9.size) b10)
  have P10 := Aside0.mk (show p ≤ W10.heap.size from Nat.le_trans (Nat.le_trans (Nat.le_trans (Nat.le_of_lt P7.out) hB8.size) b9.size) b10.size)
  have BB : Below w.heap.size w W10 := by rw [EP.out]; exact B10.out
  have OC := fun W' (h : Below W10.heap.size W10 W') => spec_OnePassBody.calls 9 3 kind id algo key As cs S Ap cp P last body W' (Kd.C_below (Kd.C_below SP.out.1 BB) h) SP.out.2.1 (Kd.C_below (Kd.C_below SP.out.2.2.2.1 BB) h) SP.out.2.2.2.2.1 OBF.out
  rw [← SP.out.2.2.1, ← SP.out.2.2.2.2.2] at OC
  have OC := Aside0.mk OC
  have D8 := Aside0.mk (And.intro (Kd.C_below (Kd.C_below q8 b9) b10) enb)
  have R9 := Aside0.mk ((b10.block _ (blk_lt r9)).trans r9)
  have R10 := Aside0.mk r10
  have wk : IntKind.i64.wrap kind = kind := IntWalk.i64_in _ (by have := RG.out.1; omega)
  have wa : IntKind.i64.wrap algo = algo := IntWalk.i64_in _ (by have := RG.out.2.1; omega)
  clear hR8 hB8 l8 q8 r9 r10 b9 b10 rp9 BB enb
  go_upto_region 18 with (fail)
  clear e9 e10 y0 y1 y2 y3 y4 y5 y6 y7 wk wa
  obtain ⟨g9, eg9⟩ : ∃ g, w8.heap.size = g := ⟨_, rfl⟩
  obtain ⟨g10, eg10⟩ : ∃ g, W9.heap.size = g := ⟨_, rfl⟩
  rw [eg9] at R9 ⊢
  rw [eg10] at R10 ⊢
  clear eg9 eg10
  have hS0 : W10.cell? ⟨g9, 0, none⟩ = some (.int .i64 4) ∧ W10.cell? ⟨g9, 1, none⟩ = some (.slice A8 nb c8) ∧ W10.cell? ⟨g10, 0, none⟩ = some (.int .i64 3) ∧ W10.cell? ⟨g10, 1, none⟩ = some (.int .i64 kind) ∧ W10.cell? ⟨g10, 2, none⟩ = some (.int .i64 id) ∧ W10.cell? ⟨g10, 3, none⟩ = some (.int .i64 algo) ∧ W10.cell? ⟨g10, 4, none⟩ = some (.int .u64 key) ∧ W10.cell? ⟨g10, 5, none⟩ = some (.slice As ns cs) ∧ W10.cell? ⟨g10, 6, none⟩ = some (.slice Ap np cp) ∧ W10.cell? ⟨g10, 7, none⟩ = some (.bool last) := ⟨(cell_of_row _ _ 0 _ _ _ R9.out).trans rfl, (cell_of_row _ _ 1 _ _ _ R9.out).trans rfl, (cell_of_row _ _ 0 _ _ _ R10.out).trans rfl, (cell_of_row _ _ 1 _ _ _ R10.out).trans rfl, (cell_of_row _ _ 2 _ _ _ R10.out).trans rfl, (cell_of_row _ _ 3 _ _ _ R10.out).trans rfl, (cell_of_row _ _ 4 _ _ _ R10.out).trans rfl, (cell_of_row _ _ 5 _ _ _ R10.out).trans rfl, (cell_of_row _ _ 6 _ _ _ R10.out).trans rfl, (cell_of_row _ _ 7 _ _ _ R10.out).trans rfl⟩
  have RB := Aside0.mk (show ∀ w', Below W10.heap.size W10 w' → (w'.cell? ⟨g9, 0, none⟩ = some (.int .i64 4) ∧ w'.cell? ⟨g9, 1, none⟩ = some (.slice A8 nb c8) ∧ w'.cell? ⟨g10, 0, none⟩ = some (.int .i64 3) ∧ w'.cell? ⟨g10, 1, none⟩ = some (.int .i64 kind) ∧ w'.cell? ⟨g10, 2, none⟩ = some (.int .i64 id) ∧ w'.cell? ⟨g10, 3, none⟩ = some (.int .i64 algo) ∧ w'.cell? ⟨g10, 4, none⟩ = some (.int .u64 key) ∧ w'.cell? ⟨g10, 5, none⟩ = some (.slice As ns cs) ∧ w'.cell? ⟨g10, 6, none⟩ = some (.slice Ap np cp) ∧ w'.cell? ⟨g10, 7, none⟩ = some (.bool last)) from fun w' hB => by
    have q9 := (hB.block _ (blk_lt R9.out)).trans R9.out
    have q10 := (hB.block _ (blk_lt R10.out)).trans R10.out
    exact ⟨(cell_of_row _ _ 0 _ _ _ q9).trans rfl, (cell_of_row _ _ 1 _ _ _ q9).trans rfl, (cell_of_row _ _ 0 _ _ _ q10).trans rfl, (cell_of_row _ _ 1 _ _ _ q10).trans rfl, (cell_of_row _ _ 2 _ _ _ q10).trans rfl, (cell_of_row _ _ 3 _ _ _ q10).trans rfl, (cell_of_row _ _ 4 _ _ _ q10).trans rfl, (cell_of_row _ _ 5 _ _ _ q10).trans rfl, (cell_of_row _ _ 6 _ _ _ q10).trans rfl, (cell_of_row _ _ 7 _ _ _ q10).trans rfl⟩)
  go_region_held3 (fun w' => w'.cell? ⟨g9, 0, none⟩ = some (.int .i64 4) ∧ w'.cell? ⟨g9, 1, none⟩ = some (.slice A8 nb c8) ∧ w'.cell? ⟨g10, 0, none⟩ = some (.int .i64 3) ∧ w'.cell? ⟨g10, 1, none⟩ = some (.int .i64 kind) ∧ w'.cell? ⟨g10, 2, none⟩ = some (.int .i64 id) ∧ w'.cell? ⟨g10, 3, none⟩ = some (.int .i64 algo) ∧ w'.cell? ⟨g10, 4, none⟩ = some (.int .u64 key) ∧ w'.cell? ⟨g10, 5, none⟩ = some (.slice As ns cs) ∧ w'.cell? ⟨g10, 6, none⟩ = some (.slice Ap np cp) ∧ w'.cell? ⟨g10, 7, none⟩ = some (.bool last)) (first | exact hS0 | assumption | go_keep) ((first | (go_at_call 16; (with_reducible refine (OC.out _ (below_drew (Below.refl _ _))).mono ?_); rintro en w11 ⟨v11, rfl, hR, hB⟩; obtain ⟨A11, c11, e11, l11, q11⟩ := r8_reads hR; rw [D8.out.2] at e11; subst e11; have hB11 : Below W10.heap.size W10 w11 := below_then (below_drew (Below.refl _ W10)) (Nat.le_refl _) hB; have SM := Aside0.mk (same_calls (w := w11) (A := A8) (B := A11) (c := c8) (d := c11) (n := nb) (m := nb) (l := body) (Kd.C_below D8.out.1 hB11) q11 rfl D8.out.2.symm D8.out.2.symm); have hB0 := RB.out w11 hB11; have B11 := Aside0.mk hB11; clear hR hB hB11 l11 q11) | (go_at_call 11; (with_reducible refine SM.out.mono ?_); rintro en w12 ⟨rfl, hB⟩; have hB12 : Below W10.heap.size W10 w12 := below_then B11.out B11.out.size hB; have hB0 := RB.out w12 hB12; have B12 := Aside0.mk hB12; clear hB hB12)))
  clear hS0 hB0
  go_wp2_with fail
  go_ret
  exact ⟨rfl, by rw [EP.out]; exact below_then B10.out P10.out B12.out⟩
end Go.Proofs.YtjdnnpfhlkgooaaDoor.Rd

/- The law FnWriteOnePass: WlB. -/
set_option linter.unusedVariables false
set_option linter.unusedSimpArgs false
namespace Go.Proofs.YtjdnnpfhlkgooaaDoor.Rd
open Go.RowKit Go.Proofs.YtjdnnpfhlkgooaaDoorW.PrintWords Go.Proofs.YtjdnnpfhlkgooaaDoorW.PrintMore Go.Proofs.YtjdnnpfhlkgooaaDoor.Kit Go.Proofs.YtjdnnpfhlkgooaaDoor.Hash
open Go.Proofs.YtjdnnpfhlkgooaaDoor Go.Proofs.YtjdnnpfhlkgooaaDoor.PFnWriteOnePass

set_option maxHeartbeats 3200000 in
set_option maxRecDepth 100000 in
theorem wl_six_is {w : World} {ver kind hash algo key : Int} {last : Bool} {As Ap : Option Addr} {cs cp ns np : Nat} {S P : List Int} {id : Int} (hS : C8 w As S) (cS : S.length ≤ cs) (eS : ns = S.length) (hP : C8 w Ap P) (cP : P.length ≤ cp) (eP : np = P.length) (hf : laws_zzFits7.f ver kind hash algo key last S P = some true) (l32 : np = 32) (l255 : ns ≤ 255) (k0 : 0 ≤ kind ∧ kind ≤ 255) (a0 : 0 ≤ algo ∧ algo ≤ 255) (wS : ∀ x ∈ S, 0 ≤ x ∧ x ≤ 255) (wP : ∀ x ∈ P, 0 ≤ x ∧ x ≤ 255) (hi : iOf hash false = (id, true)) (hi2 : iOf hash true = (id, true)) (h4 : 4 ≤ hash) (h100 : hash ≤ 100) (i0 : 0 ≤ id ∧ id ≤ 255) : Calls Tryd.prog 4 #[.agg #[.int .i64 ver, .int .u8 kind, .int .i64 hash, .int .u8 algo, .int .u64 key, .bool last, .slice As ns cs, .slice Ap np cp], .bool true] w fun e w' => e = .returned (.bool true) ∧ Below w.heap.size w w' := by
  obtain ⟨W1, e1, r1, b1⟩ : ∃ W, w.alloc (.cells #[.int .i64 ver, .int .u8 kind, .int .i64 hash, .int .u8 algo, .int .u64 key, .bool last, .slice As ns cs, .slice Ap np cp] 37) = W ∧ W.heap[w.heap.size]? = some (.cells #[.int .i64 ver, .int .u8 kind, .int .i64 hash, .int .u8 algo, .int .u64 key, .bool last, .slice As ns cs, .slice Ap np cp] 37 (0, 0)) ∧ Below w.heap.size w W := ⟨_, rfl, heap_alloc_new _ _, below_alloc (Below.refl _ _) _⟩
  have ZC := laws_zzFits7.calls ver kind hash algo key last As cs S Ap cp P true W1 (Kd.C_below hS b1) cS (Kd.C_below hP b1) cP hf
  rw [← eS, ← eP] at ZC
  have ZC := Aside0.mk ZC
  have c1 : ∀ i u, #[.int .i64 ver, .int .u8 kind, .int .i64 hash, .int .u8 algo, .int .u64 key, .bool last, .slice As ns cs, .slice Ap np cp][i]? = some u → W1.cell? ⟨w.heap.size, i, none⟩ = some u := fun i u hu => by
    have q := cell_of_row _ _ i _ _ _ r1
    rw [hu] at q
    exact q
  have y0 := c1 0 _ rfl
  have y1 := c1 1 _ rfl
  have y2 := c1 2 _ rfl
  have y3 := c1 3 _ rfl
  have y4 := c1 4 _ rfl
  have y5 := c1 5 _ rfl
  have y6 := c1 6 _ rfl
  have y7 := c1 7 _ rfl
  have R1 := Aside0.mk r1
  have B1 := Aside0.mk b1
  have SP := Aside0.mk (And.intro hS (And.intro cS (And.intro eS (And.intro hP (And.intro cP eP)))))
  have RG := Aside0.mk (And.intro k0 (And.intro a0 (And.intro wS (And.intro wP (And.intro l32 l255)))))
  have HI := Aside0.mk hi
  clear hS cS eS hP cP eP hf r1 b1 c1 k0 a0 wS wP hi
  have HI2 := Aside0.mk hi2
  have HH := Aside0.mk (And.intro h4 (And.intro h100 i0))
  have n3 : ¬ hash = 3 := by omega
  clear hi2 h4 h100 i0
  have q32 : (np : Int) = 32 := by omega
  have q255 : ¬ (255 : Int) < (ns : Int) := by omega
  clear l32 l255
  go_enter Tryd.func4, Tryd.ntmps4
  go_wp2_with fail
  refine ZC.out.mono ?_
  rintro en w2 ⟨rfl, hB⟩
  have B2 := Aside0.mk (below_then B1.out B1.out.size hB)
  have r2 := (hB.block _ (blk_lt R1.out)).trans R1.out
  obtain ⟨p, ep⟩ : ∃ p, w.heap.size = p := ⟨_, rfl⟩
  have EP := Aside0.mk ep
  rw [ep] at r2 B2 ⊢
  have R2 := Aside0.mk r2
  have y0 := (cell_of_row _ _ 0 _ _ _ r2).trans rfl
  have y2 := (cell_of_row _ _ 2 _ _ _ r2).trans rfl
  have y6 := (cell_of_row _ _ 6 _ _ _ r2).trans rfl
  have y7 := (cell_of_row _ _ 7 _ _ _ r2).trans rfl
  have f0 := frozen_of_row _ _ 0 _ _ r2
  clear hB e1 r2 y1 y3 y4 y5 ep ZC
  go_wp2_with fail
  obtain ⟨W3, e3⟩ : ∃ W3, w2.setCell ⟨p, 0, none⟩ (.int .i64 3) = W3 := ⟨_, rfl⟩
  have r3 : W3.heap[p]? = some (.cells #[.int .i64 3, .int .u8 kind, .int .i64 hash, .int .u8 algo, .int .u64 key, .bool last, .slice As ns cs, .slice Ap np cp] 37 (0, 0)) := e3 ▸ blk_put R2.out 0 _ rfl
  have B3 := Aside0.mk (show Below p w W3 from e3 ▸ ((Tch.refl (fun j => j = p) w2).setCell (p := ⟨p, 0, none⟩) (fun _ => rfl) _).below B2.out (Nat.le_of_lt (blk_lt R2.out)) (fun j q => by omega))
  have PZ := Aside0.mk (show p < W3.heap.size from blk_lt r3)
  rw [e3]
  have R3 := Aside0.mk r3
  clear y0 y2 y6 y7 f0 e3 r3
  refine (siof hash false W3).mono ?_
  rw [HI.out]
  rintro en w4 ⟨rfl, hB⟩
  have B4 := Aside0.mk (below_then B3.out (Nat.le_of_lt PZ.out) hB)
  have r4 := (hB.block _ PZ.out).trans R3.out
  have R4 := Aside0.mk r4
  have P4 := Aside0.mk (show p < w4.heap.size from blk_lt r4)
  have y0 := (cell_of_row _ _ 0 _ _ _ r4).trans rfl
  have y2 := (cell_of_row _ _ 2 _ _ _ r4).trans rfl
  have y6 := (cell_of_row _ _ 6 _ _ _ r4).trans rfl
  have f0 := frozen_of_row _ _ 0 _ _ r4
  clear hB r4
  go_upto_region 9 with (fail)
  obtain ⟨W5, e5⟩ : ∃ W5, w4.setCell ⟨p, 0, none⟩ (.int .i64 6) = W5 := ⟨_, rfl⟩
  have r5 : W5.heap[p]? = some (.cells #[.int .i64 6, .int .u8 kind, .int .i64 hash, .int .u8 algo, .int .u64 key, .bool last, .slice As ns cs, .slice Ap np cp] 37 (0, 0)) := e5 ▸ blk_put R4.out 0 _ rfl
  have B5 := Aside0.mk (show Below p w W5 from e5 ▸ ((Tch.refl (fun j => j = p) w4).setCell (p := ⟨p, 0, none⟩) (fun _ => rfl) _).below B4.out (Nat.le_of_lt P4.out) (fun j q => by omega))
  rw [e5]
  have R5 := Aside0.mk r5
  have P5 := Aside0.mk (show p < W5.heap.size from blk_lt r5)
  clear y0 y2 y6 f0 e5
  have y2 := (cell_of_row _ _ 2 _ _ _ r5).trans rfl
  have y6 := (cell_of_row _ _ 6 _ _ _ r5).trans rfl
  clear r5
  have SC := Aside0.mk (spec_SaltSize.calls 1 id (saltN id) W5.drew (salt_f id))
  obtain ⟨sz, esz⟩ : ∃ sz, saltN id = sz := ⟨_, rfl⟩
  rw [esz] at SC
  by_cases hsz : (ns : Int) = sz
  rotate_left
  · go_region_held3 (fun w' => w'.cell? ⟨p, 6, none⟩ = some (.slice As ns cs)) (first | exact y6 | assumption | go_keep) ((first | (go_at_call 14; (with_reducible refine SC.out.mono ?_); rintro en w6 ⟨rfl, hD⟩; have hB6 : Below W5.heap.size W5 w6 := below_then (below_drew (Below.refl _ W5)) (Nat.le_refl _) hD.below; have hB0 := (hB6.cell (p := ⟨p, 6, none⟩) P5.out).trans y6; have B6 := Aside0.mk hB6; clear hD hB6)))
    go_wp2_with fail
    go_ret
    exact ⟨rfl, by rw [EP.out]; exact below_then B5.out (Nat.le_of_lt P5.out) B6.out⟩
  go_region_held3 (fun w' => w'.cell? ⟨p, 6, none⟩ = some (.slice As ns cs)) (first | exact y6 | assumption | go_keep) ((first | (go_at_call 14; (with_reducible refine SC.out.mono ?_); rintro en w6 ⟨rfl, hD⟩; have hB6 : Below W5.heap.size W5 w6 := below_then (below_drew (Below.refl _ W5)) (Nat.le_refl _) hD.below; have hB0 := (hB6.cell (p := ⟨p, 6, none⟩) P5.out).trans y6; have B6 := Aside0.mk hB6; clear hD hB6)))
  have r6 := (B6.out.block _ P5.out).trans R5.out
  have B6B := Aside0.mk (below_then B5.out (Nat.le_of_lt P5.out) B6.out)
  clear y2 y6 hB0
  have y0 := (cell_of_row _ _ 0 _ _ _ r6).trans rfl
  have y1 := (cell_of_row _ _ 1 _ _ _ r6).trans rfl
  have y2 := (cell_of_row _ _ 2 _ _ _ r6).trans rfl
  have y3 := (cell_of_row _ _ 3 _ _ _ r6).trans rfl
  have y4 := (cell_of_row _ _ 4 _ _ _ r6).trans rfl
  have y5 := (cell_of_row _ _ 5 _ _ _ r6).trans rfl
  have y6 := (cell_of_row _ _ 6 _ _ _ r6).trans rfl
  have y7 := (cell_of_row _ _ 7 _ _ _ r6).trans rfl
  have R6 := Aside0.mk r6
  have P6 := Aside0.mk (show p < w6.heap.size from blk_lt r6)
  clear r6
  go_wp2_with fail
  have BB : Below w.heap.size w w6 := by rw [EP.out]; exact B6B.out
  have WC := Aside0.mk (wop6 (w := w6) (kind := kind) (hash := hash) (algo := algo) (key := key) (id := id) (last := last) (As := As) (Ap := Ap) (ns := ns) (cs := cs) (np := np) (cp := cp) HI2.out (by have := HH.out.1; omega) HH.out.2.1 (Kd.C_below SP.out.1 BB) SP.out.2.2.1 (Kd.C_below SP.out.2.2.2.1 BB) SP.out.2.2.2.2.2 RG.out.2.2.2.2.2 (by have := RG.out.2.2.2.2.1; omega))
  have hl : ((op6 kind id algo last S P).length : Int) = (38 + (ns : Int)) := by rw [op6_len]; have := RG.out.2.2.2.2.1; have := SP.out.2.2.1; have := SP.out.2.2.2.2.2; omega
  have hpk : tagB 4 :: (lenB (38 + (ns : Int)) ++ op6 kind id algo last S P) = pkt 4 (op6 kind id algo last S P) := by unfold pkt; rw [hl]; rfl
  have hob : spec_OnePassBody.f 9 6 kind id algo key S P last = some (op6 kind id algo last S P) := ob6 RG.out.1 HH.out.2.2 RG.out.2.1 last S P (by have := RG.out.2.2.2.2.2; have := SP.out.2.2.1; omega) (by have := RG.out.2.2.2.2.1; have := SP.out.2.2.2.2.2; omega)
  obtain ⟨k9, hk9⟩ := pkt_read (p := 4) (body := op6 kind id algo last S P) (by decide) (op6_byte RG.out.1 HH.out.2.2 RG.out.2.1 last RG.out.2.2.1 RG.out.2.2.2.1 (by have := RG.out.2.2.2.2.2; have := SP.out.2.2.1; omega)) (by rw [op6_len]; have := RG.out.2.2.2.2; have := SP.out.2.2.1; have := SP.out.2.2.2.2.2; omega)
  rw [hpk] at WC
  have lb : (op6 kind id algo last S P).length ≤ 10000 := (by rw [op6_len]; have := RG.out.2.2.2.2; have := SP.out.2.2.1; have := SP.out.2.2.2.2.2; omega)
  obtain ⟨body, eb⟩ : ∃ body, op6 kind id algo last S P = body := ⟨_, rfl⟩
  rw [eb] at WC hob hk9 lb
  have OBF := Aside0.mk hob
  have KP := Aside0.mk hk9
  have LB := Aside0.mk lb
  clear BB hl hpk hob hk9 lb eb
  refine WC.out.mono ?_
  rintro en w7 ⟨vv, rfl, hR, hB⟩
  obtain ⟨A7, c7, rfl, l7, r7⟩ := Kd.R_reads hR
  have RP := PFnBodyReads.spec_ReadPacket.calls k9 A7 c7 (pkt 4 body) 4 body ((pkt 4 body).length : Int) 0 w7 r7 l7 KP.out
  obtain ⟨lv, elv⟩ : ∃ lv, (pkt 4 body).length = lv := ⟨_, rfl⟩
  rw [elv] at RP ⊢
  have RP := Aside0.mk RP
  have rp7 := (hB.block _ P6.out).trans R6.out
  have B7 := Aside0.mk (below_then B6B.out (Nat.le_of_lt P6.out) hB)
  have R7 := Aside0.mk rp7
  have P7 := Aside0.mk (show p < w7.heap.size from blk_lt rp7)
  clear hB hR l7 r7 rp7 elv y0 y1 y2 y3 y4 y5 y6 y7
  go_wp2_with fail
  refine RP.out.mono ?_
  rintro en w8 ⟨v8, rfl, hR8, hB8⟩
  obtain ⟨A8, c8, e8, l8, q8⟩ := r8_reads hR8
  subst e8
  obtain ⟨nb, enb⟩ : ∃ nb, body.length = nb := ⟨_, rfl⟩
  rw [enb] at l8 ⊢
  obtain ⟨W9, e9, r9, b9⟩ : ∃ W, w8.alloc (.cells #[.int .i64 4, .slice A8 nb c8] 25) = W ∧ W.heap[w8.heap.size]? = some (.cells #[.int .i64 4, .slice A8 nb c8] 25 (0, 0)) ∧ Below w8.heap.size w8 W := ⟨_, rfl, heap_alloc_new _ _, below_alloc (Below.refl _ _) _⟩
  obtain ⟨W10, e10, r10, b10⟩ : ∃ W, W9.alloc (.cells #[.int .i64 6, .int .i64 kind, .int .i64 id, .int .i64 algo, .int .u64 key, .slice As ns cs, .slice Ap np cp, .bool last] 45) = W ∧ W.heap[W9.heap.size]? = some (.cells #[.int .i64 6, .int .i64 kind, .int .i64 id, .int .i64 algo, .int .u64 key, .slice As ns cs, .slice Ap np cp, .bool last] 45 (0, 0)) ∧ Below W9.heap.size W9 W := ⟨_, rfl, heap_alloc_new _ _, below_alloc (Below.refl _ _) _⟩
  have rp9 := (b9.block _ (Nat.lt_of_lt_of_le P7.out hB8.size)).trans ((hB8.block _ P7.out).trans R7.out)
  have y0 := (cell_of_row _ _ 0 _ _ _ rp9).trans rfl
  have y1 := (cell_of_row _ _ 1 _ _ _ rp9).trans rfl
  have y2 := (cell_of_row _ _ 2 _ _ _ rp9).trans rfl
  have y3 := (cell_of_row _ _ 3 _ _ _ rp9).trans rfl
  have y4 := (cell_of_row _ _ 4 _ _ _ rp9).trans rfl
  have y5 := (cell_of_row _ _ 5 _ _ _ rp9).trans rfl
  have y6 := (cell_of_row _ _ 6 _ _ _ rp9).trans rfl
  have y7 := (cell_of_row _ _ 7 _ _ _ rp9).trans rfl
  have B10 := Aside0.mk (below_then (below_then (below_then B7.out (Nat.le_of_lt P7.out) hB8) (Nat.le_trans (Nat.le_of_lt P7.out) hB8.size) b9) (Nat.le_trans (Nat.le_trans (Nat.le_of_lt P7.out) hB8.size) b9.size) b10)
  have P10 := Aside0.mk (show p ≤ W10.heap.size from Nat.le_trans (Nat.le_trans (Nat.le_trans (Nat.le_of_lt P7.out) hB8.size) b9.size) b10.size)
  have BB : Below w.heap.size w W10 := by rw [EP.out]; exact B10.out
  have OC := fun W' (h : Below W10.heap.size W10 W') => spec_OnePassBody.calls 9 6 kind id algo key As cs S Ap cp P last body W' (Kd.C_below (Kd.C_below SP.out.1 BB) h) SP.out.2.1 (Kd.C_below (Kd.C_below SP.out.2.2.2.1 BB) h) SP.out.2.2.2.2.1 OBF.out
  rw [← SP.out.2.2.1, ← SP.out.2.2.2.2.2] at OC
  have OC := Aside0.mk OC
  have D8 := Aside0.mk (And.intro (Kd.C_below (Kd.C_below q8 b9) b10) enb)
  have R9 := Aside0.mk ((b10.block _ (blk_lt r9)).trans r9)
  have R10 := Aside0.mk r10
  have wk : IntKind.i64.wrap kind = kind := IntWalk.i64_in _ (by have := RG.out.1; omega)
  have wa : IntKind.i64.wrap algo = algo := IntWalk.i64_in _ (by have := RG.out.2.1; omega)
  clear hR8 hB8 l8 q8 r9 r10 b9 b10 rp9 BB enb
  go_upto_region 18 with (fail)
  clear e9 e10 y0 y1 y2 y3 y4 y5 y6 y7 wk wa
  obtain ⟨g9, eg9⟩ : ∃ g, w8.heap.size = g := ⟨_, rfl⟩
  obtain ⟨g10, eg10⟩ : ∃ g, W9.heap.size = g := ⟨_, rfl⟩
  rw [eg9] at R9 ⊢
  rw [eg10] at R10 ⊢
  clear eg9 eg10
  have hS0 : W10.cell? ⟨g9, 0, none⟩ = some (.int .i64 4) ∧ W10.cell? ⟨g9, 1, none⟩ = some (.slice A8 nb c8) ∧ W10.cell? ⟨g10, 0, none⟩ = some (.int .i64 6) ∧ W10.cell? ⟨g10, 1, none⟩ = some (.int .i64 kind) ∧ W10.cell? ⟨g10, 2, none⟩ = some (.int .i64 id) ∧ W10.cell? ⟨g10, 3, none⟩ = some (.int .i64 algo) ∧ W10.cell? ⟨g10, 4, none⟩ = some (.int .u64 key) ∧ W10.cell? ⟨g10, 5, none⟩ = some (.slice As ns cs) ∧ W10.cell? ⟨g10, 6, none⟩ = some (.slice Ap np cp) ∧ W10.cell? ⟨g10, 7, none⟩ = some (.bool last) := ⟨(cell_of_row _ _ 0 _ _ _ R9.out).trans rfl, (cell_of_row _ _ 1 _ _ _ R9.out).trans rfl, (cell_of_row _ _ 0 _ _ _ R10.out).trans rfl, (cell_of_row _ _ 1 _ _ _ R10.out).trans rfl, (cell_of_row _ _ 2 _ _ _ R10.out).trans rfl, (cell_of_row _ _ 3 _ _ _ R10.out).trans rfl, (cell_of_row _ _ 4 _ _ _ R10.out).trans rfl, (cell_of_row _ _ 5 _ _ _ R10.out).trans rfl, (cell_of_row _ _ 6 _ _ _ R10.out).trans rfl, (cell_of_row _ _ 7 _ _ _ R10.out).trans rfl⟩
  have RB := Aside0.mk (show ∀ w', Below W10.heap.size W10 w' → (w'.cell? ⟨g9, 0, none⟩ = some (.int .i64 4) ∧ w'.cell? ⟨g9, 1, none⟩ = some (.slice A8 nb c8) ∧ w'.cell? ⟨g10, 0, none⟩ = some (.int .i64 6) ∧ w'.cell? ⟨g10, 1, none⟩ = some (.int .i64 kind) ∧ w'.cell? ⟨g10, 2, none⟩ = some (.int .i64 id) ∧ w'.cell? ⟨g10, 3, none⟩ = some (.int .i64 algo) ∧ w'.cell? ⟨g10, 4, none⟩ = some (.int .u64 key) ∧ w'.cell? ⟨g10, 5, none⟩ = some (.slice As ns cs) ∧ w'.cell? ⟨g10, 6, none⟩ = some (.slice Ap np cp) ∧ w'.cell? ⟨g10, 7, none⟩ = some (.bool last)) from fun w' hB => by
    have q9 := (hB.block _ (blk_lt R9.out)).trans R9.out
    have q10 := (hB.block _ (blk_lt R10.out)).trans R10.out
    exact ⟨(cell_of_row _ _ 0 _ _ _ q9).trans rfl, (cell_of_row _ _ 1 _ _ _ q9).trans rfl, (cell_of_row _ _ 0 _ _ _ q10).trans rfl, (cell_of_row _ _ 1 _ _ _ q10).trans rfl, (cell_of_row _ _ 2 _ _ _ q10).trans rfl, (cell_of_row _ _ 3 _ _ _ q10).trans rfl, (cell_of_row _ _ 4 _ _ _ q10).trans rfl, (cell_of_row _ _ 5 _ _ _ q10).trans rfl, (cell_of_row _ _ 6 _ _ _ q10).trans rfl, (cell_of_row _ _ 7 _ _ _ q10).trans rfl⟩)
  go_region_held3 (fun w' => w'.cell? ⟨g9, 0, none⟩ = some (.int .i64 4) ∧ w'.cell? ⟨g9, 1, none⟩ = some (.slice A8 nb c8) ∧ w'.cell? ⟨g10, 0, none⟩ = some (.int .i64 6) ∧ w'.cell? ⟨g10, 1, none⟩ = some (.int .i64 kind) ∧ w'.cell? ⟨g10, 2, none⟩ = some (.int .i64 id) ∧ w'.cell? ⟨g10, 3, none⟩ = some (.int .i64 algo) ∧ w'.cell? ⟨g10, 4, none⟩ = some (.int .u64 key) ∧ w'.cell? ⟨g10, 5, none⟩ = some (.slice As ns cs) ∧ w'.cell? ⟨g10, 6, none⟩ = some (.slice Ap np cp) ∧ w'.cell? ⟨g10, 7, none⟩ = some (.bool last)) (first | exact hS0 | assumption | go_keep) ((first | (go_at_call 16; (with_reducible refine (OC.out _ (below_drew (Below.refl _ _))).mono ?_); rintro en w11 ⟨v11, rfl, hR, hB⟩; obtain ⟨A11, c11, e11, l11, q11⟩ := r8_reads hR; rw [D8.out.2] at e11; subst e11; have hB11 : Below W10.heap.size W10 w11 := below_then (below_drew (Below.refl _ W10)) (Nat.le_refl _) hB; have SM := Aside0.mk (same_calls (w := w11) (A := A8) (B := A11) (c := c8) (d := c11) (n := nb) (m := nb) (l := body) (Kd.C_below D8.out.1 hB11) q11 rfl D8.out.2.symm D8.out.2.symm); have hB0 := RB.out w11 hB11; have B11 := Aside0.mk hB11; clear hR hB hB11 l11 q11) | (go_at_call 11; (with_reducible refine SM.out.mono ?_); rintro en w12 ⟨rfl, hB⟩; have hB12 : Below W10.heap.size W10 w12 := below_then B11.out B11.out.size hB; have hB0 := RB.out w12 hB12; have B12 := Aside0.mk hB12; clear hB hB12)))
  clear hS0 hB0
  go_wp2_with fail
  go_ret
  exact ⟨rfl, by rw [EP.out]; exact below_then B10.out P10.out B12.out⟩
end Go.Proofs.YtjdnnpfhlkgooaaDoor.Rd

/- The law FnWriteOnePass: WlC. -/
set_option linter.unusedVariables false
set_option linter.unusedSimpArgs false
namespace Go.Proofs.YtjdnnpfhlkgooaaDoor.Rd
open Go.RowKit Go.Proofs.YtjdnnpfhlkgooaaDoorW.PrintWords Go.Proofs.YtjdnnpfhlkgooaaDoorW.PrintMore Go.Proofs.YtjdnnpfhlkgooaaDoor.Kit Go.Proofs.YtjdnnpfhlkgooaaDoor.Hash
open Go.Proofs.YtjdnnpfhlkgooaaDoor Go.Proofs.YtjdnnpfhlkgooaaDoor.PFnWriteOnePass

set_option maxHeartbeats 3200000 in
set_option maxRecDepth 100000 in
theorem wl_three_no {w : World} {ver kind hash algo key : Int} {last : Bool} {As Ap : Option Addr} {cs cp ns np : Nat} {S P : List Int} {id : Int} (hS : C8 w As S) (cS : S.length ≤ cs) (eS : ns = S.length) (hP : C8 w Ap P) (cP : P.length ≤ cp) (eP : np = P.length) (hf : laws_zzFits7.f ver kind hash algo key last S P = some true) (l32 : np = 32) (l255 : ns ≤ 255) (k0 : 0 ≤ kind ∧ kind ≤ 255) (a0 : 0 ≤ algo ∧ algo ≤ 255) (wS : ∀ x ∈ S, 0 ≤ x ∧ x ≤ 255) (wP : ∀ x ∈ P, 0 ≤ x ∧ x ≤ 255) (hi : iOf hash false = (0, false)) (hi2 : iOf hash true = (0, false)) (h3 : hash ≠ 3) (z0 : -9223372036854775808 ≤ hash) (z1 : hash ≤ 9223372036854775807) (htab : Lib.TabBelow Tryd.prog w.heap.size w "internal/strconv.uint64pow10" .u64 Lib.pow10Tab) {aE aU : Addr} (hE : Env w w.heap.size aE aU) : Calls Tryd.prog 4 #[.agg #[.int .i64 ver, .int .u8 kind, .int .i64 hash, .int .u8 algo, .int .u64 key, .bool last, .slice As ns cs, .slice Ap np cp], .bool false] w fun e w' => e = .returned (.bool true) ∧ Below w.heap.size w w' := by
  obtain ⟨W1, e1, r1, b1⟩ : ∃ W, w.alloc (.cells #[.int .i64 ver, .int .u8 kind, .int .i64 hash, .int .u8 algo, .int .u64 key, .bool last, .slice As ns cs, .slice Ap np cp] 37) = W ∧ W.heap[w.heap.size]? = some (.cells #[.int .i64 ver, .int .u8 kind, .int .i64 hash, .int .u8 algo, .int .u64 key, .bool last, .slice As ns cs, .slice Ap np cp] 37 (0, 0)) ∧ Below w.heap.size w W := ⟨_, rfl, heap_alloc_new _ _, below_alloc (Below.refl _ _) _⟩
  have ZC := laws_zzFits7.calls ver kind hash algo key last As cs S Ap cp P true W1 (Kd.C_below hS b1) cS (Kd.C_below hP b1) cP hf
  rw [← eS, ← eP] at ZC
  have ZC := Aside0.mk ZC
  have c1 : ∀ i u, #[.int .i64 ver, .int .u8 kind, .int .i64 hash, .int .u8 algo, .int .u64 key, .bool last, .slice As ns cs, .slice Ap np cp][i]? = some u → W1.cell? ⟨w.heap.size, i, none⟩ = some u := fun i u hu => by
    have q := cell_of_row _ _ i _ _ _ r1
    rw [hu] at q
    exact q
  have y0 := c1 0 _ rfl
  have y1 := c1 1 _ rfl
  have y2 := c1 2 _ rfl
  have y3 := c1 3 _ rfl
  have y4 := c1 4 _ rfl
  have y5 := c1 5 _ rfl
  have y6 := c1 6 _ rfl
  have y7 := c1 7 _ rfl
  have R1 := Aside0.mk r1
  have B1 := Aside0.mk b1
  have SP := Aside0.mk (And.intro hS (And.intro cS (And.intro eS (And.intro hP (And.intro cP eP)))))
  have RG := Aside0.mk (And.intro k0 (And.intro a0 (And.intro wS (And.intro wP (And.intro l32 l255)))))
  have HI := Aside0.mk hi
  clear hS cS eS hP cP eP hf r1 b1 c1 k0 a0 wS wP hi
  have HI2 := Aside0.mk hi2
  have HN := Aside0.mk (And.intro z0 (And.intro z1 (And.intro htab hE)))
  have n3 : ¬ hash = 3 := h3
  clear hi2 h3 z0 z1 htab hE
  have q32 : (np : Int) = 32 := by omega
  have q255 : ¬ (255 : Int) < (ns : Int) := by omega
  clear l32 l255
  go_enter Tryd.func4, Tryd.ntmps4
  go_wp2_with fail
  refine ZC.out.mono ?_
  rintro en w2 ⟨rfl, hB⟩
  have B2 := Aside0.mk (below_then B1.out B1.out.size hB)
  have r2 := (hB.block _ (blk_lt R1.out)).trans R1.out
  obtain ⟨p, ep⟩ : ∃ p, w.heap.size = p := ⟨_, rfl⟩
  have EP := Aside0.mk ep
  rw [ep] at r2 B2 ⊢
  have R2 := Aside0.mk r2
  have y0 := (cell_of_row _ _ 0 _ _ _ r2).trans rfl
  have y2 := (cell_of_row _ _ 2 _ _ _ r2).trans rfl
  have y6 := (cell_of_row _ _ 6 _ _ _ r2).trans rfl
  have y7 := (cell_of_row _ _ 7 _ _ _ r2).trans rfl
  have f0 := frozen_of_row _ _ 0 _ _ r2
  clear hB e1 r2 y1 y3 y4 y5 ep ZC
  go_wp2_with fail
  obtain ⟨W3, e3⟩ : ∃ W3, w2.setCell ⟨p, 0, none⟩ (.int .i64 3) = W3 := ⟨_, rfl⟩
  have r3 : W3.heap[p]? = some (.cells #[.int .i64 3, .int .u8 kind, .int .i64 hash, .int .u8 algo, .int .u64 key, .bool last, .slice As ns cs, .slice Ap np cp] 37 (0, 0)) := e3 ▸ blk_put R2.out 0 _ rfl
  have B3 := Aside0.mk (show Below p w W3 from e3 ▸ ((Tch.refl (fun j => j = p) w2).setCell (p := ⟨p, 0, none⟩) (fun _ => rfl) _).below B2.out (Nat.le_of_lt (blk_lt R2.out)) (fun j q => by omega))
  have PZ := Aside0.mk (show p < W3.heap.size from blk_lt r3)
  rw [e3]
  have R3 := Aside0.mk r3
  clear y0 y2 y6 y7 f0 e3 r3
  refine (siof hash false W3).mono ?_
  rw [HI.out]
  rintro en w4 ⟨rfl, hB⟩
  have B4 := Aside0.mk (below_then B3.out (Nat.le_of_lt PZ.out) hB)
  have r4 := (hB.block _ PZ.out).trans R3.out
  have R4 := Aside0.mk r4
  have P4 := Aside0.mk (show p < w4.heap.size from blk_lt r4)
  have y0 := (cell_of_row _ _ 0 _ _ _ r4).trans rfl
  have y2 := (cell_of_row _ _ 2 _ _ _ r4).trans rfl
  have y6 := (cell_of_row _ _ 6 _ _ _ r4).trans rfl
  have f0 := frozen_of_row _ _ 0 _ _ r4
  clear hB r4
  have r6 := R4.out
  have B6B := B4
  clear f0 y0 y2 y6
  have y0 := (cell_of_row _ _ 0 _ _ _ r6).trans rfl
  have y1 := (cell_of_row _ _ 1 _ _ _ r6).trans rfl
  have y2 := (cell_of_row _ _ 2 _ _ _ r6).trans rfl
  have y3 := (cell_of_row _ _ 3 _ _ _ r6).trans rfl
  have y4 := (cell_of_row _ _ 4 _ _ _ r6).trans rfl
  have y5 := (cell_of_row _ _ 5 _ _ _ r6).trans rfl
  have y6 := (cell_of_row _ _ 6 _ _ _ r6).trans rfl
  have y7 := (cell_of_row _ _ 7 _ _ _ r6).trans rfl
  have R6 := Aside0.mk r6
  have P6 := Aside0.mk (show p < w4.heap.size from blk_lt r6)
  clear r6
  go_wp2_with fail
  have hq : IntKind.u64.wrap hash = hash % 18446744073709551616 := by simp [IntKind.wrap, IntKind.bits, IntKind.signed]
  have hz : IntKind.i64.wrap (hash % 18446744073709551616) = hash := by rw [IntKind.wrap_i64]; have := HN.out.1; have := HN.out.2.1; omega
  have BB : Below w.heap.size w w4 := by rw [EP.out]; exact B6B.out
  have WC := Aside0.mk (won3 (w := w4) (kind := kind) (hash := hash % 18446744073709551616) (hh := hash) (algo := algo) (key := key) (last := last) (As := As) (Ap := Ap) (ns := ns) (cs := cs) (np := np) (cp := cp) (by rw [iOf_wrap hash true HN.out.1 HN.out.2.1]; exact HI2.out) hq hz HN.out.1 HN.out.2.1 (fun w' h => HN.out.2.2.1 w' (BB.trans (h.mono BB.size))) RG.out.2.2.2.2.2 (env_c HN.out.2.2.2 BB))
  clear hq hz BB
  refine WC.out.mono ?_
  rintro en w7 ⟨vv, rfl, ⟨A7, n7, c7, rfl⟩, hB⟩
  have B7 := Aside0.mk (below_then B6B.out (Nat.le_of_lt P6.out) hB)
  clear hB y0 y1 y2 y3 y4 y5 y6 y7
  go_wp2_with fail
  go_ret
  exact ⟨rfl, by rw [EP.out]; exact B7.out⟩
set_option maxHeartbeats 3200000 in
set_option maxRecDepth 100000 in
theorem wl_three_sha {w : World} {ver kind algo key : Int} {last : Bool} {As Ap : Option Addr} {cs cp ns np : Nat} {S P : List Int} {id : Int} (hS : C8 w As S) (cS : S.length ≤ cs) (eS : ns = S.length) (hP : C8 w Ap P) (cP : P.length ≤ cp) (eP : np = P.length) (hf : laws_zzFits7.f ver kind (3 : Int) algo key last S P = some true) (l32 : np = 32) (l255 : ns ≤ 255) (k0 : 0 ≤ kind ∧ kind ≤ 255) (a0 : 0 ≤ algo ∧ algo ≤ 255) (wS : ∀ x ∈ S, 0 ≤ x ∧ x ≤ 255) (wP : ∀ x ∈ P, 0 ≤ x ∧ x ≤ 255) (hi : iOf (3 : Int) false = (0, false)) : Calls Tryd.prog 4 #[.agg #[.int .i64 ver, .int .u8 kind, .int .i64 (3 : Int), .int .u8 algo, .int .u64 key, .bool last, .slice As ns cs, .slice Ap np cp], .bool false] w fun e w' => e = .returned (.bool true) ∧ Below w.heap.size w w' := by
  obtain ⟨W1, e1, r1, b1⟩ : ∃ W, w.alloc (.cells #[.int .i64 ver, .int .u8 kind, .int .i64 (3 : Int), .int .u8 algo, .int .u64 key, .bool last, .slice As ns cs, .slice Ap np cp] 37) = W ∧ W.heap[w.heap.size]? = some (.cells #[.int .i64 ver, .int .u8 kind, .int .i64 (3 : Int), .int .u8 algo, .int .u64 key, .bool last, .slice As ns cs, .slice Ap np cp] 37 (0, 0)) ∧ Below w.heap.size w W := ⟨_, rfl, heap_alloc_new _ _, below_alloc (Below.refl _ _) _⟩
  have ZC := laws_zzFits7.calls ver kind (3 : Int) algo key last As cs S Ap cp P true W1 (Kd.C_below hS b1) cS (Kd.C_below hP b1) cP hf
  rw [← eS, ← eP] at ZC
  have ZC := Aside0.mk ZC
  have c1 : ∀ i u, #[.int .i64 ver, .int .u8 kind, .int .i64 (3 : Int), .int .u8 algo, .int .u64 key, .bool last, .slice As ns cs, .slice Ap np cp][i]? = some u → W1.cell? ⟨w.heap.size, i, none⟩ = some u := fun i u hu => by
    have q := cell_of_row _ _ i _ _ _ r1
    rw [hu] at q
    exact q
  have y0 := c1 0 _ rfl
  have y1 := c1 1 _ rfl
  have y2 := c1 2 _ rfl
  have y3 := c1 3 _ rfl
  have y4 := c1 4 _ rfl
  have y5 := c1 5 _ rfl
  have y6 := c1 6 _ rfl
  have y7 := c1 7 _ rfl
  have R1 := Aside0.mk r1
  have B1 := Aside0.mk b1
  have SP := Aside0.mk (And.intro hS (And.intro cS (And.intro eS (And.intro hP (And.intro cP eP)))))
  have RG := Aside0.mk (And.intro k0 (And.intro a0 (And.intro wS (And.intro wP (And.intro l32 l255)))))
  have HI := Aside0.mk hi
  clear hS cS eS hP cP eP hf r1 b1 c1 k0 a0 wS wP hi
  have q32 : (np : Int) = 32 := by omega
  have q255 : ¬ (255 : Int) < (ns : Int) := by omega
  clear l32 l255
  go_enter Tryd.func4, Tryd.ntmps4
  go_wp2_with fail
  refine ZC.out.mono ?_
  rintro en w2 ⟨rfl, hB⟩
  have B2 := Aside0.mk (below_then B1.out B1.out.size hB)
  have r2 := (hB.block _ (blk_lt R1.out)).trans R1.out
  obtain ⟨p, ep⟩ : ∃ p, w.heap.size = p := ⟨_, rfl⟩
  have EP := Aside0.mk ep
  rw [ep] at r2 B2 ⊢
  have R2 := Aside0.mk r2
  have y0 := (cell_of_row _ _ 0 _ _ _ r2).trans rfl
  have y2 := (cell_of_row _ _ 2 _ _ _ r2).trans rfl
  have y6 := (cell_of_row _ _ 6 _ _ _ r2).trans rfl
  have y7 := (cell_of_row _ _ 7 _ _ _ r2).trans rfl
  have f0 := frozen_of_row _ _ 0 _ _ r2
  clear hB e1 r2 y1 y3 y4 y5 ep ZC
  go_wp2_with fail
  obtain ⟨W3, e3⟩ : ∃ W3, w2.setCell ⟨p, 0, none⟩ (.int .i64 3) = W3 := ⟨_, rfl⟩
  have r3 : W3.heap[p]? = some (.cells #[.int .i64 3, .int .u8 kind, .int .i64 (3 : Int), .int .u8 algo, .int .u64 key, .bool last, .slice As ns cs, .slice Ap np cp] 37 (0, 0)) := e3 ▸ blk_put R2.out 0 _ rfl
  have B3 := Aside0.mk (show Below p w W3 from e3 ▸ ((Tch.refl (fun j => j = p) w2).setCell (p := ⟨p, 0, none⟩) (fun _ => rfl) _).below B2.out (Nat.le_of_lt (blk_lt R2.out)) (fun j q => by omega))
  have PZ := Aside0.mk (show p < W3.heap.size from blk_lt r3)
  rw [e3]
  have R3 := Aside0.mk r3
  clear y0 y2 y6 y7 f0 e3 r3
  refine (siof (3 : Int) false W3).mono ?_
  rw [HI.out]
  rintro en w4 ⟨rfl, hB⟩
  have B4 := Aside0.mk (below_then B3.out (Nat.le_of_lt PZ.out) hB)
  have r4 := (hB.block _ PZ.out).trans R3.out
  have R4 := Aside0.mk r4
  have P4 := Aside0.mk (show p < w4.heap.size from blk_lt r4)
  have y0 := (cell_of_row _ _ 0 _ _ _ r4).trans rfl
  have y2 := (cell_of_row _ _ 2 _ _ _ r4).trans rfl
  have y6 := (cell_of_row _ _ 6 _ _ _ r4).trans rfl
  have f0 := frozen_of_row _ _ 0 _ _ r4
  clear hB r4
  have r6 := R4.out
  have B6B := B4
  clear f0 y0 y2 y6
  have y0 := (cell_of_row _ _ 0 _ _ _ r6).trans rfl
  have y1 := (cell_of_row _ _ 1 _ _ _ r6).trans rfl
  have y2 := (cell_of_row _ _ 2 _ _ _ r6).trans rfl
  have y3 := (cell_of_row _ _ 3 _ _ _ r6).trans rfl
  have y4 := (cell_of_row _ _ 4 _ _ _ r6).trans rfl
  have y5 := (cell_of_row _ _ 5 _ _ _ r6).trans rfl
  have y6 := (cell_of_row _ _ 6 _ _ _ r6).trans rfl
  have y7 := (cell_of_row _ _ 7 _ _ _ r6).trans rfl
  have R6 := Aside0.mk r6
  have P6 := Aside0.mk (show p < w4.heap.size from blk_lt r6)
  clear r6
  go_wp2_with fail
  go_ret
  exact ⟨rfl, by rw [EP.out]; exact B6B.out⟩
end Go.Proofs.YtjdnnpfhlkgooaaDoor.Rd

/- The law FnWriteOnePass: WlD. -/
set_option linter.unusedVariables false
set_option linter.unusedSimpArgs false
namespace Go.Proofs.YtjdnnpfhlkgooaaDoor.Rd
open Go.RowKit Go.Proofs.YtjdnnpfhlkgooaaDoorW.PrintWords Go.Proofs.YtjdnnpfhlkgooaaDoorW.PrintMore Go.Proofs.YtjdnnpfhlkgooaaDoor.Kit Go.Proofs.YtjdnnpfhlkgooaaDoor.Hash
open Go.Proofs.YtjdnnpfhlkgooaaDoor Go.Proofs.YtjdnnpfhlkgooaaDoor.PFnWriteOnePass

set_option maxHeartbeats 3200000 in
set_option maxRecDepth 100000 in
theorem wl_six_no {w : World} {ver kind hash algo key : Int} {last : Bool} {As Ap : Option Addr} {cs cp ns np : Nat} {S P : List Int} {id : Int} (hS : C8 w As S) (cS : S.length ≤ cs) (eS : ns = S.length) (hP : C8 w Ap P) (cP : P.length ≤ cp) (eP : np = P.length) (hf : laws_zzFits7.f ver kind hash algo key last S P = some true) (l32 : np = 32) (l255 : ns ≤ 255) (k0 : 0 ≤ kind ∧ kind ≤ 255) (a0 : 0 ≤ algo ∧ algo ≤ 255) (wS : ∀ x ∈ S, 0 ≤ x ∧ x ≤ 255) (wP : ∀ x ∈ P, 0 ≤ x ∧ x ≤ 255) (hi : iOf hash false = (0, false)) (hi2 : iOf hash true = (0, false)) (h3 : hash ≠ 3) (z0 : -9223372036854775808 ≤ hash) (z1 : hash ≤ 9223372036854775807) (htab : Lib.TabBelow Tryd.prog w.heap.size w "internal/strconv.uint64pow10" .u64 Lib.pow10Tab) {aE aU : Addr} (hE : Env w w.heap.size aE aU) : Calls Tryd.prog 4 #[.agg #[.int .i64 ver, .int .u8 kind, .int .i64 hash, .int .u8 algo, .int .u64 key, .bool last, .slice As ns cs, .slice Ap np cp], .bool true] w fun e w' => e = .returned (.bool true) ∧ Below w.heap.size w w' := by
  obtain ⟨W1, e1, r1, b1⟩ : ∃ W, w.alloc (.cells #[.int .i64 ver, .int .u8 kind, .int .i64 hash, .int .u8 algo, .int .u64 key, .bool last, .slice As ns cs, .slice Ap np cp] 37) = W ∧ W.heap[w.heap.size]? = some (.cells #[.int .i64 ver, .int .u8 kind, .int .i64 hash, .int .u8 algo, .int .u64 key, .bool last, .slice As ns cs, .slice Ap np cp] 37 (0, 0)) ∧ Below w.heap.size w W := ⟨_, rfl, heap_alloc_new _ _, below_alloc (Below.refl _ _) _⟩
  have ZC := laws_zzFits7.calls ver kind hash algo key last As cs S Ap cp P true W1 (Kd.C_below hS b1) cS (Kd.C_below hP b1) cP hf
  rw [← eS, ← eP] at ZC
  have ZC := Aside0.mk ZC
  have c1 : ∀ i u, #[.int .i64 ver, .int .u8 kind, .int .i64 hash, .int .u8 algo, .int .u64 key, .bool last, .slice As ns cs, .slice Ap np cp][i]? = some u → W1.cell? ⟨w.heap.size, i, none⟩ = some u := fun i u hu => by
    have q := cell_of_row _ _ i _ _ _ r1
    rw [hu] at q
    exact q
  have y0 := c1 0 _ rfl
  have y1 := c1 1 _ rfl
  have y2 := c1 2 _ rfl
  have y3 := c1 3 _ rfl
  have y4 := c1 4 _ rfl
  have y5 := c1 5 _ rfl
  have y6 := c1 6 _ rfl
  have y7 := c1 7 _ rfl
  have R1 := Aside0.mk r1
  have B1 := Aside0.mk b1
  have SP := Aside0.mk (And.intro hS (And.intro cS (And.intro eS (And.intro hP (And.intro cP eP)))))
  have RG := Aside0.mk (And.intro k0 (And.intro a0 (And.intro wS (And.intro wP (And.intro l32 l255)))))
  have HI := Aside0.mk hi
  clear hS cS eS hP cP eP hf r1 b1 c1 k0 a0 wS wP hi
  have HI2 := Aside0.mk hi2
  have HN := Aside0.mk (And.intro z0 (And.intro z1 (And.intro htab hE)))
  have n3 : ¬ hash = 3 := h3
  clear hi2 h3 z0 z1 htab hE
  have q32 : (np : Int) = 32 := by omega
  have q255 : ¬ (255 : Int) < (ns : Int) := by omega
  clear l32 l255
  go_enter Tryd.func4, Tryd.ntmps4
  go_wp2_with fail
  refine ZC.out.mono ?_
  rintro en w2 ⟨rfl, hB⟩
  have B2 := Aside0.mk (below_then B1.out B1.out.size hB)
  have r2 := (hB.block _ (blk_lt R1.out)).trans R1.out
  obtain ⟨p, ep⟩ : ∃ p, w.heap.size = p := ⟨_, rfl⟩
  have EP := Aside0.mk ep
  rw [ep] at r2 B2 ⊢
  have R2 := Aside0.mk r2
  have y0 := (cell_of_row _ _ 0 _ _ _ r2).trans rfl
  have y2 := (cell_of_row _ _ 2 _ _ _ r2).trans rfl
  have y6 := (cell_of_row _ _ 6 _ _ _ r2).trans rfl
  have y7 := (cell_of_row _ _ 7 _ _ _ r2).trans rfl
  have f0 := frozen_of_row _ _ 0 _ _ r2
  clear hB e1 r2 y1 y3 y4 y5 ep ZC
  go_wp2_with fail
  obtain ⟨W3, e3⟩ : ∃ W3, w2.setCell ⟨p, 0, none⟩ (.int .i64 3) = W3 := ⟨_, rfl⟩
  have r3 : W3.heap[p]? = some (.cells #[.int .i64 3, .int .u8 kind, .int .i64 hash, .int .u8 algo, .int .u64 key, .bool last, .slice As ns cs, .slice Ap np cp] 37 (0, 0)) := e3 ▸ blk_put R2.out 0 _ rfl
  have B3 := Aside0.mk (show Below p w W3 from e3 ▸ ((Tch.refl (fun j => j = p) w2).setCell (p := ⟨p, 0, none⟩) (fun _ => rfl) _).below B2.out (Nat.le_of_lt (blk_lt R2.out)) (fun j q => by omega))
  have PZ := Aside0.mk (show p < W3.heap.size from blk_lt r3)
  rw [e3]
  have R3 := Aside0.mk r3
  clear y0 y2 y6 y7 f0 e3 r3
  refine (siof hash false W3).mono ?_
  rw [HI.out]
  rintro en w4 ⟨rfl, hB⟩
  have B4 := Aside0.mk (below_then B3.out (Nat.le_of_lt PZ.out) hB)
  have r4 := (hB.block _ PZ.out).trans R3.out
  have R4 := Aside0.mk r4
  have P4 := Aside0.mk (show p < w4.heap.size from blk_lt r4)
  have y0 := (cell_of_row _ _ 0 _ _ _ r4).trans rfl
  have y2 := (cell_of_row _ _ 2 _ _ _ r4).trans rfl
  have y6 := (cell_of_row _ _ 6 _ _ _ r4).trans rfl
  have f0 := frozen_of_row _ _ 0 _ _ r4
  clear hB r4
  go_upto_region 9 with (fail)
  obtain ⟨W5, e5⟩ : ∃ W5, w4.setCell ⟨p, 0, none⟩ (.int .i64 6) = W5 := ⟨_, rfl⟩
  have r5 : W5.heap[p]? = some (.cells #[.int .i64 6, .int .u8 kind, .int .i64 hash, .int .u8 algo, .int .u64 key, .bool last, .slice As ns cs, .slice Ap np cp] 37 (0, 0)) := e5 ▸ blk_put R4.out 0 _ rfl
  have B5 := Aside0.mk (show Below p w W5 from e5 ▸ ((Tch.refl (fun j => j = p) w4).setCell (p := ⟨p, 0, none⟩) (fun _ => rfl) _).below B4.out (Nat.le_of_lt P4.out) (fun j q => by omega))
  rw [e5]
  have R5 := Aside0.mk r5
  have P5 := Aside0.mk (show p < W5.heap.size from blk_lt r5)
  clear y0 y2 y6 f0 e5
  have y2 := (cell_of_row _ _ 2 _ _ _ r5).trans rfl
  have y6 := (cell_of_row _ _ 6 _ _ _ r5).trans rfl
  clear r5
  go_quiet (fail)
  generalize eW6 : W5.drewN _ = w6
  have b6 : Below W5.heap.size W5 w6 := eW6 ▸ pw_below_drewN (Below.refl _ _) _
  have r6 := (b6.block _ P5.out).trans R5.out
  have B6B := Aside0.mk (below_then B5.out (Nat.le_of_lt P5.out) b6)
  clear y2 y6 eW6 b6
  have y0 := (cell_of_row _ _ 0 _ _ _ r6).trans rfl
  have y1 := (cell_of_row _ _ 1 _ _ _ r6).trans rfl
  have y2 := (cell_of_row _ _ 2 _ _ _ r6).trans rfl
  have y3 := (cell_of_row _ _ 3 _ _ _ r6).trans rfl
  have y4 := (cell_of_row _ _ 4 _ _ _ r6).trans rfl
  have y5 := (cell_of_row _ _ 5 _ _ _ r6).trans rfl
  have y6 := (cell_of_row _ _ 6 _ _ _ r6).trans rfl
  have y7 := (cell_of_row _ _ 7 _ _ _ r6).trans rfl
  have R6 := Aside0.mk r6
  have P6 := Aside0.mk (show p < w6.heap.size from blk_lt r6)
  clear r6
  go_wp2_with fail
  have hq : IntKind.u64.wrap hash = hash % 18446744073709551616 := by simp [IntKind.wrap, IntKind.bits, IntKind.signed]
  have hz : IntKind.i64.wrap (hash % 18446744073709551616) = hash := by rw [IntKind.wrap_i64]; have := HN.out.1; have := HN.out.2.1; omega
  have BB : Below w.heap.size w w6 := by rw [EP.out]; exact B6B.out
  have WC := Aside0.mk (won6 (w := w6) (kind := kind) (hash := hash % 18446744073709551616) (hh := hash) (algo := algo) (key := key) (last := last) (As := As) (Ap := Ap) (ns := ns) (cs := cs) (np := np) (cp := cp) (by rw [iOf_wrap hash true HN.out.1 HN.out.2.1]; exact HI2.out) hq hz HN.out.1 HN.out.2.1 (fun w' h => HN.out.2.2.1 w' (BB.trans (h.mono BB.size))) RG.out.2.2.2.2.2 (env_c HN.out.2.2.2 BB))
  clear hq hz BB
  refine WC.out.mono ?_
  rintro en w7 ⟨vv, rfl, ⟨A7, n7, c7, rfl⟩, hB⟩
  have B7 := Aside0.mk (below_then B6B.out (Nat.le_of_lt P6.out) hB)
  clear hB y0 y1 y2 y3 y4 y5 y6 y7
  go_wp2_with fail
  go_ret
  exact ⟨rfl, by rw [EP.out]; exact B7.out⟩
set_option maxHeartbeats 3200000 in
set_option maxRecDepth 100000 in
theorem wl_six_sha {w : World} {ver kind algo key : Int} {last : Bool} {As Ap : Option Addr} {cs cp ns np : Nat} {S P : List Int} {id : Int} (hS : C8 w As S) (cS : S.length ≤ cs) (eS : ns = S.length) (hP : C8 w Ap P) (cP : P.length ≤ cp) (eP : np = P.length) (hf : laws_zzFits7.f ver kind (3 : Int) algo key last S P = some true) (l32 : np = 32) (l255 : ns ≤ 255) (k0 : 0 ≤ kind ∧ kind ≤ 255) (a0 : 0 ≤ algo ∧ algo ≤ 255) (wS : ∀ x ∈ S, 0 ≤ x ∧ x ≤ 255) (wP : ∀ x ∈ P, 0 ≤ x ∧ x ≤ 255) (hi : iOf (3 : Int) false = (0, false)) : Calls Tryd.prog 4 #[.agg #[.int .i64 ver, .int .u8 kind, .int .i64 (3 : Int), .int .u8 algo, .int .u64 key, .bool last, .slice As ns cs, .slice Ap np cp], .bool true] w fun e w' => e = .returned (.bool true) ∧ Below w.heap.size w w' := by
  obtain ⟨W1, e1, r1, b1⟩ : ∃ W, w.alloc (.cells #[.int .i64 ver, .int .u8 kind, .int .i64 (3 : Int), .int .u8 algo, .int .u64 key, .bool last, .slice As ns cs, .slice Ap np cp] 37) = W ∧ W.heap[w.heap.size]? = some (.cells #[.int .i64 ver, .int .u8 kind, .int .i64 (3 : Int), .int .u8 algo, .int .u64 key, .bool last, .slice As ns cs, .slice Ap np cp] 37 (0, 0)) ∧ Below w.heap.size w W := ⟨_, rfl, heap_alloc_new _ _, below_alloc (Below.refl _ _) _⟩
  have ZC := laws_zzFits7.calls ver kind (3 : Int) algo key last As cs S Ap cp P true W1 (Kd.C_below hS b1) cS (Kd.C_below hP b1) cP hf
  rw [← eS, ← eP] at ZC
  have ZC := Aside0.mk ZC
  have c1 : ∀ i u, #[.int .i64 ver, .int .u8 kind, .int .i64 (3 : Int), .int .u8 algo, .int .u64 key, .bool last, .slice As ns cs, .slice Ap np cp][i]? = some u → W1.cell? ⟨w.heap.size, i, none⟩ = some u := fun i u hu => by
    have q := cell_of_row _ _ i _ _ _ r1
    rw [hu] at q
    exact q
  have y0 := c1 0 _ rfl
  have y1 := c1 1 _ rfl
  have y2 := c1 2 _ rfl
  have y3 := c1 3 _ rfl
  have y4 := c1 4 _ rfl
  have y5 := c1 5 _ rfl
  have y6 := c1 6 _ rfl
  have y7 := c1 7 _ rfl
  have R1 := Aside0.mk r1
  have B1 := Aside0.mk b1
  have SP := Aside0.mk (And.intro hS (And.intro cS (And.intro eS (And.intro hP (And.intro cP eP)))))
  have RG := Aside0.mk (And.intro k0 (And.intro a0 (And.intro wS (And.intro wP (And.intro l32 l255)))))
  have HI := Aside0.mk hi
  clear hS cS eS hP cP eP hf r1 b1 c1 k0 a0 wS wP hi
  have q32 : (np : Int) = 32 := by omega
  have q255 : ¬ (255 : Int) < (ns : Int) := by omega
  clear l32 l255
  go_enter Tryd.func4, Tryd.ntmps4
  go_wp2_with fail
  refine ZC.out.mono ?_
  rintro en w2 ⟨rfl, hB⟩
  have B2 := Aside0.mk (below_then B1.out B1.out.size hB)
  have r2 := (hB.block _ (blk_lt R1.out)).trans R1.out
  obtain ⟨p, ep⟩ : ∃ p, w.heap.size = p := ⟨_, rfl⟩
  have EP := Aside0.mk ep
  rw [ep] at r2 B2 ⊢
  have R2 := Aside0.mk r2
  have y0 := (cell_of_row _ _ 0 _ _ _ r2).trans rfl
  have y2 := (cell_of_row _ _ 2 _ _ _ r2).trans rfl
  have y6 := (cell_of_row _ _ 6 _ _ _ r2).trans rfl
  have y7 := (cell_of_row _ _ 7 _ _ _ r2).trans rfl
  have f0 := frozen_of_row _ _ 0 _ _ r2
  clear hB e1 r2 y1 y3 y4 y5 ep ZC
  go_wp2_with fail
  obtain ⟨W3, e3⟩ : ∃ W3, w2.setCell ⟨p, 0, none⟩ (.int .i64 3) = W3 := ⟨_, rfl⟩
  have r3 : W3.heap[p]? = some (.cells #[.int .i64 3, .int .u8 kind, .int .i64 (3 : Int), .int .u8 algo, .int .u64 key, .bool last, .slice As ns cs, .slice Ap np cp] 37 (0, 0)) := e3 ▸ blk_put R2.out 0 _ rfl
  have B3 := Aside0.mk (show Below p w W3 from e3 ▸ ((Tch.refl (fun j => j = p) w2).setCell (p := ⟨p, 0, none⟩) (fun _ => rfl) _).below B2.out (Nat.le_of_lt (blk_lt R2.out)) (fun j q => by omega))
  have PZ := Aside0.mk (show p < W3.heap.size from blk_lt r3)
  rw [e3]
  have R3 := Aside0.mk r3
  clear y0 y2 y6 y7 f0 e3 r3
  refine (siof (3 : Int) false W3).mono ?_
  rw [HI.out]
  rintro en w4 ⟨rfl, hB⟩
  have B4 := Aside0.mk (below_then B3.out (Nat.le_of_lt PZ.out) hB)
  have r4 := (hB.block _ PZ.out).trans R3.out
  have R4 := Aside0.mk r4
  have P4 := Aside0.mk (show p < w4.heap.size from blk_lt r4)
  have y0 := (cell_of_row _ _ 0 _ _ _ r4).trans rfl
  have y2 := (cell_of_row _ _ 2 _ _ _ r4).trans rfl
  have y6 := (cell_of_row _ _ 6 _ _ _ r4).trans rfl
  have f0 := frozen_of_row _ _ 0 _ _ r4
  clear hB r4
  go_upto_region 9 with (fail)
  obtain ⟨W5, e5⟩ : ∃ W5, w4.setCell ⟨p, 0, none⟩ (.int .i64 6) = W5 := ⟨_, rfl⟩
  have r5 : W5.heap[p]? = some (.cells #[.int .i64 6, .int .u8 kind, .int .i64 (3 : Int), .int .u8 algo, .int .u64 key, .bool last, .slice As ns cs, .slice Ap np cp] 37 (0, 0)) := e5 ▸ blk_put R4.out 0 _ rfl
  have B5 := Aside0.mk (show Below p w W5 from e5 ▸ ((Tch.refl (fun j => j = p) w4).setCell (p := ⟨p, 0, none⟩) (fun _ => rfl) _).below B4.out (Nat.le_of_lt P4.out) (fun j q => by omega))
  rw [e5]
  have R5 := Aside0.mk r5
  have P5 := Aside0.mk (show p < W5.heap.size from blk_lt r5)
  clear y0 y2 y6 f0 e5
  have y2 := (cell_of_row _ _ 2 _ _ _ r5).trans rfl
  have y6 := (cell_of_row _ _ 6 _ _ _ r5).trans rfl
  clear r5
  go_quiet (fail)
  generalize eW6 : W5.drewN _ = w6
  have b6 : Below W5.heap.size W5 w6 := eW6 ▸ pw_below_drewN (Below.refl _ _) _
  have r6 := (b6.block _ P5.out).trans R5.out
  have B6B := Aside0.mk (below_then B5.out (Nat.le_of_lt P5.out) b6)
  clear y2 y6 eW6 b6
  have y0 := (cell_of_row _ _ 0 _ _ _ r6).trans rfl
  have y1 := (cell_of_row _ _ 1 _ _ _ r6).trans rfl
  have y2 := (cell_of_row _ _ 2 _ _ _ r6).trans rfl
  have y3 := (cell_of_row _ _ 3 _ _ _ r6).trans rfl
  have y4 := (cell_of_row _ _ 4 _ _ _ r6).trans rfl
  have y5 := (cell_of_row _ _ 5 _ _ _ r6).trans rfl
  have y6 := (cell_of_row _ _ 6 _ _ _ r6).trans rfl
  have y7 := (cell_of_row _ _ 7 _ _ _ r6).trans rfl
  have R6 := Aside0.mk r6
  have P6 := Aside0.mk (show p < w6.heap.size from blk_lt r6)
  clear r6
  go_wp2_with fail
  go_ret
  exact ⟨rfl, by rw [EP.out]; exact B6B.out⟩
end Go.Proofs.YtjdnnpfhlkgooaaDoor.Rd

/- The law FnWriteOnePass, joined. -/
set_option linter.unusedVariables false
set_option linter.unusedSimpArgs false
namespace Go.Proofs.YtjdnnpfhlkgooaaDoor.Rd
open Go.RowKit Go.Proofs.YtjdnnpfhlkgooaaDoorW.PrintWords Go.Proofs.YtjdnnpfhlkgooaaDoorW.PrintMore Go.Proofs.YtjdnnpfhlkgooaaDoor.Kit Go.Proofs.YtjdnnpfhlkgooaaDoor.Hash
open Go.Proofs.YtjdnnpfhlkgooaaDoor Go.Proofs.YtjdnnpfhlkgooaaDoor.PFnWriteOnePass

theorem fits_all (a b c d e : Int) (f : Bool) (S P : List Int) : laws_zzFits7.f a b c d e f S P = some (decide (S.length ≤ 2147483647 ∧ P.length ≤ 2147483647)) := by
  unfold laws_zzFits7.f
  by_cases h1 : (S.length : Int) > 2147483647
  · rw [if_pos h1, decide_eq_false (by omega)]
  · by_cases h2 : (P.length : Int) > 2147483647
    · rw [if_neg h1, if_pos h2, decide_eq_false (by omega)]
    · rw [if_neg h1, if_neg h2, decide_eq_true (by omega)]
theorem wf_i64r {n : Int} (h : (Lit.int .i64 n).wf = true) : -9223372036854775808 ≤ n ∧ n ≤ 9223372036854775807 := by
  simp [Lit.wf, IntKind.min, IntKind.max, IntKind.signed, IntKind.bits] at h
  omega
theorem wf_u8r {n : Int} (h : (Lit.int .u8 n).wf = true) : 0 ≤ n ∧ n ≤ 255 := by
  simp [Lit.wf, IntKind.min, IntKind.max, IntKind.signed, IntKind.bits] at h
  omega
theorem law_wop (ver kind hash algo key : Int) (last : Bool) (As : Option Addr) (cs : Nat) (S : List Int) (Ap : Option Addr) (cp : Nat) (P : List Int) (six : Bool) (w : World) (h1 : (Lit.int .i64 ver).wf = true) (h2 : (Lit.int .u8 kind).wf = true) (h3 : (Lit.int .i64 hash).wf = true) (h4 : (Lit.int .u8 algo).wf = true) (h5 : (Lit.int .u64 key).wf = true) (hS : C8 w As S) (cS : S.length ≤ cs) (mS : S.length ≤ maxLen) (wS : ∀ x ∈ S, (Lit.int .u8 x).wf = true) (hP : C8 w Ap P) (cP : P.length ≤ cp) (mP : P.length ≤ maxLen) (wP : ∀ x ∈ P, (Lit.int .u8 x).wf = true) {aE aU : Addr} (hE : Env w w.heap.size aE aU) (hT : Lib.TabBelow Tryd.prog w.heap.size w "internal/strconv.uint64pow10" .u64 Lib.pow10Tab) :
    Calls Tryd.prog 4 #[.agg #[.int .i64 ver, .int .u8 kind, .int .i64 hash, .int .u8 algo, .int .u64 key, .bool last, .slice As S.length cs, .slice Ap P.length cp], .bool six] w fun e w' => e = .returned (.bool true) ∧ Below w.heap.size w w' := by
  have hf := fits_all ver kind hash algo key last S P
  by_cases hb : S.length ≤ 2147483647 ∧ P.length ≤ 2147483647
  rotate_left
  · rw [decide_eq_false hb] at hf
    exact wl_big hS cS rfl hP cP rfl hf
  rw [decide_eq_true hb] at hf
  by_cases l32 : P.length = 32
  rotate_left
  · exact wl_len hS cS rfl hP cP rfl hf (.inl (by omega))
  by_cases l255 : S.length ≤ 255
  rotate_left
  · exact wl_len hS cS rfl hP cP rfl hf (.inr ⟨by omega, by omega⟩)
  have k0 := wf_u8r h2
  have a0 := wf_u8r h4
  have z0 := wf_i64r h3
  have bS : ∀ x ∈ S, 0 ≤ x ∧ x ≤ 255 := fun x hx => wf_u8r (wS x hx)
  have bP : ∀ x ∈ P, 0 ≤ x ∧ x ≤ 255 := fun x hx => wf_u8r (wP x hx)
  rcases iof_tot hash with ⟨id, i1, i2, q1, q2, i0⟩ | ⟨e3, i1⟩ | ⟨n3, i1, i2⟩
  · cases six
    · exact wl_three_is hS cS rfl hP cP rfl hf l32 l255 k0 a0 bS bP i1 i2 q1 q2 i0
    · exact wl_six_is hS cS rfl hP cP rfl hf l32 l255 k0 a0 bS bP i1 i2 q1 q2 i0
  · subst e3
    cases six
    · exact wl_three_sha (id := 0) hS cS rfl hP cP rfl hf l32 l255 k0 a0 bS bP i1
    · exact wl_six_sha (id := 0) hS cS rfl hP cP rfl hf l32 l255 k0 a0 bS bP i1
  · cases six
    · exact wl_three_no (id := 0) hS cS rfl hP cP rfl hf l32 l255 k0 a0 bS bP i1 i2 n3 z0.1 z0.2 hT hE
    · exact wl_six_no (id := 0) hS cS rfl hP cP rfl hf l32 l255 k0 a0 bS bP i1 i2 n3 z0.1 z0.2 hT hE
end Go.Proofs.YtjdnnpfhlkgooaaDoor.Rd

/- Structs of many one-cell fields by value, opened. -/
set_option linter.unusedVariables false
set_option linter.unusedSimpArgs false
namespace Go.Proofs.YtjdnnpfhlkgooaaDoor.Kit
open Go.RowKit Go.Proofs Go.Deep Go.ChangeShapes Go.WideShapes Go.WideElems Go.Joins
section
variable {H : Type} {enc : TypeId × Value → H} {P : Program} {w : World} {base : Nat} {spare : Nat → Bool} {held : Bool}
theorem array8 {α : Type} {cs : Array α} (h : cs.size = 8) : ∃ c0 c1 c2 c3 c4 c5 c6 c7, cs = #[c0, c1, c2, c3, c4, c5, c6, c7] := by
  obtain ⟨l⟩ := cs
  match l, h with
  | [c0, c1, c2, c3, c4, c5, c6, c7], _ => exact ⟨c0, c1, c2, c3, c4, c5, c6, c7, rfl⟩
theorem list8 {α : Type} {f0 f1 f2 f3 f4 f5 f6 f7 : Field} {l : List α} (h : l.length = (#[f0, f1, f2, f3, f4, f5, f6, f7] : Array Field).size) : ∃ c0 c1 c2 c3 c4 c5 c6 c7, l = [c0, c1, c2, c3, c4, c5, c6, c7] := by
  match l, h with
  | [c0, c1, c2, c3, c4, c5, c6, c7], _ => exact ⟨c0, c1, c2, c3, c4, c5, c6, c7, rfl⟩
theorem open_agg8 {r : Reach} {b0 : Nat} {t : TypeId} {f0 f1 f2 f3 f4 f5 f6 f7 : Field} {v : Value} {d : DataW H} {p : List MemPlace} (hs : P.underlying t = some (.struct #[f0, f1, f2, f3, f4, f5, f6, f7])) (hone : oneCellFields P #[f0, f1, f2, f3, f4, f5, f6, f7] = true) (hC : P.cellsOf t = 8)
    (hv : Value.okWide P w r b0 t v) (h : DataW.Trod enc P w base spare held t v d p) :
    ∃ (v0 v1 v2 v3 v4 v5 v6 v7 : Value) (y0 y1 y2 y3 y4 y5 y6 y7 : DataW H × List MemPlace) (n : Nat), v = .agg #[v0, v1, v2, v3, v4, v5, v6, v7] ∧ d = .agg [y0.1, y1.1, y2.1, y3.1, y4.1, y5.1, y6.1, y7.1] ∧ p = y0.2 ++ (y1.2 ++ (y2.2 ++ (y3.2 ++ (y4.2 ++ (y5.2 ++ (y6.2 ++ (y7.2))))))) ∧
      DataW.trod enc P w base spare held n f0.type [v0] = some y0 ∧ DataW.trod enc P w base spare held n f1.type [v1] = some y1 ∧ DataW.trod enc P w base spare held n f2.type [v2] = some y2 ∧ DataW.trod enc P w base spare held n f3.type [v3] = some y3 ∧ DataW.trod enc P w base spare held n f4.type [v4] = some y4 ∧ DataW.trod enc P w base spare held n f5.type [v5] = some y5 ∧ DataW.trod enc P w base spare held n f6.type [v6] = some y6 ∧ DataW.trod enc P w base spare held n f7.type [v7] = some y7 := by
  obtain ⟨cs, rfl, hsz⟩ := okWide_struct hs hv
  obtain ⟨c0, c1, c2, c3, c4, c5, c6, c7, rfl⟩ := array8 (hsz.trans hC)
  obtain ⟨fuel, hf⟩ := h
  obtain ⟨xs, n, _, hx, hl, hlen, hff⟩ := DataW.trod_struct hs hf
  obtain ⟨y0, y1, y2, y3, y4, y5, y6, y7, rfl⟩ := list8 hlen
  obtain ⟨o0, k0⟩ := hone_of hone 0 f0 rfl
  have q0 := hff 0 f0 rfl
  rw [o0, k0] at q0
  obtain ⟨o1, k1⟩ := hone_of hone 1 f1 rfl
  have q1 := hff 1 f1 rfl
  rw [o1, k1] at q1
  obtain ⟨o2, k2⟩ := hone_of hone 2 f2 rfl
  have q2 := hff 2 f2 rfl
  rw [o2, k2] at q2
  obtain ⟨o3, k3⟩ := hone_of hone 3 f3 rfl
  have q3 := hff 3 f3 rfl
  rw [o3, k3] at q3
  obtain ⟨o4, k4⟩ := hone_of hone 4 f4 rfl
  have q4 := hff 4 f4 rfl
  rw [o4, k4] at q4
  obtain ⟨o5, k5⟩ := hone_of hone 5 f5 rfl
  have q5 := hff 5 f5 rfl
  rw [o5, k5] at q5
  obtain ⟨o6, k6⟩ := hone_of hone 6 f6 rfl
  have q6 := hff 6 f6 rfl
  rw [o6, k6] at q6
  obtain ⟨o7, k7⟩ := hone_of hone 7 f7 rfl
  have q7 := hff 7 f7 rfl
  rw [o7, k7] at q7
  simp only [Prod.mk.injEq] at hx
  exact ⟨c0, c1, c2, c3, c4, c5, c6, c7, y0, y1, y2, y3, y4, y5, y6, y7, n, rfl, hx.1, by simpa using hx.2, q0, q1, q2, q3, q4, q5, q6, q7⟩
end
end Go.Proofs.YtjdnnpfhlkgooaaDoor.Kit

/- What the listed errors of package io give the walks. -/
set_option linter.unusedVariables false
set_option linter.unusedSimpArgs false
namespace Go.Proofs.YtjdnnpfhlkgooaaDoor.Rd
open Go.ChangeShapes Go.RowKit Go.Proofs.YtjdnnpfhlkgooaaDoorW.PrintWords Go.Proofs.YtjdnnpfhlkgooaaDoorW.PrintMore Go.Proofs.YtjdnnpfhlkgooaaDoor.Kit

theorem star : "*" ++ "errors.errorString" = "*errors.errorString" := by decide
theorem rowP (u : TypeId) (h : Tryd.prog.typeName? 3 u = some "*errors.errorString") : u = 209 :=
  typeName_ptr_named (nm := "errors.errorString") (by rw [star]; kernel_rfl) (by kernel_rfl) (by decide) u (by rw [star]; exact h)
/-- A listed error, of whatever program: its variable, the text behind its pointer, the block of that. -/
theorem sent_gen {P : Program} {n nm : String} {text : List UInt8} {r : List (String × DataW Unit)} {W : World} {g : Nat} {ti tp te ts : TypeId} {ms : Array (String × TypeId)} {f : Field}
    (h : laidMet P ((n, .iface nm (.ptr (.agg [.lit (.string text)]))) :: r) W)
    (hg : P.globalNamed n = some g) (ht : (P.globals[g]?).map (·.type) = some ti) (hi : P.underlying ti = some (.interface ms)) (hrow : ∀ u, P.typeName? 3 u = some nm → u = tp)
    (hp : P.underlying tp = some (.pointer te)) (he : P.underlying te = some (.struct #[f])) (hft : f.type = ts) (hfo : f.offset = 0) (hs : P.underlying ts = some .string) (hc : P.cellsOf te = 1) (hcs : P.cellsOf ts = 1) :
    ∃ (a : Addr) (s : ByteArray), W.cell? ⟨g, 0, none⟩ = some (.iface tp (.pointer (some a))) ∧ W.cell? a = some (.string s) ∧ s.data.toList = text ∧ ∃ c t, W.heap[a.block]? = some (.cells c t (0, 0)) := by
  obtain ⟨ps, ⟨g0, t0, cs0, f0, p0, q0, hg0, ht0, hv0, hd0, _, e0⟩, _, hrows⟩ := h
  obtain rfl := Option.some.inj (hg.symm.trans hg0)
  obtain rfl := Option.some.inj (ht.symm.trans ht0)
  subst e0
  obtain ⟨l0⟩ := cs0
  have ok0 : ∀ u v, l0 = [.iface u v] → Value.okWide P W .any 0 u v := fun u v e => by
    subst e
    exact (hrows g 0 (by simp [MemPlace.row])).2 u v (by simpa using World.var?_cell hg0 hv0 0)
  obtain ⟨a0, s0, rfl, hc0, hs0, hz0, hq⟩ := errorString_of_trod hi hrow hp he hft hfo hs hc hcs hd0 ok0
  refine ⟨a0, s0, by simpa using World.var?_cell hg0 hv0 0, hc0, hs0, (hrows a0.block a0.off ?_).1⟩
  rw [hq]
  exact List.mem_append_left _ (List.mem_append_right _ (by simp [MemPlace.row]))
theorem c1 : Tryd.prog.cellsOf 236 = 1 := by kernel_rfl
theorem c2 : Tryd.prog.cellsOf 9 = 1 := by kernel_rfl
theorem sent_of {n : String} {text : List UInt8} {r : List (String × DataW Unit)} {W : World} {g : Nat}
    (h : laidMet Tryd.prog ((n, .iface "*errors.errorString" (.ptr (.agg [.lit (.string text)]))) :: r) W)
    (hg : Tryd.prog.globalNamed n = some g) (ht : (Tryd.prog.globals[g]?).map (·.type) = some 85) :
    ∃ (a : Addr) (s : ByteArray), W.cell? ⟨g, 0, none⟩ = some (.iface 209 (.pointer (some a))) ∧ W.cell? a = some (.string s) ∧ s.data.toList = text ∧ ∃ c t, W.heap[a.block]? = some (.cells c t (0, 0)) :=
  sent_gen h hg ht Tryd.underlying85 rowP Tryd.underlying209 Tryd.underlying236 rfl rfl Tryd.underlying9 c1 c2
theorem env_of {W : World} (h : laidMet Tryd.prog [("io.EOF", Rows.laid_io_EOF), ("io.ErrUnexpectedEOF", Rows.laid_io_ErrUnexpectedEOF)] W) : ∃ aE aU, Env W W.heap.size aE aU := by
  obtain ⟨aE, sE, vE, cE, tE, hE⟩ := sent_of h (g := 0) (by kernel_rfl) (by kernel_rfl)
  obtain ⟨aU, sU, vU, cU, tU, hU⟩ := sent_of h.tail (g := 1) (by kernel_rfl) (by kernel_rfl)
  exact ⟨aE, aU, {
    e := vE
    u := vU
    ne := fun q => by
      subst q
      have := Option.some.inj (cE.symm.trans cU)
      simp only [Value.string.injEq] at this
      subst this
      rw [tE] at tU
      exact absurd tU (by decide)
    he := hE
    hu := hU
    de := World.block_lt_of_cell? W _ cE
    du := World.block_lt_of_cell? W _ cU
    ge := World.block_lt_of_cell? W _ vE
    gu := World.block_lt_of_cell? W _ vU }⟩
end Go.Proofs.YtjdnnpfhlkgooaaDoor.Rd
