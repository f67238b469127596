/- impl.ReadMpi, the fine case. -/
import Derived.Test.YtfhefoaieefnkaaDoorMpi
set_option linter.unusedVariables false
set_option linter.unusedSimpArgs false
namespace Go.Proofs.YtfhefoaieefnkaaDoor.Rd
open Go.RowKit Go.Proofs.YtfhefoaieefnkaaDoorW.PrintWords Go.Proofs.YtfhefoaieefnkaaDoorW.PrintMore Go.Proofs.YtfhefoaieefnkaaDoor.Kit

theorem env_at {w W : World} {aE aU : Addr} (h : Aside0 (Env w w.heap.size aE aU)) (hB : Below w.heap.size w W) : Aside0 (Env W W.heap.size aE aU) := ⟨(h.out.kept (Tch.of_below (S := fun _ => False) hB) (fun _ f => f.elim)).up hB.size⟩
set_option maxHeartbeats 1600000 in
set_option maxRecDepth 100000 in
theorem rmi_ok {w : World} {A : Option Addr} {c : Nat} {split : Int} {aE aU : Addr} {a0 a1 bn m n : Nat} {t : List Int} (hr : C8 w A ((a0 : Int) :: (a1 : Int) :: t)) (hc : ((a0 : Int) :: (a1 : Int) :: t).length ≤ c) (hn : n = ((a0 : Int) :: (a1 : Int) :: t).length) (hb : Bytes ((a0 : Int) :: (a1 : Int) :: t)) (hE : Env w w.heap.size aE aU) (ha0 : a0 < 256) (ha1 : a1 < 256) (hbn : bn = a0 * 256 + a1) (hm : m = (bn + 7) / 8) (ht : m ≤ t.length) :
    Calls Tryd.prog 21 #[.slice A n c, .int .i64 split] w fun en w' => ∃ A1 c1 A2 c2, en = .returned (.tuple #[.agg #[.slice A1 m c1, .int .i64 (bn : Int), .slice A2 (m + 2) c2, .int .i64 (2 + (m : Int))], .int .i64 (2 + (m : Int)), .int .i64 0]) ∧ R8 5 w' w.heap.size (.slice A1 m c1) (t.take m) ∧ R8 5 w' w.heap.size (.slice A2 (m + 2) c2) (((bn : Int) / 256) :: ((bn : Int) % 256) :: t.take m) ∧ Below w.heap.size w w' := by
  have hB1 : Below w.heap.size w (w.alloc (.cells #[.slice none 0 0, .int .i64 0, .slice none 0 0, .int .i64 0] 29)) := below_alloc (Below.refl _ _) _
  have hz1 : (w.alloc (.cells #[.slice none 0 0, .int .i64 0, .slice none 0 0, .int .i64 0] 29)).heap.size = w.heap.size + 1 := by simp
  have hB2' : Below (w.heap.size + 1) (w.alloc (.cells #[.slice none 0 0, .int .i64 0, .slice none 0 0, .int .i64 0] 29)) ((w.alloc (.cells #[.slice none 0 0, .int .i64 0, .slice none 0 0, .int .i64 0] 29)).alloc (.cells #[.slice none 0 0, .int .u16 0] 112)) := hz1 ▸ below_alloc (Below.refl _ _) _
  have hB2 : Below w.heap.size w ((w.alloc (.cells #[.slice none 0 0, .int .i64 0, .slice none 0 0, .int .i64 0] 29)).alloc (.cells #[.slice none 0 0, .int .u16 0] 112)) := below_then hB1 hB1.size (hz1.symm ▸ hB2')
  have hz2 : ((w.alloc (.cells #[.slice none 0 0, .int .i64 0, .slice none 0 0, .int .i64 0] 29)).alloc (.cells #[.slice none 0 0, .int .u16 0] 112)).heap.size = w.heap.size + 1 + 1 := by simp
  obtain ⟨W, eW, hS, hB3⟩ := src_new (w := ((w.alloc (.cells #[.slice none 0 0, .int .i64 0, .slice none 0 0, .int .i64 0] 29)).alloc (.cells #[.slice none 0 0, .int .u16 0] 112))) split (Kd.C_below hr hB2) hc hb
  rw [hz2] at hS
  have hB := below_then hB2 hB2.size hB3
  have hfb : W.heap[w.heap.size]? = some (.cells #[.slice none 0 0, .int .i64 0, .slice none 0 0, .int .i64 0] 29 (0, 0)) := (hB3.block _ (by rw [hz2]; omega)).trans ((hB2'.block _ (by omega)).trans (heap_alloc_new _ _))
  have hob : W.heap[w.heap.size + 1]? = some (.cells #[.slice none 0 0, .int .u16 0] 112 (0, 0)) := (hB3.block _ (by rw [hz2]; omega)).trans (by have q := heap_alloc_new (w.alloc (.cells #[.slice none 0 0, .int .i64 0, .slice none 0 0, .int .i64 0] 29)) (.cells #[.slice none 0 0, .int .u16 0] 112); rw [hz1] at q; exact q)
  have hO : Mpi W (w.heap.size + 1) 0 0 none 0 := ⟨(cell_of_row _ _ 0 _ _ _ hob).trans rfl, (cell_of_row _ _ 1 _ _ _ hob).trans rfl, frozen_of_row _ _ 0 _ _ hob, frozen_of_row _ _ 1 _ _ hob⟩
  have hE1 : Env W (w.heap.size + 1) aE aU := (hE.below hB).up (Nat.le_succ _)
  have hS1 : Src W (w.heap.size + 1) (w.heap.size + 1 + 1) A c ((a0 : Int) :: (a1 : Int) :: t) split := { hS with
    lo := fun ad e hp => Nat.lt_succ_of_lt (c8_lt hr e hp)
    ds := by omega }
  have HC := Aside0.mk (mf_ok hS1 hE1 hO (Nat.le_refl _) (by omega) ha0 ha1 hbn hm ht)
  have b16 : bn < 65536 := by omega
  have m1 : m ≤ 8192 := by omega
  have LT := Aside0.mk (show m = (t.take m).length by rw [List.length_take]; omega)
  have BB := Aside0.mk hB
  have GB0 := Aside0.mk hfb
  have WZ := Aside0.mk (show w.heap.size + 1 + 1 < W.heap.size from hS.lt)
  rw [← hn] at eW
  have HN := Aside0.mk hn
  clear hn
  clear hr hb hE hB1 hz1 hB2' hB2 hz2 hS hB3 hB hfb hob hO hE1 hS1 hbn hm
  go_enter Tryd.func21, Tryd.ntmps21
  go_wp2_with fail
  clear eW
  obtain ⟨g, eg⟩ : ∃ g, w.heap.size = g := ⟨_, rfl⟩
  have EG := Aside0.mk eg
  rw [eg] at HC GB0 WZ ⊢
  clear eg
  refine HC.out.mono ?_
  rintro en w1 ⟨rfl, ⟨g2, hO, hC⟩, hT⟩
  have O1 := Aside0.mk hO
  have C1 := Aside0.mk hC
  have T1 := Aside0.mk hT
  have GB1 := Aside0.mk ((hT.block g (by have := WZ.out; omega) (fun q => by rcases q with q | q <;> omega)).trans GB0.out)
  have L1 := Aside0.mk (show g < w1.heap.size by have := WZ.out; have := hT.size; omega)
  clear hO hC hT
  go_wp2_with fail
  refine (mfld_calls O1.out b16 m1 LT.out C1.out).mono ?_
  rintro en w2 ⟨A1, cc1, A2, cc2, rfl, hX, hY, hB⟩
  have X2 := Aside0.mk hX
  have Y2 := Aside0.mk hY
  have B2 := Aside0.mk hB
  have GB := Aside0.mk ((hB.block g L1.out).trans GB1.out)
  clear hX hY hB
  go_wp2_with ((with_reducible refine gate_store (t := 29) (p := 4) (v := .tmp 29) rfl ?_); go_loud (refine wpList_store_rowTo rfl 29 (.tmp 4) (.tmp 29) rfl rfl g #[.slice A1 m cc1, .int .i64 (bn : Int), .slice A2 (m + 2) cc2, .int .i64 (2 + (m : Int))] rfl rfl 29 _ GB.out (by kernel_rfl) rfl (by simp [Value.oneCell']) ?_; have GX := Aside0.mk (row_set (cs := #[.slice A1 m cc1, .int .i64 (bn : Int), .slice A2 (m + 2) cc2, .int .i64 (2 + (m : Int))]) GB.out); have TX := Aside0.mk (tch_row (w := w2) (g := g) #[.slice A1 m cc1, .int .i64 (bn : Int), .slice A2 (m + 2) cc2, .int .i64 (2 + (m : Int))]); generalize w2.setRow g #[.slice A1 m cc1, .int .i64 (bn : Int), .slice A2 (m + 2) cc2, .int .i64 (2 + (m : Int))] = w7 at GX TX ⊢))
  refine bodyPost_ret (results_ctt rfl _ _ g 29 #[.slice A1 m cc1, .int .i64 (bn : Int), .slice A2 (m + 2) cc2, .int .i64 (2 + (m : Int))] (0, 0) _ rfl GX.out Tryd.underlying29 rfl (by kernel_rfl)) rfl ?_
  have eg := EG.out
  have l1 := L1.out
  have hB1 : Below w.heap.size w w1 := T1.out.below BB.out BB.out.size (fun k q => by rcases q with q | q <;> omega)
  have hB2 : Below w.heap.size w w2 := below_then hB1 hB1.size B2.out
  exact ⟨A1, cc1, A2, cc2, rfl, Kd.R_lower (TX.out.r8 X2.out (fun k e q => by have := Kd.R_base X2.out k e; omega)) (by omega), Kd.R_lower (TX.out.r8 Y2.out (fun k e q => by have := Kd.R_base Y2.out k e; omega)) (by omega), TX.out.below hB2 hB2.size (fun k q => by omega)⟩
theorem bytes_all2 {l : List Int} (h : ∀ x ∈ l, 0 ≤ x ∧ x ≤ 255) : Bytes l := by
  intro i
  by_cases hi : i < l.length
  · rw [List.getD_eq_getElem?_getD, List.getElem?_eq_getElem hi]; exact h _ (List.getElem_mem hi)
  · rw [List.getD_eq_getElem?_getD, List.getElem?_eq_none (by omega)]; simp
/-- What impl.ReadMpi answers where it is fine. -/
def impl_ReadMpi.f : List Int → Int → Option (List Int × Int × List Int × Int × Int × Int)
  | a :: b :: t, _ => if (0 ≤ a ∧ a ≤ 255 ∧ 0 ≤ b ∧ b ≤ 255) ∧ (∀ x ∈ t, 0 ≤ x ∧ x ≤ 255) ∧ ((a * 256 + b + 7) / 8).toNat ≤ t.length then
      some (t.take ((a * 256 + b + 7) / 8).toNat, a * 256 + b, a :: b :: t.take ((a * 256 + b + 7) / 8).toNat, 2 + (a * 256 + b + 7) / 8, 2 + (a * 256 + b + 7) / 8, 0) else none
  | _, _ => none
theorem impl_ReadMpi.calls (A0 : Option Addr) (c0 : Nat) (l0 : List Int) (a1 : Int) (r1 : List Int) (r2 : Int) (r3 : List Int) (r4 : Int) (r5 : Int) (r6 : Int) (w : World) (hr0 : Kd.C (Kd.int .u8) w A0 l0.length l0) (hc0 : l0.length ≤ c0) (h : impl_ReadMpi.f l0 a1 = some (r1, r2, r3, r4, r5, r6)) {aE aU : Addr} (HEnv : Aside0 (Env w w.heap.size aE aU)) :
    Calls Tryd.prog 21 #[.slice A0 l0.length c0, .int .i64 a1] w fun e w' => ∃ v0_ v1_ : Value, e = .returned (.tuple #[.agg #[v0_, .int .i64 r2, v1_, .int .i64 r4], .int .i64 r5, .int .i64 r6]) ∧ Kd.R (Kd.int .u8) 5 w' w.heap.size (fun _ => True) v0_ r1 ∧ Kd.R (Kd.int .u8) 5 w' w.heap.size (fun _ => True) v1_ r3 ∧ Below w.heap.size w w' := by
  revert h
  revert hc0
  revert hr0
  match l0 with
  | [] => intro _ _ h; simp [impl_ReadMpi.f] at h
  | [_] => intro _ _ h; simp [impl_ReadMpi.f] at h
  | a :: b :: t =>
    intro hr0 hc0 h
    simp only [impl_ReadMpi.f] at h
    split at h
    · rename_i q
      obtain ⟨⟨qa0, qa1, qb0, qb1⟩, qt, ql⟩ := q
      obtain ⟨a, rfl⟩ := Int.eq_ofNat_of_zero_le qa0
      obtain ⟨b, rfl⟩ := Int.eq_ofNat_of_zero_le qb0
      have em : (((a : Int) * 256 + (b : Int) + 7) / 8).toNat = (a * 256 + b + 7) / 8 := by omega
      have ei : ((a : Int) * 256 + (b : Int) + 7) / 8 = (((a * 256 + b + 7) / 8 : Nat) : Int) := by omega
      have eb : (a : Int) * 256 + (b : Int) = ((a * 256 + b : Nat) : Int) := by omega
      rw [em] at ql
      rw [em, ei, eb] at h
      simp only [Option.some.injEq, Prod.mk.injEq] at h
      obtain ⟨rfl, rfl, rfl, rfl, rfl, rfl⟩ := h
      refine (rmi_ok hr0 hc0 rfl (bytes_all2 (fun x hx => ?_)) HEnv.out (by omega) (by omega) rfl rfl ql).mono ?_
      · rcases List.mem_cons.1 hx with rfl | hx
        · exact ⟨qa0, qa1⟩
        · rcases List.mem_cons.1 hx with rfl | hx
          · exact ⟨qb0, qb1⟩
          · exact qt x hx
      · rintro en w1 ⟨A1, c1, A2, c2, rfl, hX, hY, hB⟩
        rw [show ((a * 256 + b : Nat) : Int) / 256 = (a : Int) by omega, show ((a * 256 + b : Nat) : Int) % 256 = (b : Int) by omega] at hY
        exact ⟨_, _, rfl, hX, hY, hB⟩
    · cases h
end Go.Proofs.YtfhefoaieefnkaaDoor.Rd
