/- packet.ZzReadHeader, impl.ReadHead. -/
import Derived.Test.YtjdnnpfhlkgooaaDoorRdh
import Derived.Test.YtjdnnpfhlkgooaaDoorDrn
import Derived.Test.YtjdnnpfhlkgooaaDoorOidF
import Derived.Test.YtjdnnpfhlkgooaaDoorMkr
set_option linter.unusedVariables false
set_option linter.unusedSimpArgs false
namespace Go.Proofs.YtjdnnpfhlkgooaaDoor.Rd
open Go.RowKit Go.Proofs.YtjdnnpfhlkgooaaDoorW.PrintWords Go.Proofs.YtjdnnpfhlkgooaaDoorW.PrintMore Go.Proofs.YtjdnnpfhlkgooaaDoor.Kit

set_option maxRecDepth 100000 in
theorem zzh_no {w : World} {d s : Nat} {split : Int} {er : Value} (H : Calls Tryd.prog 54 #[(.iface 88 (.pointer (some ⟨s, 0, none⟩)))] w (HdNo w d s split er)) : Calls Tryd.prog 36 #[(.iface 88 (.pointer (some ⟨s, 0, none⟩)))] w (HdNo w d s split er) := by
  have HH := Aside0.mk H
  clear H
  go_enter Tryd.func36, Tryd.ntmps36
  go_wp2_with fail
  refine HH.out.mono ?_
  rintro en w1 ⟨tg, n, rfl, hX⟩
  have X := Aside0.mk hX
  clear hX
  go_wp2_with fail
  refine bodyPost_ret (results_list (rs := [.tmp 2, .tmp 3, .tmp 4, .tmp 5]) rfl (by simp) (.tmp (.tmp (.tmp (.tmp .nil))))) rfl ?_
  exact ⟨tg, n, rfl, X.out⟩
set_option maxRecDepth 100000 in
theorem zzh_ok {w : World} {d s : Nat} {split : Int} {tg n : Int} {bd rest : List Int} {ok : Bool} (H : Calls Tryd.prog 54 #[(.iface 88 (.pointer (some ⟨s, 0, none⟩)))] w (HdOk w d s split tg n bd ok rest)) : Calls Tryd.prog 36 #[(.iface 88 (.pointer (some ⟨s, 0, none⟩)))] w (HdOk w d s split tg n bd ok rest) := by
  have HH := Aside0.mk H
  clear H
  go_enter Tryd.func36, Tryd.ntmps36
  go_wp2_with fail
  refine HH.out.mono ?_
  rintro en w1 ⟨v, b, rfl, hX⟩
  have X := Aside0.mk hX
  clear hX
  go_wp2_with fail
  refine bodyPost_ret (results_list (rs := [.tmp 2, .tmp 3, .tmp 4, .tmp 5]) rfl (by simp) (.tmp (.tmp (.tmp (.tmp .nil))))) rfl ?_
  exact ⟨v, b, rfl, X.out⟩
set_option maxHeartbeats 1600000 in
set_option maxRecDepth 100000 in
theorem rhd_no {w : World} {A : Option Addr} {c : Nat} {l : List Int} {split : Int} {aE aU : Addr} (hr : C8 w A l) (hc : l.length ≤ c) (hb : Bytes l) (hE : Env w w.heap.size aE aU) {te : TypeId} {ve : Value} {code : Int}
    (hH : ∀ (W : World) (d s : Nat) (A : Option Addr) (c : Nat), Src W d s A c l split → Env W d aE aU → Calls Tryd.prog 54 #[(.iface 88 (.pointer (some ⟨s, 0, none⟩)))] W (HdNo W d s split (.iface te ve)))
    (hF : ∀ (W : World) (d : Nat), Env W d aE aU → Calls Tryd.prog 37 #[.iface te ve] W fun en w' => en = .returned (.int .i64 code) ∧ w' = W) :
    Calls Tryd.prog 26 #[.slice A l.length c, .int .i64 split] w fun en w' => en = .returned (.agg #[.int .u8 0, .int .i64 0, .slice none 0 0, .int .i64 0, .int .i64 0, .int .i64 code]) ∧ Below w.heap.size w w' := by
  have HF := Aside0.mk hF
  clear hF
  have hB1 : Below w.heap.size w (w.alloc (.cells #[.int .u8 0, .int .i64 0, .slice none 0 0, .int .i64 0, .int .i64 0, .int .i64 0] 65)) := below_alloc (Below.refl _ _) _
  have hz1 : (w.alloc (.cells #[.int .u8 0, .int .i64 0, .slice none 0 0, .int .i64 0, .int .i64 0, .int .i64 0] 65)).heap.size = w.heap.size + 1 := by simp
  obtain ⟨W, eW, hS, hB2⟩ := src_new (w := w.alloc (.cells #[.int .u8 0, .int .i64 0, .slice none 0 0, .int .i64 0, .int .i64 0, .int .i64 0] 65)) split (Kd.C_below hr hB1) hc hb
  rw [hz1] at hS
  have hB := below_then hB1 hB1.size hB2
  have hfb : W.heap[w.heap.size]? = some (.cells #[.int .u8 0, .int .i64 0, .slice none 0 0, .int .i64 0, .int .i64 0, .int .i64 0] 65 (0, 0)) := (hB2.block _ (by rw [hz1]; omega)).trans (heap_alloc_new _ _)
  have hE1 : Env W (w.heap.size + 1) aE aU := (hE.below hB).up (Nat.le_succ _)
  have HC := Aside0.mk (hH _ _ _ _ _ hS hE1)
  have BB := Aside0.mk hB
  have GB0 := Aside0.mk hfb
  have HS0 := Aside0.mk hS
  have E0 := Aside0.mk hE1
  have WZ := Aside0.mk (show w.heap.size + 1 < W.heap.size from hS.lt)
  clear hr hb hE hH hB1 hz1 hS hB2 hB hfb hE1
  go_enter Tryd.func26, Tryd.ntmps26
  go_upto_region 2 with (fail)
  clear eW
  obtain ⟨g, eg⟩ : ∃ g, w.heap.size = g := ⟨_, rfl⟩
  have EG := Aside0.mk eg
  rw [eg] at HC GB0 HS0 E0 WZ ⊢
  clear eg
  go_wp2_with fail
  refine (zzh_no HC.out).mono ?_
  rintro en w1 ⟨tg, n, rfl, _, hT⟩
  have E1 := Aside0.mk (E0.out.kept hT (fun j q => by subst q; exact Nat.le_refl _))
  have T1 := Aside0.mk hT
  have GB := Aside0.mk ((hT.block g (by have := WZ.out; omega) (fun q => by omega)).trans GB0.out)
  clear hT
  go_wp2_with fail
  refine (HF.out _ _ E1.out).mono ?_
  rintro en w2 ⟨rfl, rfl⟩
  go_wp2_with ((with_reducible refine gate_store (t := 65) (p := 4) (v := .tmp 28) rfl ?_); go_loud (refine wpList_store_rowTo rfl 65 (.tmp 4) (.tmp 28) rfl rfl g #[.int .u8 0, .int .i64 0, .slice none 0 0, .int .i64 0, .int .i64 0, .int .i64 code] rfl rfl 65 _ GB.out (by kernel_rfl) rfl (by simp [Value.oneCell']) ?_; have GX := Aside0.mk (row_set (cs := #[.int .u8 0, .int .i64 0, .slice none 0 0, .int .i64 0, .int .i64 0, .int .i64 code]) GB.out); have TX := Aside0.mk (tch_row (w := w2) (g := g) #[.int .u8 0, .int .i64 0, .slice none 0 0, .int .i64 0, .int .i64 0, .int .i64 code]); generalize w2.setRow g #[.int .u8 0, .int .i64 0, .slice none 0 0, .int .i64 0, .int .i64 0, .int .i64 code] = w7 at GX TX ⊢))
  refine bodyPost_ret (results_cell_row rfl _ _ g 65 #[.int .u8 0, .int .i64 0, .slice none 0 0, .int .i64 0, .int .i64 0, .int .i64 code] (0, 0) _ rfl GX.out Tryd.underlying65 rfl (by kernel_rfl)) rfl ?_
  have eg := EG.out
  have hB1 : Below w.heap.size w w2 := T1.out.below BB.out BB.out.size (fun k q => by omega)
  exact ⟨rfl, TX.out.below hB1 hB1.size (fun k q => by omega)⟩
def RhdOut (w : World) (tg n : Int) (bd : List Int) (ok : Bool) (rest : List Int) (en : Ending) (w' : World) : Prop :=
  ∃ vo L, en = .returned (.agg #[.int .u8 tg, .int .i64 n, vo, .int .i64 (if ok = true then 0 else 2), .int .i64 ((L : List Int).length : Int), .int .i64 0]) ∧ (ok = true → L = rest) ∧ R8 5 w' w.heap.size vo bd ∧ Below w.heap.size w w'
set_option maxHeartbeats 1600000 in
set_option maxRecDepth 100000 in
theorem rhd_ok {w : World} {A : Option Addr} {c : Nat} {l : List Int} {split : Int} {aE aU : Addr} (hr : C8 w A l) (hc : l.length ≤ c) (hb : Bytes l) (hE : Env w w.heap.size aE aU) {tg n : Int} {bd rest : List Int} {ok : Bool} (hbl : bd.length ≤ 100000000)
    (hH : ∀ (W : World) (d s : Nat) (A : Option Addr) (c : Nat), Src W d s A c l split → Env W d aE aU → Calls Tryd.prog 54 #[(.iface 88 (.pointer (some ⟨s, 0, none⟩)))] W (HdOk W d s split tg n bd ok rest)) :
    Calls Tryd.prog 26 #[.slice A l.length c, .int .i64 split] w (RhdOut w tg n bd ok rest) := by
  have hB1 : Below w.heap.size w (w.alloc (.cells #[.int .u8 0, .int .i64 0, .slice none 0 0, .int .i64 0, .int .i64 0, .int .i64 0] 65)) := below_alloc (Below.refl _ _) _
  have hz1 : (w.alloc (.cells #[.int .u8 0, .int .i64 0, .slice none 0 0, .int .i64 0, .int .i64 0, .int .i64 0] 65)).heap.size = w.heap.size + 1 := by simp
  obtain ⟨W, eW, hS, hB2⟩ := src_new (w := w.alloc (.cells #[.int .u8 0, .int .i64 0, .slice none 0 0, .int .i64 0, .int .i64 0, .int .i64 0] 65)) split (Kd.C_below hr hB1) hc hb
  rw [hz1] at hS
  have hB := below_then hB1 hB1.size hB2
  have hfb : W.heap[w.heap.size]? = some (.cells #[.int .u8 0, .int .i64 0, .slice none 0 0, .int .i64 0, .int .i64 0, .int .i64 0] 65 (0, 0)) := (hB2.block _ (by rw [hz1]; omega)).trans (heap_alloc_new _ _)
  have hE1 : Env W (w.heap.size + 1) aE aU := (hE.below hB).up (Nat.le_succ _)
  have HC := Aside0.mk (hH _ _ _ _ _ hS hE1)
  have BB := Aside0.mk hB
  have GB0 := Aside0.mk hfb
  have HS0 := Aside0.mk hS
  have E0 := Aside0.mk hE1
  have WZ := Aside0.mk (show w.heap.size + 1 < W.heap.size from hS.lt)
  clear hr hb hE hH hB1 hz1 hS hB2 hB hfb hE1
  go_enter Tryd.func26, Tryd.ntmps26
  go_upto_region 2 with (fail)
  clear eW
  obtain ⟨g, eg⟩ : ∃ g, w.heap.size = g := ⟨_, rfl⟩
  have EG := Aside0.mk eg
  rw [eg] at HC GB0 HS0 E0 WZ ⊢
  clear eg
  go_wp2_with fail
  refine (zzh_ok HC.out).mono ?_
  rintro en w1 ⟨v, b, rfl, hBd, hbs, hT⟩
  have W1 := hT.size
  have E1 := Aside0.mk (E0.out.kept hT (fun j q => by subst q; exact Nat.le_refl _))
  have T1 := Aside0.mk hT
  have BD := Aside0.mk hBd
  have GB0 := Aside0.mk ((hT.block g (by have := WZ.out; omega) (fun q => by omega)).trans GB0.out)
  clear hT hBd
  go_wp2_with fail
  refine (all_calls BD.out E1.out hbl).mono ?_
  rintro en w2 ⟨vo, rfl, hRo, ⟨ok', rest', _, hBd2⟩, hL, hT2⟩
  obtain ⟨A1, c1, e1, _, _⟩ := r8_reads hRo
  subst e1
  obtain ⟨x, hx⟩ : ∃ x : Int, (if ok = true then 0 else 2) = x := ⟨_, rfl⟩
  rw [hx]
  have hLL : ∃ (L : List Int) (A' : Option Addr) (c' : Nat), Src w2 (g + 1) (g + 1) A' c' L split ∧ (ok = true → L = rest) := by
    cases ok with
    | true => obtain ⟨A', c', h⟩ := hL rfl; exact ⟨rest, A', c', h, fun _ => rfl⟩
    | false => obtain ⟨A', c', L, h⟩ := hBd2.src; exact ⟨L, A', c', h, fun h => absurd h (by decide)⟩
  obtain ⟨L, A', c', hS2, hLr⟩ := hLL
  have s0 := hS2.c0
  have ha : b ≠ g := by have := WZ.out; omega
  have GB := Aside0.mk ((hT2.block g (by have := WZ.out; omega) (fun q => by omega)).trans GB0.out)
  have X := Aside0.mk (And.intro hx (And.intro hLr (And.intro hRo hT2)))
  clear hx hRo hL hT2 hBd2 hS2 hLr
  go_wp2_with ((with_reducible refine gate_store (t := 65) (p := 4) (v := .tmp 43) rfl ?_); go_loud (refine wpList_store_rowTo rfl 65 (.tmp 4) (.tmp 43) rfl rfl g #[.int .u8 tg, .int .i64 n, .slice A1 bd.length c1, .int .i64 x, .int .i64 (L.length : Int), .int .i64 0] rfl rfl 65 _ GB.out (by kernel_rfl) rfl (by simp [Value.oneCell']) ?_; have GX := Aside0.mk (row_set (cs := #[.int .u8 tg, .int .i64 n, .slice A1 bd.length c1, .int .i64 x, .int .i64 (L.length : Int), .int .i64 0]) GB.out); have TX := Aside0.mk (tch_row (w := w2) (g := g) #[.int .u8 tg, .int .i64 n, .slice A1 bd.length c1, .int .i64 x, .int .i64 (L.length : Int), .int .i64 0]); generalize w2.setRow g #[.int .u8 tg, .int .i64 n, .slice A1 bd.length c1, .int .i64 x, .int .i64 (L.length : Int), .int .i64 0] = w7 at GX TX ⊢))
  refine bodyPost_ret (results_cell_row rfl _ _ g 65 #[.int .u8 tg, .int .i64 n, .slice A1 bd.length c1, .int .i64 x, .int .i64 (L.length : Int), .int .i64 0] (0, 0) _ rfl GX.out Tryd.underlying65 rfl (by kernel_rfl)) rfl ?_
  obtain ⟨hx, hLr, hRo, hT2⟩ := X.out
  have eg := EG.out
  have wz := WZ.out
  have hB1 : Below w.heap.size w w1 := T1.out.below BB.out BB.out.size (fun k q => by omega)
  have hB2 : Below w.heap.size w w2 := hT2.below hB1 hB1.size (fun k q => by omega)
  exact ⟨_, L, by rw [← hx], hLr, Kd.R_lower (TX.out.r8 hRo (fun k e q => by have := Kd.R_base hRo k e; omega)) (by omega), TX.out.below hB2 hB2.size (fun k q => by omega)⟩
end Go.Proofs.YtjdnnpfhlkgooaaDoor.Rd
