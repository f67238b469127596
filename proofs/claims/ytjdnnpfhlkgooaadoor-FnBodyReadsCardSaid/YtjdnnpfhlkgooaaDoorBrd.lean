/- impl.BodyReads. -/
import Derived.Test.YtjdnnpfhlkgooaaDoorPrz
import Derived.Test.YtjdnnpfhlkgooaaDoorRhd
import Derived.Test.YtjdnnpfhlkgooaaDoorMkr
import Derived.Test.YtjdnnpfhlkgooaaDoorCut
import Derived.Test.YtjdnnpfhlkgooaaDoorOwn
import Derived.Great.BuildSlice
set_option linter.unusedVariables false
set_option linter.unusedSimpArgs false
namespace Go.Proofs.YtjdnnpfhlkgooaaDoor.Rd
open Go.RowKit Go.Proofs.YtjdnnpfhlkgooaaDoorW.PrintWords Go.Proofs.YtjdnnpfhlkgooaaDoorW.PrintMore Go.Proofs.YtjdnnpfhlkgooaaDoor.Kit

/-- A read as data: what it gave, how it ended. -/
def kT : Kd (List Int × Int) := Kd.pair (Kd.slice 5 (Kd.int .u8)) (Kd.int .i64)
theorem infoT : (Tryd.prog.info? 32).map (fun i => (i.zero, i.size, i.bytes)) = some (some (.agg #[.slice none 0 0, .int .i64 0]), 2, 32) := by kernel_rfl
/-- A body read by and by, with buffers of these sizes. -/
inductive StepsOf : List Int → List Int → List (List Int × Int) → Prop
  | nil {bd : List Int} : StepsOf bd [] []
  | cons {bd zs : List Int} {z e : Int} {k : Nat} {st : List (List Int × Int)} : k ≤ bd.length → (k : Int) ≤ max 0 (min z 65536) → (e = 0 ∨ e = 1 ∧ bd = []) → StepsOf (bd.drop k) zs st → StepsOf bd (z :: zs) ((bd.take k, e) :: st)
theorem StepsOf.len {bd zs : List Int} {st : List (List Int × Int)} (h : StepsOf bd zs st) : st.length = zs.length := by
  induction h with
  | nil => rfl
  | cons _ _ _ _ ih => rw [List.length_cons, List.length_cons, ih]
/-- A read of a body that ends well. -/
def RdStep (w : World) (d s b : Nat) (split : Int) (v : Value) (aE : Addr) (base g m : Nat) (bd rest : List Int) (en : Ending) (w' : World) : Prop :=
  ∃ (k : Nat) (e : Int) (er : Value), en = .returned (.tuple #[.int .i64 (k : Int), er]) ∧ k ≤ m ∧ k ≤ bd.length ∧ ((e = 0 ∧ er = .nilIface) ∨ (e = 1 ∧ bd = [] ∧ er = (.iface 209 (.pointer (some aE))))) ∧ Bdy w' d s b split v (bd.drop k) true rest ∧ R8 5 w' base (.slice (some ⟨g, 0, none⟩) k m) (bd.take k) ∧ Tch (fun j => j = g ∨ j = s ∨ j = b) w w'
theorem rd_src {w : World} {d s b : Nat} {split : Int} {aE aU : Addr} {bd rest : List Int} (h : Bdy w d s b split (.iface 88 (.pointer (some ⟨b, 0, none⟩))) bd true rest) (hE : Env w d aE aU) {base g m : Nat} (hD : R8 5 w base (.slice (some ⟨g, 0, none⟩) m m) (List.replicate m 0)) (gs : g ≠ s) (gd : d ≤ g) (gb : g ≠ b) :
    Calls Tryd.prog 113 #[.pointer (some ⟨b, 0, none⟩), .slice (some ⟨g, 0, none⟩) m m] w (RdStep w d s b split (.iface 88 (.pointer (some ⟨b, 0, none⟩))) aE base g m bd rest) := by
  by_cases hm : m = 0
  · subst hm
    refine (bdy_zero h hE (.inl ⟨rfl, rfl⟩)).mono ?_
    rintro en w1 ⟨er, rfl, ho, hB, hT⟩
    have hR := hT.r8 hD (fun j e q => by simp [Value.ownBlock] at e; omega)
    rcases ho with rfl | ⟨hb, rfl⟩
    · exact ⟨0, 0, _, rfl, Nat.le_refl _, Nat.zero_le _, .inl ⟨rfl, rfl⟩, by rw [List.drop_zero]; exact hB, by rw [List.take_zero]; exact hR, hT.mono (fun j q => .inr q)⟩
    · exact ⟨0, 1, _, rfl, Nat.le_refl _, Nat.zero_le _, .inr ⟨rfl, hb, rfl⟩, by rw [List.drop_zero]; exact hB, by rw [List.take_zero]; exact hR, hT.mono (fun j q => .inr q)⟩
  · refine (bdy_src h hE hD (off := 0) (m := m) (by omega) (by omega) (by omega) gs gd gb).mono ?_
    rintro en w1 ⟨k, ok', rest', k1, k2, k3, k4, rfl, hB, hR, hT⟩
    obtain ⟨rfl, rfl, _⟩ := k4 rfl
    have tk : (List.take 0 (List.replicate m (0 : Int)) ++ (bd.take k ++ (List.replicate m (0 : Int)).drop (0 + k))).take k = bd.take k := by
      rw [List.take_zero, List.nil_append, List.take_append_of_le_length (by rw [List.length_take]; omega), List.take_of_length_le (by rw [List.length_take]; omega)]
    have hR2 := Kd.R_take (m := k) hR (by simp; omega)
    rw [tk] at hR2
    by_cases hb : bd = []
    · subst hb
      exact ⟨k, 1, _, rfl, k1, k2, .inr ⟨rfl, rfl, rfl⟩, hB, hR2, hT⟩
    · have hp := List.length_pos_iff.2 hb
      rw [if_pos hp]
      exact ⟨k, 0, _, rfl, k1, k2, .inl ⟨rfl, rfl⟩, hB, hR2, hT⟩
theorem rd_spn {w : World} {d s b : Nat} {split : Int} {aE aU : Addr} {bd rest : List Int} (h : Bdy w d s b split (.iface 157 (.pointer (some ⟨b, 0, none⟩))) bd true rest) (hE : Env w d aE aU) {base g m : Nat} (hD : R8 5 w base (.slice (some ⟨g, 0, none⟩) m m) (List.replicate m 0)) (gs : g ≠ s) (gd : d ≤ g) (gb : g ≠ b) :
    Calls Tryd.prog 127 #[.pointer (some ⟨b, 0, none⟩), .slice (some ⟨g, 0, none⟩) m m] w (RdStep w d s b split (.iface 157 (.pointer (some ⟨b, 0, none⟩))) aE base g m bd rest) := by
  by_cases hm : m = 0
  · subst hm
    refine (bdy_zero h hE (.inr (.inl ⟨rfl, rfl⟩))).mono ?_
    rintro en w1 ⟨er, rfl, ho, hB, hT⟩
    have hR := hT.r8 hD (fun j e q => by simp [Value.ownBlock] at e; omega)
    rcases ho with rfl | ⟨hb, rfl⟩
    · exact ⟨0, 0, _, rfl, Nat.le_refl _, Nat.zero_le _, .inl ⟨rfl, rfl⟩, by rw [List.drop_zero]; exact hB, by rw [List.take_zero]; exact hR, hT.mono (fun j q => .inr q)⟩
    · exact ⟨0, 1, _, rfl, Nat.le_refl _, Nat.zero_le _, .inr ⟨rfl, hb, rfl⟩, by rw [List.drop_zero]; exact hB, by rw [List.take_zero]; exact hR, hT.mono (fun j q => .inr q)⟩
  · refine (bdy_spn h hE hD (off := 0) (m := m) (by omega) (by omega) (by omega) gs gd gb).mono ?_
    rintro en w1 ⟨k, ok', rest', k1, k2, k3, k4, rfl, hB, hR, hT⟩
    obtain ⟨rfl, rfl, _⟩ := k4 rfl
    have tk : (List.take 0 (List.replicate m (0 : Int)) ++ (bd.take k ++ (List.replicate m (0 : Int)).drop (0 + k))).take k = bd.take k := by
      rw [List.take_zero, List.nil_append, List.take_append_of_le_length (by rw [List.length_take]; omega), List.take_of_length_le (by rw [List.length_take]; omega)]
    have hR2 := Kd.R_take (m := k) hR (by simp; omega)
    rw [tk] at hR2
    by_cases hb : bd = []
    · subst hb
      exact ⟨k, 1, _, rfl, k1, k2, .inr ⟨rfl, rfl, rfl⟩, hB, hR2, hT⟩
    · have hp := List.length_pos_iff.2 hb
      rw [if_pos hp]
      exact ⟨k, 0, _, rfl, k1, k2, .inl ⟨rfl, rfl⟩, hB, hR2, hT⟩
theorem rd_prt {w : World} {d s b : Nat} {split : Int} {aE aU : Addr} {bd rest : List Int} (h : Bdy w d s b split (.iface 162 (.pointer (some ⟨b, 0, none⟩))) bd true rest) (hE : Env w d aE aU) {base g m : Nat} (hD : R8 5 w base (.slice (some ⟨g, 0, none⟩) m m) (List.replicate m 0)) (gs : g ≠ s) (gd : d ≤ g) (gb : g ≠ b) :
    Calls Tryd.prog 128 #[.pointer (some ⟨b, 0, none⟩), .slice (some ⟨g, 0, none⟩) m m] w (RdStep w d s b split (.iface 162 (.pointer (some ⟨b, 0, none⟩))) aE base g m bd rest) := by
  by_cases hm : m = 0
  · subst hm
    refine (bdy_zero h hE (.inr (.inr ⟨rfl, rfl⟩))).mono ?_
    rintro en w1 ⟨er, rfl, ho, hB, hT⟩
    have hR := hT.r8 hD (fun j e q => by simp [Value.ownBlock] at e; omega)
    rcases ho with rfl | ⟨hb, rfl⟩
    · exact ⟨0, 0, _, rfl, Nat.le_refl _, Nat.zero_le _, .inl ⟨rfl, rfl⟩, by rw [List.drop_zero]; exact hB, by rw [List.take_zero]; exact hR, hT.mono (fun j q => .inr q)⟩
    · exact ⟨0, 1, _, rfl, Nat.le_refl _, Nat.zero_le _, .inr ⟨rfl, hb, rfl⟩, by rw [List.drop_zero]; exact hB, by rw [List.take_zero]; exact hR, hT.mono (fun j q => .inr q)⟩
  · refine (bdy_prt h hE hD (off := 0) (m := m) (by omega) (by omega) (by omega) gs gd gb).mono ?_
    rintro en w1 ⟨k, ok', rest', k1, k2, k3, k4, rfl, hB, hR, hT⟩
    obtain ⟨rfl, rfl, _⟩ := k4 rfl
    have tk : (List.take 0 (List.replicate m (0 : Int)) ++ (bd.take k ++ (List.replicate m (0 : Int)).drop (0 + k))).take k = bd.take k := by
      rw [List.take_zero, List.nil_append, List.take_append_of_le_length (by rw [List.length_take]; omega), List.take_of_length_le (by rw [List.length_take]; omega)]
    have hR2 := Kd.R_take (m := k) hR (by simp; omega)
    rw [tk] at hR2
    by_cases hb : bd = []
    · subst hb
      exact ⟨k, 1, _, rfl, k1, k2, .inr ⟨rfl, rfl, rfl⟩, hB, hR2, hT⟩
    · have hp := List.length_pos_iff.2 hb
      rw [if_pos hp]
      exact ⟨k, 0, _, rfl, k1, k2, .inl ⟨rfl, rfl⟩, hB, hR2, hT⟩
set_option maxRecDepth 100000 in
theorem width_zero (w : World) (z : Int) (h1 : -9223372036854775808 ≤ z) (h2 : z ≤ 9223372036854775807) : Calls Tryd.prog 38 #[.int .i64 z, .int .i64 0] w fun en w' => en = .returned (.int .i64 ((max 0 (min z 65536)).toNat : Int)) ∧ w' = w := by
  by_cases q1 : z ≤ 0
  · rw [show (max 0 (min z 65536)).toNat = 0 by omega]
    by_cases q2 : z = 0
    · subst q2
      go_enter Tryd.func38, Tryd.ntmps38
      go_wp2_with fail
      go_ret
      exact ⟨rfl, rfl⟩
    · have q3 : ¬ (0 : Int) < z := by omega
      have q4 : z < (0 : Int) := by omega
      go_enter Tryd.func38, Tryd.ntmps38
      go_wp2_with fail
      go_ret
      exact ⟨rfl, rfl⟩
  · have q3 : (0 : Int) < z := by omega
    have q4 : ¬ z < (0 : Int) := by omega
    by_cases q2 : z ≤ 65536
    · rw [show (((max 0 (min z 65536)).toNat : Nat) : Int) = z by omega]
      go_enter Tryd.func38, Tryd.ntmps38
      go_wp2_with fail
      go_ret
      exact ⟨rfl, rfl⟩
    · rw [show (((max 0 (min z 65536)).toNat : Nat) : Int) = 65536 by omega]
      go_enter Tryd.func38, Tryd.ntmps38
      go_wp2_with fail
      go_ret
      exact ⟨rfl, rfl⟩
def lenT : Value → Nat
  | .slice _ n _ => n
  | _ => 0
set_option maxHeartbeats 1600000 in
set_option maxRecDepth 100000 in
theorem br_calls {w : World} {A : Option Addr} {c n : Nat} {l : List Int} {split tg hn : Int} {aE aU : Addr} {bd rest : List Int} (hr : C8 w A l) (hc : l.length ≤ c) (en : n = l.length) (hb : Bytes l) (hE : Env w w.heap.size aE aU)
    (hH : ∀ (W : World) (d s : Nat) (A : Option Addr) (c : Nat), Src W d s A c l split → Env W d aE aU → Calls Tryd.prog 54 #[(.iface 88 (.pointer (some ⟨s, 0, none⟩)))] W (HdOk W d s split tg hn bd true rest))
    {As : Option Addr} {cz zn : Nat} {zs : List Int} (hz : (Kd.int .i64).C w As zs.length zs) (hzc : zs.length ≤ cz) (ezn : zn = zs.length) (hz9 : zn ≤ 10000) (hzb : ∀ z ∈ zs, -9223372036854775808 ≤ z ∧ z ≤ 9223372036854775807) :
    Calls Tryd.prog 10 #[.slice A n c, .int .i64 split, .slice As zn cz] w fun en w' => ∃ v, en = .returned (.tuple #[v, .int .i64 0]) ∧ ∃ st, kT.R 32 w' w.heap.size (fun _ => True) v st ∧ StepsOf bd zs st ∧ Below w.heap.size w w' := by
  obtain ⟨W, eW, hS, hB⟩ := src_new split hr hc hb
  have S0 := Aside0.mk hS
  have B0 := Aside0.mk hB
  have E0 := Aside0.mk (hE.below hB)
  have H0 := Aside0.mk (zzh_ok (hH W _ _ _ _ hS (hE.below hB)))
  have HZ := Aside0.mk (And.intro hz hzb)
  have EZ := Aside0.mk ezn
  rw [← en] at eW
  have hzc : zn ≤ cz := by omega
  clear hr hc en hb hE hS hB hH hz hzb ezn
  go_enter Tryd.func10, Tryd.ntmps10
  go_wp2_with fail
  clear eW
  obtain ⟨s, es⟩ : ∃ s, w.heap.size = s := ⟨_, rfl⟩
  have ES := Aside0.mk es
  rw [es] at S0 E0 H0 ⊢
  clear es
  refine H0.out.mono ?_
  rintro en w2 ⟨v, b, rfl, hBd, hbs, hT⟩
  have T0 := Aside0.mk hT
  have E2 := Aside0.mk (E0.out.kept hT (fun j q => by subst q; exact Nat.le_refl _))
  have LT := Aside0.mk (And.intro hBd.lts (And.intro hBd.ltb hBd.db))
  have B2 := Aside0.mk (hT.below B0.out B0.out.size (fun j q => by have := ES.out; omega))
  have HBD := Aside0.mk hBd
  clear hT hbs
  rcases HBD.out with h | h | h
  · obtain rfl := h.1
    clear h
    have zc := Kd.C_below HZ.out.1 B2.out
    clear hBd
    go_wp2_with fail
    go_loopw [12, 35] (fun ov iv wr => ∃ (i : Nat) (rv : Value) (bd1 : List Int) (st1 : List (List Int × Int)), ov = rv ∧ iv = .int .i64 (i : Int) ∧ i ≤ zn ∧ Aside0 (Bdy wr s s b split (.iface 88 (.pointer (some ⟨b, 0, none⟩))) bd1 true rest ∧ ∀ zt st2, StepsOf bd1 zt st2 → StepsOf bd (zs.take i ++ zt) (st1 ++ st2)) ∧ Aside0 (kT.R 32 wr w2.heap.size (fun _ => True) rv st1 ∧ st1.length = i) ∧ Aside0 (Tch (fun j => j = s ∨ j = b) w2 wr)) (fun _ iv _ => zn - (intOf iv).toNat)
    case atStart => exact ⟨0, _, bd, [], rfl, rfl, Nat.zero_le _, ⟨HBD.out, fun zt st2 h => by simpa using h⟩, ⟨Kd.R_nil _ _ _ _ _, rfl⟩, ⟨Tch.refl _ _⟩⟩
    case round =>
      obtain ⟨i, rv, bd1, st1, erv, rfl, hi, HS, HR, HT⟩ := hrel
      obtain rfl := erv.symm
      have BW := Aside0.mk (HT.out.below B2.out B2.out.size (fun j q => by have := ES.out; have := LT.out; rcases q with q | q <;> omega))
      by_cases hlt : i < zn
      · have ez := EZ.out
        obtain ⟨z, zi⟩ : ∃ z, zs[i]? = some z := ⟨zs[i]'(by omega), List.getElem?_eq_getElem _⟩
        obtain ⟨ad, cs, eA, _, hK, hcc⟩ := Kd.C_get (Kd.C_below HZ.out.1 BW.out) (0 : Int) (i : Int) (by omega) (by omega)
        subst eA
        rw [Int.toNat_natCast, List.getD_eq_getElem?_getD, zi, Option.getD_some] at hK
        rw [Int.toNat_natCast] at hcc
        have hK' : cs = [.int .i64 z] := hK
        subst hK'
        have y0 : wr.cell? (ad.add (i * 1)) = some (.int .i64 z) := hcc 0 _ rfl
        have y1 : wr.cell? (ad.add i) = some (.int .i64 z) := by rw [Nat.mul_one] at y0; exact y0
        have zb := HZ.out.2 z (List.mem_of_getElem? zi)
        obtain ⟨m, em⟩ : ∃ m, (max 0 (min z 65536)).toNat = m := ⟨_, rfl⟩
        have WC := Aside0.mk (width_zero wr z zb.1 zb.2)
        rw [em] at WC
        have EM := Aside0.mk em
        have hm : m ≤ 65536 := by omega
        have ZI := Aside0.mk (And.intro zi zb)
        have iklt : (i : Int) < (zn : Int) := by omega
        have HE1 := Aside0.mk (E2.out.kept HT.out (fun j q => by have := LT.out; rcases q with q | q <;> omega))
        clear ez zi hK hcc zb em zc
        go_wp2_with fail
        refine WC.out.mono ?_
        rintro en w0 ⟨rfl, rfl⟩
        go_wp2_with ((with_reducible refine gate_dst (N := 41) rfl ?_); refine make8 w0.heap.size (w0 := w0) rfl (N := 41) rfl 22 5 (.tmp 40) (.tmp 40) rfl m rfl rfl rfl Tryd.underlying22 infoB (by omega) (Below.refl _ _) (Nat.le_refl _) ?_; intro g w1 hg1 _ hg2 hRb hB1 _; have H1 := Aside0.mk (And.intro (HS.out.1.below hB1) HS.out.2); have E1 := Aside0.mk (HE1.out.below hB1); have R1 := Aside0.mk (And.intro (Kd.R_below HR.out.1 hB1) HR.out.2); have RB := Aside0.mk hRb; have T1 := Aside0.mk (Tch.of_below (S := fun j => j = s ∨ j = b) hB1); have G1 := Aside0.mk (And.intro hg1 hg2); clear hB1 hRb hg1 hg2 y0 y1)
        have wz := HT.out.size
        have gs : g ≠ s := by have := G1.out; have := LT.out; omega
        have gb : g ≠ b := by have := G1.out; have := LT.out; omega
        have gd : s ≤ g := by have := G1.out; have := LT.out; omega
        refine (rd_src H1.out.1 E1.out RB.out gs gd gb).mono ?_
        rintro en w3 ⟨k, e, er, rfl, k1, k2, ho, hB3, hR3, hT3⟩
        have kI : (k : Int) ≤ (m : Int) := by omega
        have k0 : (0 : Int) ≤ (k : Int) := by omega
        have OWN := Aside0.mk (show ∀ j, rv.ownBlock = some j → j < g ∧ w2.heap.size ≤ j from fun j e => ⟨by have := Kd.R_lt HR.out.1 j e; have := G1.out; omega, Kd.R_base HR.out.1 j e⟩)
        have TA : Tch (fun j => j = s ∨ j = b) w0 w3 := T1.out.step hT3 (fun j p hj => by have := G1.out; rcases p with p | p | p; omega; exact .inl p; exact .inr p)
        have SL := Aside0.mk (LT.out)
        have R3 := Aside0.mk (And.intro (Kd.R_mono (Kd.R_step (Kd.R_bound HR.out.1) (w1 := w3) (fun j hj hlt => TA.block j hlt (fun e => by have := hj.2.1; have := SL.out; rcases e with e | e <;> omega))) (ok' := fun _ => True) (fun _ _ => trivial)) HR.out.2)
        have D3 := Aside0.mk (Kd.R_mono (Kd.R_lower (Kd.R_bound hR3) (show w2.heap.size ≤ w0.heap.size from wz)) (ok' := fun j => w0.heap.size ≤ j) (fun j q => q.2.1))
        have X3 := Aside0.mk (And.intro hB3 (And.intro TA (And.intro k1 k2)))
        have wz3 := Aside0.mk (show w2.heap.size ≤ w3.heap.size from Nat.le_trans wz TA.size)
        have HE3 := Aside0.mk (HE1.out.kept TA (fun j q => by have := LT.out; rcases q with q | q <;> omega))
        have sl1 : ∀ W : World, (Instr.slice 22 (.slice (some ⟨g, 0, none⟩) m m) none (some (.int .i64 (k : Int))) none).run Tryd.prog W = .ok (.slice (some ⟨g, 0, none⟩) k m) W := (take8 (P := Tryd.prog) Tryd.underlying22 infoB (some ⟨g, 0, none⟩) m (List.replicate m 0) k (by simp; omega) (by simp) (n := m) (by simp)).1
        have EC : Aside0 (Calls Tryd.prog 37 #[er] w3.drew fun en w' => en = .returned (.int .i64 e) ∧ w' = w3.drew) := by
          rcases ho with ⟨rfl, rfl⟩ | ⟨rfl, _, rfl⟩
          · exact ⟨end_nil _⟩
          · exact ⟨end_eof (HE3.out.below (below_drew (Below.refl _ _)))⟩
        have HO := Aside0.mk (show e = 0 ∨ e = 1 ∧ bd1 = [] from by rcases ho with ⟨h, _⟩ | ⟨h, h2, _⟩; exact .inl h; exact .inr ⟨h, h2⟩)
        have BD := Aside0.mk (And.intro (show Below w2.heap.size w3 w3.drew from (below_drew (Below.refl w3.heap.size w3)).mono wz3.out) (show w2.heap.size ≤ w3.drew.heap.size from Nat.le_trans wz3.out (below_drew (Below.refl w3.heap.size w3)).size))
        clear ho hB3 hR3 hT3 TA gs gb gd wz k1
        go_wp2_with fail
        go_region_held3 (fun w' => Below w2.heap.size w3 w') (first | assumption | (exact BD.out.1) | (exact Below.alloc BD.out.1 BD.out.2 _) | (focus (go_grown; done)) | go_keep) ((first | (go_at_call 37; (with_reducible refine EC.out.mono ?_); rintro en w5 ⟨rfl, rfl⟩; have hB0 : Below w2.heap.size w3 w3.drew := BD.out.1) | ((refine Kd.R_append_step kT (w0 := w3) (W := w3.drew) w2.heap.size (by rfl) (.tmp 48) (.tmp 55) 28 32 (.agg #[.slice none 0 0, .int .i64 0]) 32 rfl Tryd.underlying28 infoT rfl (by decide) (by decide) _ st1 (bd1.take k, e) [.slice (some ⟨g, 0, none⟩) k m, .int .i64 e] (fun _ => True) (fun j => w0.heap.size ≤ j) rfl rfl ?hp ?hk (fun _ _ => trivial) ?ho ?hb ?hz ?hl ?_; (case hp => exact ⟨[.slice (some ⟨g, 0, none⟩) k m], [.int .i64 e], rfl, ⟨_, rfl, Kd.R_drew D3.out⟩, rfl⟩); (case hk => intro j hj; exact ⟨trivial, fun e => by have := OWN.out j e.symm; have := Kd.R_lt HR.out.1 j e.symm; omega⟩); (case ho => exact Kd.R_drew R3.out.1); (case hb => exact BD.out.1); (case hz => exact BD.out.2); (case hl => have := HR.out.2; omega); intro v1 w6 hR hB hG _; have R9 := Aside0.mk hR; have G9 := Aside0.mk hG; have hB0 : Below w2.heap.size w3 w6 := hB; clear hR hB hG))))
        go_wp2_with fail
        have hTT : Tch (fun j => rv.ownBlock = some j) w3 w6 := (Tch.refl (fun j => rv.ownBlock = some j) w3).drew.trans (Tch.of_grown G9.out)
        have tk1 : zs.take (i + 1) = zs.take i ++ [z] := by rw [List.take_add_one, ZI.out.1]; rfl
        refine ⟨⟨i + 1, v1, bd1.drop k, st1 ++ [(bd1.take k, e)], rfl, by first | rfl | go_num, hlt, ⟨X3.out.1.kept hTT (fun j e => by have := OWN.out j e; have := LT.out; omega), fun zt st2 h => ?_⟩, ⟨R9.out, by rw [List.length_append, HR.out.2]; rfl⟩, ⟨(HT.out.trans X3.out.2.1).step hTT (fun j e hj => by have := OWN.out j e; omega)⟩⟩, by simp [intOf]; omega⟩
        have := H1.out.2 (z :: zt) ((bd1.take k, e) :: st2) (.cons X3.out.2.2.2 (by have := EM.out; omega) HO.out h)
        rw [tk1, List.append_assoc, List.append_assoc]
        exact this
      · obtain rfl : i = zn := by omega
        clear zc
        go_wp2_with fail
        go_ret2
        have hst := HS.out.2 [] [] .nil
        rw [List.append_nil, List.append_nil, EZ.out, List.take_length] at hst
        exact ⟨rv, rfl, st1, Kd.R_lower HR.out.1 B2.out.size, hst, BW.out⟩
  · obtain rfl := h.1
    clear h
    have zc := Kd.C_below HZ.out.1 B2.out
    clear hBd
    go_wp2_with fail
    go_loopw [12, 35] (fun ov iv wr => ∃ (i : Nat) (rv : Value) (bd1 : List Int) (st1 : List (List Int × Int)), ov = rv ∧ iv = .int .i64 (i : Int) ∧ i ≤ zn ∧ Aside0 (Bdy wr s s b split (.iface 157 (.pointer (some ⟨b, 0, none⟩))) bd1 true rest ∧ ∀ zt st2, StepsOf bd1 zt st2 → StepsOf bd (zs.take i ++ zt) (st1 ++ st2)) ∧ Aside0 (kT.R 32 wr w2.heap.size (fun _ => True) rv st1 ∧ st1.length = i) ∧ Aside0 (Tch (fun j => j = s ∨ j = b) w2 wr)) (fun _ iv _ => zn - (intOf iv).toNat)
    case atStart => exact ⟨0, _, bd, [], rfl, rfl, Nat.zero_le _, ⟨HBD.out, fun zt st2 h => by simpa using h⟩, ⟨Kd.R_nil _ _ _ _ _, rfl⟩, ⟨Tch.refl _ _⟩⟩
    case round =>
      obtain ⟨i, rv, bd1, st1, erv, rfl, hi, HS, HR, HT⟩ := hrel
      obtain rfl := erv.symm
      have BW := Aside0.mk (HT.out.below B2.out B2.out.size (fun j q => by have := ES.out; have := LT.out; rcases q with q | q <;> omega))
      by_cases hlt : i < zn
      · have ez := EZ.out
        obtain ⟨z, zi⟩ : ∃ z, zs[i]? = some z := ⟨zs[i]'(by omega), List.getElem?_eq_getElem _⟩
        obtain ⟨ad, cs, eA, _, hK, hcc⟩ := Kd.C_get (Kd.C_below HZ.out.1 BW.out) (0 : Int) (i : Int) (by omega) (by omega)
        subst eA
        rw [Int.toNat_natCast, List.getD_eq_getElem?_getD, zi, Option.getD_some] at hK
        rw [Int.toNat_natCast] at hcc
        have hK' : cs = [.int .i64 z] := hK
        subst hK'
        have y0 : wr.cell? (ad.add (i * 1)) = some (.int .i64 z) := hcc 0 _ rfl
        have y1 : wr.cell? (ad.add i) = some (.int .i64 z) := by rw [Nat.mul_one] at y0; exact y0
        have zb := HZ.out.2 z (List.mem_of_getElem? zi)
        obtain ⟨m, em⟩ : ∃ m, (max 0 (min z 65536)).toNat = m := ⟨_, rfl⟩
        have WC := Aside0.mk (width_zero wr z zb.1 zb.2)
        rw [em] at WC
        have EM := Aside0.mk em
        have hm : m ≤ 65536 := by omega
        have ZI := Aside0.mk (And.intro zi zb)
        have iklt : (i : Int) < (zn : Int) := by omega
        have HE1 := Aside0.mk (E2.out.kept HT.out (fun j q => by have := LT.out; rcases q with q | q <;> omega))
        clear ez zi hK hcc zb em zc
        go_wp2_with fail
        refine WC.out.mono ?_
        rintro en w0 ⟨rfl, rfl⟩
        go_wp2_with ((with_reducible refine gate_dst (N := 41) rfl ?_); refine make8 w0.heap.size (w0 := w0) rfl (N := 41) rfl 22 5 (.tmp 40) (.tmp 40) rfl m rfl rfl rfl Tryd.underlying22 infoB (by omega) (Below.refl _ _) (Nat.le_refl _) ?_; intro g w1 hg1 _ hg2 hRb hB1 _; have H1 := Aside0.mk (And.intro (HS.out.1.below hB1) HS.out.2); have E1 := Aside0.mk (HE1.out.below hB1); have R1 := Aside0.mk (And.intro (Kd.R_below HR.out.1 hB1) HR.out.2); have RB := Aside0.mk hRb; have T1 := Aside0.mk (Tch.of_below (S := fun j => j = s ∨ j = b) hB1); have G1 := Aside0.mk (And.intro hg1 hg2); clear hB1 hRb hg1 hg2 y0 y1)
        have wz := HT.out.size
        have gs : g ≠ s := by have := G1.out; have := LT.out; omega
        have gb : g ≠ b := by have := G1.out; have := LT.out; omega
        have gd : s ≤ g := by have := G1.out; have := LT.out; omega
        refine (rd_spn H1.out.1 E1.out RB.out gs gd gb).mono ?_
        rintro en w3 ⟨k, e, er, rfl, k1, k2, ho, hB3, hR3, hT3⟩
        have kI : (k : Int) ≤ (m : Int) := by omega
        have k0 : (0 : Int) ≤ (k : Int) := by omega
        have OWN := Aside0.mk (show ∀ j, rv.ownBlock = some j → j < g ∧ w2.heap.size ≤ j from fun j e => ⟨by have := Kd.R_lt HR.out.1 j e; have := G1.out; omega, Kd.R_base HR.out.1 j e⟩)
        have TA : Tch (fun j => j = s ∨ j = b) w0 w3 := T1.out.step hT3 (fun j p hj => by have := G1.out; rcases p with p | p | p; omega; exact .inl p; exact .inr p)
        have SL := Aside0.mk (LT.out)
        have R3 := Aside0.mk (And.intro (Kd.R_mono (Kd.R_step (Kd.R_bound HR.out.1) (w1 := w3) (fun j hj hlt => TA.block j hlt (fun e => by have := hj.2.1; have := SL.out; rcases e with e | e <;> omega))) (ok' := fun _ => True) (fun _ _ => trivial)) HR.out.2)
        have D3 := Aside0.mk (Kd.R_mono (Kd.R_lower (Kd.R_bound hR3) (show w2.heap.size ≤ w0.heap.size from wz)) (ok' := fun j => w0.heap.size ≤ j) (fun j q => q.2.1))
        have X3 := Aside0.mk (And.intro hB3 (And.intro TA (And.intro k1 k2)))
        have wz3 := Aside0.mk (show w2.heap.size ≤ w3.heap.size from Nat.le_trans wz TA.size)
        have HE3 := Aside0.mk (HE1.out.kept TA (fun j q => by have := LT.out; rcases q with q | q <;> omega))
        have sl1 : ∀ W : World, (Instr.slice 22 (.slice (some ⟨g, 0, none⟩) m m) none (some (.int .i64 (k : Int))) none).run Tryd.prog W = .ok (.slice (some ⟨g, 0, none⟩) k m) W := (take8 (P := Tryd.prog) Tryd.underlying22 infoB (some ⟨g, 0, none⟩) m (List.replicate m 0) k (by simp; omega) (by simp) (n := m) (by simp)).1
        have EC : Aside0 (Calls Tryd.prog 37 #[er] w3.drew fun en w' => en = .returned (.int .i64 e) ∧ w' = w3.drew) := by
          rcases ho with ⟨rfl, rfl⟩ | ⟨rfl, _, rfl⟩
          · exact ⟨end_nil _⟩
          · exact ⟨end_eof (HE3.out.below (below_drew (Below.refl _ _)))⟩
        have HO := Aside0.mk (show e = 0 ∨ e = 1 ∧ bd1 = [] from by rcases ho with ⟨h, _⟩ | ⟨h, h2, _⟩; exact .inl h; exact .inr ⟨h, h2⟩)
        have BD := Aside0.mk (And.intro (show Below w2.heap.size w3 w3.drew from (below_drew (Below.refl w3.heap.size w3)).mono wz3.out) (show w2.heap.size ≤ w3.drew.heap.size from Nat.le_trans wz3.out (below_drew (Below.refl w3.heap.size w3)).size))
        clear ho hB3 hR3 hT3 TA gs gb gd wz k1
        go_wp2_with fail
        go_region_held3 (fun w' => Below w2.heap.size w3 w') (first | assumption | (exact BD.out.1) | (exact Below.alloc BD.out.1 BD.out.2 _) | (focus (go_grown; done)) | go_keep) ((first | (go_at_call 37; (with_reducible refine EC.out.mono ?_); rintro en w5 ⟨rfl, rfl⟩; have hB0 : Below w2.heap.size w3 w3.drew := BD.out.1) | ((refine Kd.R_append_step kT (w0 := w3) (W := w3.drew) w2.heap.size (by rfl) (.tmp 48) (.tmp 55) 28 32 (.agg #[.slice none 0 0, .int .i64 0]) 32 rfl Tryd.underlying28 infoT rfl (by decide) (by decide) _ st1 (bd1.take k, e) [.slice (some ⟨g, 0, none⟩) k m, .int .i64 e] (fun _ => True) (fun j => w0.heap.size ≤ j) rfl rfl ?hp ?hk (fun _ _ => trivial) ?ho ?hb ?hz ?hl ?_; (case hp => exact ⟨[.slice (some ⟨g, 0, none⟩) k m], [.int .i64 e], rfl, ⟨_, rfl, Kd.R_drew D3.out⟩, rfl⟩); (case hk => intro j hj; exact ⟨trivial, fun e => by have := OWN.out j e.symm; have := Kd.R_lt HR.out.1 j e.symm; omega⟩); (case ho => exact Kd.R_drew R3.out.1); (case hb => exact BD.out.1); (case hz => exact BD.out.2); (case hl => have := HR.out.2; omega); intro v1 w6 hR hB hG _; have R9 := Aside0.mk hR; have G9 := Aside0.mk hG; have hB0 : Below w2.heap.size w3 w6 := hB; clear hR hB hG))))
        go_wp2_with fail
        have hTT : Tch (fun j => rv.ownBlock = some j) w3 w6 := (Tch.refl (fun j => rv.ownBlock = some j) w3).drew.trans (Tch.of_grown G9.out)
        have tk1 : zs.take (i + 1) = zs.take i ++ [z] := by rw [List.take_add_one, ZI.out.1]; rfl
        refine ⟨⟨i + 1, v1, bd1.drop k, st1 ++ [(bd1.take k, e)], rfl, by first | rfl | go_num, hlt, ⟨X3.out.1.kept hTT (fun j e => by have := OWN.out j e; have := LT.out; omega), fun zt st2 h => ?_⟩, ⟨R9.out, by rw [List.length_append, HR.out.2]; rfl⟩, ⟨(HT.out.trans X3.out.2.1).step hTT (fun j e hj => by have := OWN.out j e; omega)⟩⟩, by simp [intOf]; omega⟩
        have := H1.out.2 (z :: zt) ((bd1.take k, e) :: st2) (.cons X3.out.2.2.2 (by have := EM.out; omega) HO.out h)
        rw [tk1, List.append_assoc, List.append_assoc]
        exact this
      · obtain rfl : i = zn := by omega
        clear zc
        go_wp2_with fail
        go_ret2
        have hst := HS.out.2 [] [] .nil
        rw [List.append_nil, List.append_nil, EZ.out, List.take_length] at hst
        exact ⟨rv, rfl, st1, Kd.R_lower HR.out.1 B2.out.size, hst, BW.out⟩
  · obtain rfl := h.1
    clear h
    have zc := Kd.C_below HZ.out.1 B2.out
    clear hBd
    go_wp2_with fail
    go_loopw [12, 35] (fun ov iv wr => ∃ (i : Nat) (rv : Value) (bd1 : List Int) (st1 : List (List Int × Int)), ov = rv ∧ iv = .int .i64 (i : Int) ∧ i ≤ zn ∧ Aside0 (Bdy wr s s b split (.iface 162 (.pointer (some ⟨b, 0, none⟩))) bd1 true rest ∧ ∀ zt st2, StepsOf bd1 zt st2 → StepsOf bd (zs.take i ++ zt) (st1 ++ st2)) ∧ Aside0 (kT.R 32 wr w2.heap.size (fun _ => True) rv st1 ∧ st1.length = i) ∧ Aside0 (Tch (fun j => j = s ∨ j = b) w2 wr)) (fun _ iv _ => zn - (intOf iv).toNat)
    case atStart => exact ⟨0, _, bd, [], rfl, rfl, Nat.zero_le _, ⟨HBD.out, fun zt st2 h => by simpa using h⟩, ⟨Kd.R_nil _ _ _ _ _, rfl⟩, ⟨Tch.refl _ _⟩⟩
    case round =>
      obtain ⟨i, rv, bd1, st1, erv, rfl, hi, HS, HR, HT⟩ := hrel
      obtain rfl := erv.symm
      have BW := Aside0.mk (HT.out.below B2.out B2.out.size (fun j q => by have := ES.out; have := LT.out; rcases q with q | q <;> omega))
      by_cases hlt : i < zn
      · have ez := EZ.out
        obtain ⟨z, zi⟩ : ∃ z, zs[i]? = some z := ⟨zs[i]'(by omega), List.getElem?_eq_getElem _⟩
        obtain ⟨ad, cs, eA, _, hK, hcc⟩ := Kd.C_get (Kd.C_below HZ.out.1 BW.out) (0 : Int) (i : Int) (by omega) (by omega)
        subst eA
        rw [Int.toNat_natCast, List.getD_eq_getElem?_getD, zi, Option.getD_some] at hK
        rw [Int.toNat_natCast] at hcc
        have hK' : cs = [.int .i64 z] := hK
        subst hK'
        have y0 : wr.cell? (ad.add (i * 1)) = some (.int .i64 z) := hcc 0 _ rfl
        have y1 : wr.cell? (ad.add i) = some (.int .i64 z) := by rw [Nat.mul_one] at y0; exact y0
        have zb := HZ.out.2 z (List.mem_of_getElem? zi)
        obtain ⟨m, em⟩ : ∃ m, (max 0 (min z 65536)).toNat = m := ⟨_, rfl⟩
        have WC := Aside0.mk (width_zero wr z zb.1 zb.2)
        rw [em] at WC
        have EM := Aside0.mk em
        have hm : m ≤ 65536 := by omega
        have ZI := Aside0.mk (And.intro zi zb)
        have iklt : (i : Int) < (zn : Int) := by omega
        have HE1 := Aside0.mk (E2.out.kept HT.out (fun j q => by have := LT.out; rcases q with q | q <;> omega))
        clear ez zi hK hcc zb em zc
        go_wp2_with fail
        refine WC.out.mono ?_
        rintro en w0 ⟨rfl, rfl⟩
        go_wp2_with ((with_reducible refine gate_dst (N := 41) rfl ?_); refine make8 w0.heap.size (w0 := w0) rfl (N := 41) rfl 22 5 (.tmp 40) (.tmp 40) rfl m rfl rfl rfl Tryd.underlying22 infoB (by omega) (Below.refl _ _) (Nat.le_refl _) ?_; intro g w1 hg1 _ hg2 hRb hB1 _; have H1 := Aside0.mk (And.intro (HS.out.1.below hB1) HS.out.2); have E1 := Aside0.mk (HE1.out.below hB1); have R1 := Aside0.mk (And.intro (Kd.R_below HR.out.1 hB1) HR.out.2); have RB := Aside0.mk hRb; have T1 := Aside0.mk (Tch.of_below (S := fun j => j = s ∨ j = b) hB1); have G1 := Aside0.mk (And.intro hg1 hg2); clear hB1 hRb hg1 hg2 y0 y1)
        have wz := HT.out.size
        have gs : g ≠ s := by have := G1.out; have := LT.out; omega
        have gb : g ≠ b := by have := G1.out; have := LT.out; omega
        have gd : s ≤ g := by have := G1.out; have := LT.out; omega
        refine (rd_prt H1.out.1 E1.out RB.out gs gd gb).mono ?_
        rintro en w3 ⟨k, e, er, rfl, k1, k2, ho, hB3, hR3, hT3⟩
        have kI : (k : Int) ≤ (m : Int) := by omega
        have k0 : (0 : Int) ≤ (k : Int) := by omega
        have OWN := Aside0.mk (show ∀ j, rv.ownBlock = some j → j < g ∧ w2.heap.size ≤ j from fun j e => ⟨by have := Kd.R_lt HR.out.1 j e; have := G1.out; omega, Kd.R_base HR.out.1 j e⟩)
        have TA : Tch (fun j => j = s ∨ j = b) w0 w3 := T1.out.step hT3 (fun j p hj => by have := G1.out; rcases p with p | p | p; omega; exact .inl p; exact .inr p)
        have SL := Aside0.mk (LT.out)
        have R3 := Aside0.mk (And.intro (Kd.R_mono (Kd.R_step (Kd.R_bound HR.out.1) (w1 := w3) (fun j hj hlt => TA.block j hlt (fun e => by have := hj.2.1; have := SL.out; rcases e with e | e <;> omega))) (ok' := fun _ => True) (fun _ _ => trivial)) HR.out.2)
        have D3 := Aside0.mk (Kd.R_mono (Kd.R_lower (Kd.R_bound hR3) (show w2.heap.size ≤ w0.heap.size from wz)) (ok' := fun j => w0.heap.size ≤ j) (fun j q => q.2.1))
        have X3 := Aside0.mk (And.intro hB3 (And.intro TA (And.intro k1 k2)))
        have wz3 := Aside0.mk (show w2.heap.size ≤ w3.heap.size from Nat.le_trans wz TA.size)
        have HE3 := Aside0.mk (HE1.out.kept TA (fun j q => by have := LT.out; rcases q with q | q <;> omega))
        have sl1 : ∀ W : World, (Instr.slice 22 (.slice (some ⟨g, 0, none⟩) m m) none (some (.int .i64 (k : Int))) none).run Tryd.prog W = .ok (.slice (some ⟨g, 0, none⟩) k m) W := (take8 (P := Tryd.prog) Tryd.underlying22 infoB (some ⟨g, 0, none⟩) m (List.replicate m 0) k (by simp; omega) (by simp) (n := m) (by simp)).1
        have EC : Aside0 (Calls Tryd.prog 37 #[er] w3.drew fun en w' => en = .returned (.int .i64 e) ∧ w' = w3.drew) := by
          rcases ho with ⟨rfl, rfl⟩ | ⟨rfl, _, rfl⟩
          · exact ⟨end_nil _⟩
          · exact ⟨end_eof (HE3.out.below (below_drew (Below.refl _ _)))⟩
        have HO := Aside0.mk (show e = 0 ∨ e = 1 ∧ bd1 = [] from by rcases ho with ⟨h, _⟩ | ⟨h, h2, _⟩; exact .inl h; exact .inr ⟨h, h2⟩)
        have BD := Aside0.mk (And.intro (show Below w2.heap.size w3 w3.drew from (below_drew (Below.refl w3.heap.size w3)).mono wz3.out) (show w2.heap.size ≤ w3.drew.heap.size from Nat.le_trans wz3.out (below_drew (Below.refl w3.heap.size w3)).size))
        clear ho hB3 hR3 hT3 TA gs gb gd wz k1
        go_wp2_with fail
        go_region_held3 (fun w' => Below w2.heap.size w3 w') (first | assumption | (exact BD.out.1) | (exact Below.alloc BD.out.1 BD.out.2 _) | (focus (go_grown; done)) | go_keep) ((first | (go_at_call 37; (with_reducible refine EC.out.mono ?_); rintro en w5 ⟨rfl, rfl⟩; have hB0 : Below w2.heap.size w3 w3.drew := BD.out.1) | ((refine Kd.R_append_step kT (w0 := w3) (W := w3.drew) w2.heap.size (by rfl) (.tmp 48) (.tmp 55) 28 32 (.agg #[.slice none 0 0, .int .i64 0]) 32 rfl Tryd.underlying28 infoT rfl (by decide) (by decide) _ st1 (bd1.take k, e) [.slice (some ⟨g, 0, none⟩) k m, .int .i64 e] (fun _ => True) (fun j => w0.heap.size ≤ j) rfl rfl ?hp ?hk (fun _ _ => trivial) ?ho ?hb ?hz ?hl ?_; (case hp => exact ⟨[.slice (some ⟨g, 0, none⟩) k m], [.int .i64 e], rfl, ⟨_, rfl, Kd.R_drew D3.out⟩, rfl⟩); (case hk => intro j hj; exact ⟨trivial, fun e => by have := OWN.out j e.symm; have := Kd.R_lt HR.out.1 j e.symm; omega⟩); (case ho => exact Kd.R_drew R3.out.1); (case hb => exact BD.out.1); (case hz => exact BD.out.2); (case hl => have := HR.out.2; omega); intro v1 w6 hR hB hG _; have R9 := Aside0.mk hR; have G9 := Aside0.mk hG; have hB0 : Below w2.heap.size w3 w6 := hB; clear hR hB hG))))
        go_wp2_with fail
        have hTT : Tch (fun j => rv.ownBlock = some j) w3 w6 := (Tch.refl (fun j => rv.ownBlock = some j) w3).drew.trans (Tch.of_grown G9.out)
        have tk1 : zs.take (i + 1) = zs.take i ++ [z] := by rw [List.take_add_one, ZI.out.1]; rfl
        refine ⟨⟨i + 1, v1, bd1.drop k, st1 ++ [(bd1.take k, e)], rfl, by first | rfl | go_num, hlt, ⟨X3.out.1.kept hTT (fun j e => by have := OWN.out j e; have := LT.out; omega), fun zt st2 h => ?_⟩, ⟨R9.out, by rw [List.length_append, HR.out.2]; rfl⟩, ⟨(HT.out.trans X3.out.2.1).step hTT (fun j e hj => by have := OWN.out j e; omega)⟩⟩, by simp [intOf]; omega⟩
        have := H1.out.2 (z :: zt) ((bd1.take k, e) :: st2) (.cons X3.out.2.2.2 (by have := EM.out; omega) HO.out h)
        rw [tk1, List.append_assoc, List.append_assoc]
        exact this
      · obtain rfl : i = zn := by omega
        clear zc
        go_wp2_with fail
        go_ret2
        have hst := HS.out.2 [] [] .nil
        rw [List.append_nil, List.append_nil, EZ.out, List.take_length] at hst
        exact ⟨rv, rfl, st1, Kd.R_lower HR.out.1 B2.out.size, hst, BW.out⟩
end Go.Proofs.YtjdnnpfhlkgooaaDoor.Rd
