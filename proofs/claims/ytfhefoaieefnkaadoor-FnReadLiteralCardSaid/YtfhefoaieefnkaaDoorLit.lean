/- packet.LiteralData.parse over any reader of a body. -/
import Derived.Test.YtfhefoaieefnkaaDoorRab
import Derived.Test.YtfhefoaieefnkaaDoorRdh
set_option linter.unusedVariables false
set_option linter.unusedSimpArgs false
namespace Go.Proofs.YtfhefoaieefnkaaDoor.Rd
open Go.RowKit Go.Proofs.YtfhefoaieefnkaaDoorW.PrintWords Go.Proofs.YtfhefoaieefnkaaDoorW.PrintMore Go.Proofs.YtfhefoaieefnkaaDoor.Kit

theorem buf256 (w : World) : ∃ W, w.alloc (.cells Tryd.zeroCells226 226) = W ∧ R8 226 W w.heap.size (.slice (some ⟨w.heap.size, 0, none⟩) 256 256) (List.replicate 256 0) ∧ Below w.heap.size w W := by
  have e : Tryd.zeroCells226 = (nums .u8 (List.replicate 256 0)).toArray := by kernel_rfl
  rw [e]
  have q : R8 226 (w.alloc (.cells (nums .u8 (List.replicate 256 0)).toArray 226)) w.heap.size (.slice (some ⟨w.heap.size, 0, none⟩) (List.replicate 256 (0 : Int)).length (List.replicate 256 (0 : Int)).length) (List.replicate 256 0) := Kd.R_of_own (own_lit w w.heap.size 226 .u8 (List.replicate 256 0) (Nat.le_refl _) (by rw [List.length_replicate]; decide)) (fun _ _ => trivial)
  rw [List.length_replicate] at q
  exact ⟨_, rfl, q, below_alloc (Below.refl _ _) _⟩
theorem rfb_ok {w : World} {d s b : Nat} {split : Int} {tv : TypeId} {bd rest : List Int} {ok : Bool} {aE aU : Addr} (h : Bdy w d s b split (.iface tv (.pointer (some ⟨b, 0, none⟩))) bd ok rest) (hE : Env w d aE aU) {e base g off N cap M mc : Nat} {xs : List Int} (hD : R8 e w base (.slice (some ⟨g, 0, none⟩) N cap) xs) (h1 : off + M ≤ N) (hmc : M ≤ mc) (hM : M ≤ 100000000) (gs : g ≠ s) (gd : d ≤ g) (gb : g ≠ b) (hl : M ≤ bd.length) :
    Calls Tryd.prog 83 #[(.iface tv (.pointer (some ⟨b, 0, none⟩))), .slice (some ⟨g, off, none⟩) M mc] w fun en w' => en = .returned (.tuple #[.int .i64 (M : Int), .nilIface]) ∧ Bdy w' d s b split (.iface tv (.pointer (some ⟨b, 0, none⟩))) (bd.drop M) ok rest ∧ R8 e w' base (.slice (some ⟨g, 0, none⟩) N cap) (xs.take off ++ (bd.take M ++ xs.drop (off + M))) ∧ Env w' d aE aU ∧ Tch (fun j => j = g ∨ j = s ∨ j = b) w w' :=
  (rfullB h hE hD h1 hmc hM gs gd gb).mono (fun en w' ⟨k, ok', rest', e1, e2, e3, hB, hR, hT⟩ => by
    have e4 : k = M := by omega
    subst e4
    rw [if_pos rfl] at e2
    obtain ⟨rfl, rfl⟩ := e3 rfl
    exact ⟨e2, hB, hR, hE.kept hT (fun j q => by have := h.ds; have := h.db; rcases q with q | q | q <;> subst q <;> assumption), hT⟩)
theorem rfb_no {w : World} {d s b : Nat} {split : Int} {tv : TypeId} {bd rest : List Int} {ok : Bool} {aE aU : Addr} (h : Bdy w d s b split (.iface tv (.pointer (some ⟨b, 0, none⟩))) bd ok rest) (hE : Env w d aE aU) {e base g off N cap M mc : Nat} {xs : List Int} (hD : R8 e w base (.slice (some ⟨g, 0, none⟩) N cap) xs) (h1 : off + M ≤ N) (hmc : M ≤ mc) (hM : M ≤ 100000000) (gs : g ≠ s) (gd : d ≤ g) (gb : g ≠ b) (hl : bd.length < M) :
    Calls Tryd.prog 83 #[(.iface tv (.pointer (some ⟨b, 0, none⟩))), .slice (some ⟨g, off, none⟩) M mc] w fun en w' => en = .returned (.tuple #[.int .i64 (bd.length : Int), (.iface 206 (.pointer (some aU)))]) ∧ Env w' d aE aU ∧ Tch (fun j => j = g ∨ j = s ∨ j = b) w w' :=
  (rfullB h hE hD h1 hmc hM gs gd gb).mono (fun en w' ⟨k, ok', rest', e1, e2, e3, hB, hR, hT⟩ => by
    have e4 : k = bd.length := by omega
    subst e4
    rw [if_neg (by omega)] at e2
    exact ⟨e2, hE.kept hT (fun j q => by have := h.ds; have := h.db; rcases q with q | q | q <;> subst q <;> assumption), hT⟩)
theorem Bdy.shape {w : World} {d s b : Nat} {split : Int} {v : Value} {bd rest : List Int} {ok : Bool} (h : Bdy w d s b split v bd ok rest) : ∃ tv, v = (.iface tv (.pointer (some ⟨b, 0, none⟩))) := by
  rcases h with ⟨rfl, rfl, _⟩ | ⟨rfl, _⟩ | ⟨rfl, _⟩
  · exact ⟨_, rfl⟩
  · exact ⟨_, rfl⟩
  · exact ⟨_, rfl⟩
theorem ofInt_u32 (a : Nat) (ha : a < 4294967296) : (BitVec.ofInt 32 (a : Int)).toNat = a := by
  rw [BitVec.ofInt_natCast, BitVec.toNat_ofNat]; exact Nat.mod_eq_of_lt (by omega)
/-- Two numbers that share no bit: the lower one first. -/
theorem u32_join (i : Nat) (x y : Nat) (hx : x < 2 ^ i) (hy : y % 2 ^ i = 0) (x2 : x < 4294967296) (y2 : y < 4294967296) (hs : x + y < 4294967296) : Go.bits .or .u32 (x : Int) (y : Int) = ((y + x : Nat) : Int) := by
  show IntKind.u32.wrap ((BitVec.ofInt 32 (x : Int) ||| BitVec.ofInt 32 (y : Int)).toNat : Int) = _
  rw [BitVec.toNat_or, ofInt_u32 x x2, ofInt_u32 y y2, Nat.or_comm, nat_join i y x hy hx]
  exact IntWalk.u32_in _ (by omega)
theorem tch4 {w w1 w2 : World} {g s b o : Nat} (h : Tch (fun j => j = g ∨ j = s ∨ j = b) w w1) (k : Tch (fun j => j = o) w1 w2) : Tch (fun j => j = g ∨ j = s ∨ j = b ∨ j = o) w w2 :=
  (h.mono (fun j q => by rcases q with q | q | q; exact .inl q; exact .inr (.inl q); exact .inr (.inr (.inl q)))).trans (k.mono (fun j q => .inr (.inr (.inr q))))
/-- Four octets as a number, the highest first. -/
def num4 (a b c d : Nat) : Nat := a * 16777216 + b * 65536 + c * 256 + d
set_option maxHeartbeats 1600000 in
set_option maxRecDepth 100000 in
theorem u32_calls {w : World} {g cc : Nat} {a b c d : Nat} (f0 : w.cell? ⟨g, 0, none⟩ = some (.int .u8 (a : Int))) (f1 : w.cell? ⟨g, 1, none⟩ = some (.int .u8 (b : Int))) (f2 : w.cell? ⟨g, 2, none⟩ = some (.int .u8 (c : Int))) (f3 : w.cell? ⟨g, 3, none⟩ = some (.int .u8 (d : Int))) (ha : a < 256) (hb : b < 256) (hc : c < 256) (hd : d < 256) :
    Calls Tryd.prog 119 #[.agg #[], .slice (some ⟨g, 0, none⟩) 4 cc] w fun en w' => en = .returned (.int .u32 (num4 a b c d : Int)) ∧ Below w.heap.size w w' := by
  obtain ⟨W, eW, hB⟩ : ∃ W, w.alloc (.cells #[] 227) = W ∧ Below w.heap.size w W := ⟨_, rfl, below_alloc (Below.refl _ _) _⟩
  have gl := World.block_lt_of_cell? w _ f0
  replace f0 := (hB.cell (p := ⟨g, 0, none⟩) gl).trans f0
  replace f1 := (hB.cell (p := ⟨g, 1, none⟩) gl).trans f1
  replace f2 := (hB.cell (p := ⟨g, 2, none⟩) gl).trans f2
  replace f3 := (hB.cell (p := ⟨g, 3, none⟩) gl).trans f3
  have B0 := Aside0.mk hB
  clear hB gl
  have o1 : Go.bits .or .u32 (d : Int) ((c : Int) * 256) = (c : Int) * 256 + (d : Int) := by
    have := u32_join 8 d (c * 256) (by omega) (by omega) (by omega) (by omega) (by omega)
    rw [show ((c * 256 : Nat) : Int) = (c : Int) * 256 by omega] at this
    rw [this]; omega
  have o2 : Go.bits .or .u32 ((c : Int) * 256 + (d : Int)) ((b : Int) * 65536) = (b : Int) * 65536 + (c : Int) * 256 + (d : Int) := by
    have := u32_join 16 (c * 256 + d) (b * 65536) (by omega) (by omega) (by omega) (by omega) (by omega)
    rw [show ((b * 65536 : Nat) : Int) = (b : Int) * 65536 by omega, show ((c * 256 + d : Nat) : Int) = (c : Int) * 256 + (d : Int) by omega] at this
    rw [this]; omega
  have o3 : Go.bits .or .u32 ((b : Int) * 65536 + (c : Int) * 256 + (d : Int)) ((a : Int) * 16777216) = (num4 a b c d : Int) := by
    have := u32_join 24 (b * 65536 + c * 256 + d) (a * 16777216) (by omega) (by omega) (by omega) (by omega) (by omega)
    rw [show ((a * 16777216 : Nat) : Int) = (a : Int) * 16777216 by omega, show ((b * 65536 + c * 256 + d : Nat) : Int) = (b : Int) * 65536 + (c : Int) * 256 + (d : Int) by omega] at this
    rw [this]; unfold num4; omega
  go_enter Tryd.func119, Tryd.ntmps119
  go_upto_region 2 with (fail)
  clear eW
  go_quiet (fail)
  go_wp2
  go_ret
  exact ⟨rfl, pw_below_drewN B0.out _⟩
/-- A LiteralData at block o. -/
structure Ltd (w : World) (o : Nat) (c0 : Int) (c1 : Bool) (c2 : ByteArray) (c3 : Int) (c4 : Value) : Prop where
  e0 : w.cell? ⟨o, 0, none⟩ = some (.int .u8 c0)
  e1 : w.cell? ⟨o, 1, none⟩ = some (.bool c1)
  e2 : w.cell? ⟨o, 2, none⟩ = some (.string c2)
  e3 : w.cell? ⟨o, 3, none⟩ = some (.int .u32 c3)
  e4 : w.cell? ⟨o, 4, none⟩ = some c4
  z0 : w.frozen? ⟨o, 0, none⟩ = false
  z1 : w.frozen? ⟨o, 1, none⟩ = false
  z2 : w.frozen? ⟨o, 2, none⟩ = false
  z3 : w.frozen? ⟨o, 3, none⟩ = false
  z4 : w.frozen? ⟨o, 4, none⟩ = false
section
variable {w w1 : World} {o : Nat} {c0 : Int} {c1 : Bool} {c2 : ByteArray} {c3 : Int} {c4 : Value} {T : Nat → Prop}
theorem Ltd.lt (h : Ltd w o c0 c1 c2 c3 c4) : o < w.heap.size := World.block_lt_of_cell? w _ h.e0
theorem Ltd.kept (h : Ltd w o c0 c1 c2 c3 c4) (hT : Tch T w w1) (hn : ¬ T o) : Ltd w1 o c0 c1 c2 c3 c4 :=
  ⟨hT.cell h.e0 hn, hT.cell h.e1 hn, hT.cell h.e2 hn, hT.cell h.e3 hn, hT.cell h.e4 hn, (hT.frozen (p := ⟨o, 0, none⟩) h.lt hn).trans h.z0, (hT.frozen (p := ⟨o, 1, none⟩) h.lt hn).trans h.z1, (hT.frozen (p := ⟨o, 2, none⟩) h.lt hn).trans h.z2, (hT.frozen (p := ⟨o, 3, none⟩) h.lt hn).trans h.z3, (hT.frozen (p := ⟨o, 4, none⟩) h.lt hn).trans h.z4⟩
theorem Ltd.put01 (h : Ltd w o c0 c1 c2 c3 c4) (n : Int) : Ltd (w.setCell ⟨o, 0, none⟩ (.int .u8 n)) o n c1 c2 c3 c4 := by
  have e0 := h.e0
  have e1 := h.e1
  have e2 := h.e2
  have e3 := h.e3
  have e4 := h.e4
  have z0 := h.z0
  have z1 := h.z1
  have z2 := h.z2
  have z3 := h.z3
  have z4 := h.z4
  exact ⟨by simp [go_sem, *], by simp [go_sem, *], by simp [go_sem, *], by simp [go_sem, *], by simp [go_sem, *], by simp [go_sem, *], by simp [go_sem, *], by simp [go_sem, *], by simp [go_sem, *], by simp [go_sem, *]⟩
theorem Ltd.put1 (h : Ltd w o c0 c1 c2 c3 c4) (n : Bool) : Ltd (w.setCell ⟨o, 1, none⟩ (.bool n)) o c0 n c2 c3 c4 := by
  have e0 := h.e0
  have e1 := h.e1
  have e2 := h.e2
  have e3 := h.e3
  have e4 := h.e4
  have z0 := h.z0
  have z1 := h.z1
  have z2 := h.z2
  have z3 := h.z3
  have z4 := h.z4
  exact ⟨by simp [go_sem, *], by simp [go_sem, *], by simp [go_sem, *], by simp [go_sem, *], by simp [go_sem, *], by simp [go_sem, *], by simp [go_sem, *], by simp [go_sem, *], by simp [go_sem, *], by simp [go_sem, *]⟩
theorem Ltd.put2 (h : Ltd w o c0 c1 c2 c3 c4) (n : ByteArray) : Ltd (w.setCell ⟨o, 2, none⟩ (.string n)) o c0 c1 n c3 c4 := by
  have e0 := h.e0
  have e1 := h.e1
  have e2 := h.e2
  have e3 := h.e3
  have e4 := h.e4
  have z0 := h.z0
  have z1 := h.z1
  have z2 := h.z2
  have z3 := h.z3
  have z4 := h.z4
  exact ⟨by simp [go_sem, *], by simp [go_sem, *], by simp [go_sem, *], by simp [go_sem, *], by simp [go_sem, *], by simp [go_sem, *], by simp [go_sem, *], by simp [go_sem, *], by simp [go_sem, *], by simp [go_sem, *]⟩
theorem Ltd.put3 (h : Ltd w o c0 c1 c2 c3 c4) (n : Int) : Ltd (w.setCell ⟨o, 3, none⟩ (.int .u32 n)) o c0 c1 c2 n c4 := by
  have e0 := h.e0
  have e1 := h.e1
  have e2 := h.e2
  have e3 := h.e3
  have e4 := h.e4
  have z0 := h.z0
  have z1 := h.z1
  have z2 := h.z2
  have z3 := h.z3
  have z4 := h.z4
  exact ⟨by simp [go_sem, *], by simp [go_sem, *], by simp [go_sem, *], by simp [go_sem, *], by simp [go_sem, *], by simp [go_sem, *], by simp [go_sem, *], by simp [go_sem, *], by simp [go_sem, *], by simp [go_sem, *]⟩
theorem Ltd.put4 (h : Ltd w o c0 c1 c2 c3 c4) (t : TypeId) (n : Value) : Ltd (w.setCell ⟨o, 4, none⟩ (.iface t n)) o c0 c1 c2 c3 (.iface t n) := by
  have e0 := h.e0
  have e1 := h.e1
  have e2 := h.e2
  have e3 := h.e3
  have e4 := h.e4
  have z0 := h.z0
  have z1 := h.z1
  have z2 := h.z2
  have z3 := h.z3
  have z4 := h.z4
  exact ⟨by simp [go_sem, *], by simp [go_sem, *], by simp [go_sem, *], by simp [go_sem, *], by simp [go_sem, *], by simp [go_sem, *], by simp [go_sem, *], by simp [go_sem, *], by simp [go_sem, *], by simp [go_sem, *]⟩
end
set_option maxHeartbeats 3200000 in
set_option maxRecDepth 100000 in
theorem lit_no0 {w : World} {d s b : Nat} {split : Int} {tv : TypeId} {bd rest : List Int} {ok : Bool} {aE aU : Addr} (h : Bdy w d s b split (.iface tv (.pointer (some ⟨b, 0, none⟩))) bd ok rest) (hE : Env w d aE aU) {o : Nat} (ho : Ltd w o 0 false ByteArray.empty 0 .nilIface) (od : d ≤ o) (os : o ≠ s) (ob : o ≠ b) (hl : bd.length < 2) :
    Calls Tryd.prog 118 #[.pointer (some ⟨o, 0, none⟩), (.iface tv (.pointer (some ⟨b, 0, none⟩)))] w (fun en w' => en = .returned (.iface 206 (.pointer (some aU))) ∧ Tch (fun j => j = s ∨ j = b ∨ j = o) w w') := by
  obtain ⟨W, eW, hR0, hB0⟩ := buf256 w
  have H0 := Aside0.mk (h.below hB0)
  have E0 := Aside0.mk (hE.below hB0)
  have R0 := Aside0.mk hR0
  have B0 := Aside0.mk hB0
  have sl := h.lts
  have bl := h.ltb
  have ds := h.ds
  have db := h.db
  have gs : w.heap.size ≠ s := by omega
  have gb : w.heap.size ≠ b := by omega
  have gd : d ≤ w.heap.size := by omega
  clear h hE hR0 hB0 ho
  go_enter Tryd.func118, Tryd.ntmps118
  go_upto_region 2 with (fail)
  clear eW
  obtain ⟨g, eg⟩ : ∃ g, w.heap.size = g := ⟨_, rfl⟩
  have EG := Aside0.mk eg
  rw [eg] at gs gb gd sl bl R0 ⊢
  clear eg
  go_wp2_with fail
  refine (rfb_no H0.out E0.out R0.out (show 0 + 2 ≤ 256 by omega) (show 2 ≤ 256 by omega) (by omega) gs gd gb hl).mono ?_
  rintro en w1 ⟨rfl, hE1, hT⟩
  have T1 := Aside0.mk hT
  clear hE1 hT
  go_wp2_with fail
  go_ret
  have TB : Tch (fun j => j = g ∨ j = s ∨ j = b ∨ j = o) w W := Tch.of_below (by have := B0.out; exact this)
  exact ⟨rfl, (Tch.refl _ w).step (TB.trans (T1.out.mono (fun j q => by rcases q with q | q | q; exact .inl q; exact .inr (.inl q); exact .inr (.inr (.inl q))))) (fun j q hj => by have := EG.out; rcases q with q | q; omega; exact q)⟩
set_option maxHeartbeats 3200000 in
set_option maxRecDepth 100000 in
theorem lit_no1 {w : World} {d s b : Nat} {split : Int} {tv : TypeId} {bd rest : List Int} {ok : Bool} {aE aU : Addr} (h : Bdy w d s b split (.iface tv (.pointer (some ⟨b, 0, none⟩))) bd ok rest) (hE : Env w d aE aU) {o : Nat} (ho : Ltd w o 0 false ByteArray.empty 0 .nilIface) (od : d ≤ o) (os : o ≠ s) (ob : o ≠ b) {f n : Nat} {t : List Int} (hne : bd = (f : Int) :: (n : Int) :: t) (hf : f < 256) (hn : n < 256) (hl : t.length < n) :
    Calls Tryd.prog 118 #[.pointer (some ⟨o, 0, none⟩), (.iface tv (.pointer (some ⟨b, 0, none⟩)))] w (fun en w' => en = .returned (.iface 206 (.pointer (some aU))) ∧ Tch (fun j => j = s ∨ j = b ∨ j = o) w w') := by
  obtain ⟨W, eW, hR0, hB0⟩ := buf256 w
  have H0 := Aside0.mk (h.below hB0)
  have E0 := Aside0.mk (hE.below hB0)
  have R0 := Aside0.mk hR0
  have B0 := Aside0.mk hB0
  have sl := h.lts
  have bl := h.ltb
  have ds := h.ds
  have db := h.db
  have gs : w.heap.size ≠ s := by omega
  have gb : w.heap.size ≠ b := by omega
  have gd : d ≤ w.heap.size := by omega
  have ol := ho.lt
  have O0 := Aside0.mk (ho.kept (Tch.of_below (S := fun _ => False) hB0) id)
  clear h hE hR0 hB0 ho
  go_enter Tryd.func118, Tryd.ntmps118
  go_upto_region 2 with (fail)
  clear eW
  obtain ⟨g, eg⟩ : ∃ g, w.heap.size = g := ⟨_, rfl⟩
  have EG := Aside0.mk eg
  rw [eg] at gs gb gd sl bl ol R0 ⊢
  clear eg
  go_wp2_with fail
  have HN := Aside0.mk hne
  refine (rfb_ok H0.out E0.out R0.out (show 0 + 2 ≤ 256 by omega) (show 2 ≤ 256 by omega) (by omega) gs gd gb (by rw [HN.out]; simp)).mono ?_
  rintro en w1 ⟨rfl, hBd, hR, hE1, hT⟩
  rw [HN.out] at hBd hR
  have hR' : R8 226 w1 g (.slice (some ⟨g, 0, none⟩) 256 256) ((f : Int) :: (n : Int) :: List.replicate 254 0) := hR
  have fy0 : w1.cell? ⟨g, 0, none⟩ = some (.int .u8 (f : Int)) := (Kd.R_celln (0 : Int) (h1 := fun _ => rfl) (enc := Value.int .u8) hR' (0 : Int) (by decide) (by decide)).1
  have fy1 : w1.cell? ⟨g, 1, none⟩ = some (.int .u8 (n : Int)) := (Kd.R_celln (0 : Int) (h1 := fun _ => rfl) (enc := Value.int .u8) hR' (1 : Int) (by decide) (by decide)).1
  have ho1 := O0.out.kept hT (fun q => by rcases q with q | q | q <;> omega)
  have e0 := ho1.e0
  have e1 := ho1.e1
  have z0 := ho1.z0
  have z1 := ho1.z1
  have T1 := Aside0.mk hT
  have S1 := Aside0.mk (show Bdy w1 d s b split (.iface tv (.pointer (some ⟨b, 0, none⟩))) t ok rest from hBd)
  have R1 := Aside0.mk hR'
  have E1 := Aside0.mk hE1
  have O1 := Aside0.mk ho1
  have fl : f < 256 := by omega
  clear hBd hR hR' hE1 hT ho1
  go_upto_region 7 with (fail)
  have hT2 : Tch (fun j => j = o) w1 ((w1.setCell ⟨o, 0, none⟩ (.int .u8 (f : Int))).setCell ⟨o, 1, none⟩ (.bool ((f : Int) == 98))) := ((Tch.refl (fun j => j = o) w1).setCell (p := ⟨o, 0, none⟩) (fun _ => rfl) _).setCell (p := ⟨o, 1, none⟩) (fun _ => rfl) _
  have O2 := (O1.out.put01 (f : Int)).put1 ((f : Int) == 98)
  have S2 := S1.out.kept hT2 (fun j q => by subst q; exact ⟨od, os, ob⟩)
  have E2 := E1.out.kept hT2 (fun j q => by subst q; exact od)
  have R2 := hT2.r8 R1.out (fun j e q => by simp [Value.ownBlock] at e; omega)
  generalize (w1.setCell ⟨o, 0, none⟩ (.int .u8 (f : Int))).setCell ⟨o, 1, none⟩ (.bool ((f : Int) == 98)) = w2 at hT2 O2 S2 E2 R2 ⊢
  have T2 := Aside0.mk (tch4 T1.out hT2)
  have O2 := Aside0.mk O2
  have S2 := Aside0.mk S2
  have E2 := Aside0.mk E2
  have R2 := Aside0.mk R2
  clear hT2 fy0 fy1 e0 e1 z0 z1
  have ni0 : (0 : Int) ≤ (n : Int) := by omega
  have ni1 : (n : Int) ≤ 256 := by omega
  go_wp2_with fail
  refine (rfb_no S2.out E2.out R2.out (show 0 + n ≤ 256 by omega) (show n ≤ 256 by omega) (by omega) gs gd gb hl).mono ?_
  rintro en w3 ⟨rfl, hE3, hT3⟩
  have T3 := Aside0.mk hT3
  clear hE3 hT3
  go_wp2_with fail
  go_ret
  have TB : Tch (fun j => j = g ∨ j = s ∨ j = b ∨ j = o) w W := Tch.of_below (by have := B0.out; exact this)
  exact ⟨rfl, (Tch.refl _ w).step ((TB.trans T2.out).trans (T3.out.mono (fun j q => by rcases q with q | q | q; exact .inl q; exact .inr (.inl q); exact .inr (.inr (.inl q))))) (fun j q hj => by have := EG.out; rcases q with q | q; omega; exact q)⟩
set_option maxHeartbeats 3200000 in
set_option maxRecDepth 100000 in
theorem lit_no2 {w : World} {d s b : Nat} {split : Int} {tv : TypeId} {bd rest : List Int} {ok : Bool} {aE aU : Addr} (h : Bdy w d s b split (.iface tv (.pointer (some ⟨b, 0, none⟩))) bd ok rest) (hE : Env w d aE aU) {o : Nat} (ho : Ltd w o 0 false ByteArray.empty 0 .nilIface) (od : d ≤ o) (os : o ≠ s) (ob : o ≠ b) {f n : Nat} {t : List Int} (hne : bd = (f : Int) :: (n : Int) :: t) (hf : f < 256) (hn : n < 256) (hl : n ≤ t.length) (hl2 : (t.drop n).length < 4) :
    Calls Tryd.prog 118 #[.pointer (some ⟨o, 0, none⟩), (.iface tv (.pointer (some ⟨b, 0, none⟩)))] w (fun en w' => en = .returned (.iface 206 (.pointer (some aU))) ∧ Tch (fun j => j = s ∨ j = b ∨ j = o) w w') := by
  obtain ⟨W, eW, hR0, hB0⟩ := buf256 w
  have H0 := Aside0.mk (h.below hB0)
  have E0 := Aside0.mk (hE.below hB0)
  have R0 := Aside0.mk hR0
  have B0 := Aside0.mk hB0
  have sl := h.lts
  have bl := h.ltb
  have ds := h.ds
  have db := h.db
  have gs : w.heap.size ≠ s := by omega
  have gb : w.heap.size ≠ b := by omega
  have gd : d ≤ w.heap.size := by omega
  have ol := ho.lt
  have O0 := Aside0.mk (ho.kept (Tch.of_below (S := fun _ => False) hB0) id)
  clear h hE hR0 hB0 ho
  go_enter Tryd.func118, Tryd.ntmps118
  go_upto_region 2 with (fail)
  clear eW
  obtain ⟨g, eg⟩ : ∃ g, w.heap.size = g := ⟨_, rfl⟩
  have EG := Aside0.mk eg
  rw [eg] at gs gb gd sl bl ol R0 ⊢
  clear eg
  go_wp2_with fail
  have HL2 := Aside0.mk hl2
  clear hl2
  have HN := Aside0.mk hne
  refine (rfb_ok H0.out E0.out R0.out (show 0 + 2 ≤ 256 by omega) (show 2 ≤ 256 by omega) (by omega) gs gd gb (by rw [HN.out]; simp)).mono ?_
  rintro en w1 ⟨rfl, hBd, hR, hE1, hT⟩
  rw [HN.out] at hBd hR
  have hR' : R8 226 w1 g (.slice (some ⟨g, 0, none⟩) 256 256) ((f : Int) :: (n : Int) :: List.replicate 254 0) := hR
  have fy0 : w1.cell? ⟨g, 0, none⟩ = some (.int .u8 (f : Int)) := (Kd.R_celln (0 : Int) (h1 := fun _ => rfl) (enc := Value.int .u8) hR' (0 : Int) (by decide) (by decide)).1
  have fy1 : w1.cell? ⟨g, 1, none⟩ = some (.int .u8 (n : Int)) := (Kd.R_celln (0 : Int) (h1 := fun _ => rfl) (enc := Value.int .u8) hR' (1 : Int) (by decide) (by decide)).1
  have ho1 := O0.out.kept hT (fun q => by rcases q with q | q | q <;> omega)
  have e0 := ho1.e0
  have e1 := ho1.e1
  have z0 := ho1.z0
  have z1 := ho1.z1
  have T1 := Aside0.mk hT
  have S1 := Aside0.mk (show Bdy w1 d s b split (.iface tv (.pointer (some ⟨b, 0, none⟩))) t ok rest from hBd)
  have R1 := Aside0.mk hR'
  have E1 := Aside0.mk hE1
  have O1 := Aside0.mk ho1
  have fl : f < 256 := by omega
  clear hBd hR hR' hE1 hT ho1
  go_upto_region 7 with (fail)
  have hT2 : Tch (fun j => j = o) w1 ((w1.setCell ⟨o, 0, none⟩ (.int .u8 (f : Int))).setCell ⟨o, 1, none⟩ (.bool ((f : Int) == 98))) := ((Tch.refl (fun j => j = o) w1).setCell (p := ⟨o, 0, none⟩) (fun _ => rfl) _).setCell (p := ⟨o, 1, none⟩) (fun _ => rfl) _
  have O2 := (O1.out.put01 (f : Int)).put1 ((f : Int) == 98)
  have S2 := S1.out.kept hT2 (fun j q => by subst q; exact ⟨od, os, ob⟩)
  have E2 := E1.out.kept hT2 (fun j q => by subst q; exact od)
  have R2 := hT2.r8 R1.out (fun j e q => by simp [Value.ownBlock] at e; omega)
  generalize (w1.setCell ⟨o, 0, none⟩ (.int .u8 (f : Int))).setCell ⟨o, 1, none⟩ (.bool ((f : Int) == 98)) = w2 at hT2 O2 S2 E2 R2 ⊢
  have T2 := Aside0.mk (tch4 T1.out hT2)
  have O2 := Aside0.mk O2
  have S2 := Aside0.mk S2
  have E2 := Aside0.mk E2
  have R2 := Aside0.mk R2
  clear hT2 fy0 fy1 e0 e1 z0 z1
  have ni0 : (0 : Int) ≤ (n : Int) := by omega
  have ni1 : (n : Int) ≤ 256 := by omega
  go_wp2_with fail
  refine (rfb_ok S2.out E2.out R2.out (show 0 + n ≤ 256 by omega) (show n ≤ 256 by omega) (by omega) gs gd gb (show n ≤ t.length by omega)).mono ?_
  rintro en w3 ⟨rfl, hBd, hR, hE3, hT3⟩
  have tkn : (t.take n).length = n := by rw [List.length_take]; omega
  have hC3 : C8 w3 (some ⟨g, 0, none⟩) (t.take n) := by
    obtain ⟨A9, c9, e9, _, hC9⟩ := r8_reads hR
    injection e9 with e91 e92 e93
    subst e91
    have q := Kd.C_take (m := n) hC9 (by rw [← e92]; omega)
    rw [List.take_zero, List.nil_append, List.take_append_of_le_length (by omega), List.take_of_length_le (by omega)] at q
    exact q
  have cs : (convert 22 9 (.slice (some ⟨g, 0, none⟩) n 256)).run Tryd.prog w3 = .ok (.string (strOfNums (t.take n))) w3 := by
    have q := Kd.C_string (P := Tryd.prog) (c := 256) Tryd.underlying22 Tryd.underlying5 Tryd.underlying9 hC3
    rw [tkn] at q
    exact q
  obtain ⟨nm, hnm⟩ : ∃ nm, strOfNums (t.take n) = nm := ⟨_, rfl⟩
  rw [hnm] at cs
  have NM := Aside0.mk hnm
  have ho3 := O2.out.kept hT3 (fun q => by rcases q with q | q | q <;> omega)
  have e2 := ho3.e2
  have z2 := ho3.z2
  have T3 := Aside0.mk ((T2.out).trans (hT3.mono (fun j q => (by rcases q with q | q | q; exact .inl q; exact .inr (.inl q); exact .inr (.inr (.inl q)) : j = g ∨ j = s ∨ j = b ∨ j = o))))
  have S3 := Aside0.mk hBd
  have R3 := Aside0.mk hR
  have E3 := Aside0.mk hE3
  have O3 := Aside0.mk ho3
  clear hnm hBd hR hE3 hT3 ho3 hC3 tkn
  go_upto_region 10 with (fail)
  clear cs
  have hT4 : Tch (fun j => j = o) w3 (w3.setCell ⟨o, 2, none⟩ (.string nm)) := (Tch.refl (fun j => j = o) w3).setCell (p := ⟨o, 2, none⟩) (fun _ => rfl) _
  have O4 := O3.out.put2 nm
  have S4 := S3.out.kept hT4 (fun j q => by subst q; exact ⟨od, os, ob⟩)
  have E4 := E3.out.kept hT4 (fun j q => by subst q; exact od)
  have R4 := hT4.r8 R3.out (fun j e q => by simp [Value.ownBlock] at e; omega)
  generalize w3.setCell ⟨o, 2, none⟩ (.string nm) = w4 at hT4 O4 S4 E4 R4 ⊢
  have T4 := Aside0.mk (T3.out.trans (hT4.mono (fun j q => (.inr (.inr (.inr q)) : j = g ∨ j = s ∨ j = b ∨ j = o))))
  have O4 := Aside0.mk O4
  have S4 := Aside0.mk S4
  have E4 := Aside0.mk E4
  have R4 := Aside0.mk R4
  clear hT4 e2 z2
  go_wp2_with fail
  refine (rfb_no S4.out E4.out R4.out (show 0 + 4 ≤ 256 by omega) (show 4 ≤ 256 by omega) (by omega) gs gd gb HL2.out).mono ?_
  rintro en w5 ⟨rfl, hE5, hT5⟩
  have T5 := Aside0.mk hT5
  clear hE5 hT5
  go_wp2_with fail
  go_ret
  have TB : Tch (fun j => j = g ∨ j = s ∨ j = b ∨ j = o) w W := Tch.of_below (by have := B0.out; exact this)
  exact ⟨rfl, (Tch.refl _ w).step ((TB.trans T4.out).trans (T5.out.mono (fun j q => by rcases q with q | q | q; exact .inl q; exact .inr (.inl q); exact .inr (.inr (.inl q))))) (fun j q hj => by have := EG.out; rcases q with q | q; omega; exact q)⟩
set_option maxHeartbeats 3200000 in
set_option maxRecDepth 100000 in
theorem lit_ok {w : World} {d s b : Nat} {split : Int} {tv : TypeId} {bd rest : List Int} {ok : Bool} {aE aU : Addr} (h : Bdy w d s b split (.iface tv (.pointer (some ⟨b, 0, none⟩))) bd ok rest) (hE : Env w d aE aU) {o : Nat} (ho : Ltd w o 0 false ByteArray.empty 0 .nilIface) (od : d ≤ o) (os : o ≠ s) (ob : o ≠ b) {f n : Nat} {t : List Int} (hne : bd = (f : Int) :: (n : Int) :: t) (hf : f < 256) (hn : n < 256) {x y z v : Nat} {u : List Int} (hl : n ≤ t.length) (hu : t.drop n = (x : Int) :: (y : Int) :: (z : Int) :: (v : Int) :: u) (hx : x < 256) (hy : y < 256) (hz : z < 256) (hv : v < 256) :
    Calls Tryd.prog 118 #[.pointer (some ⟨o, 0, none⟩), (.iface tv (.pointer (some ⟨b, 0, none⟩)))] w (fun en w' => en = .returned .nilIface ∧ Ltd w' o (f : Int) ((f : Int) == 98) (strOfNums (t.take n)) (num4 x y z v : Int) (.iface tv (.pointer (some ⟨b, 0, none⟩))) ∧ Bdy w' d s b split (.iface tv (.pointer (some ⟨b, 0, none⟩))) u ok rest ∧ Env w' d aE aU ∧ Tch (fun j => j = s ∨ j = b ∨ j = o) w w') := by
  obtain ⟨W, eW, hR0, hB0⟩ := buf256 w
  have H0 := Aside0.mk (h.below hB0)
  have E0 := Aside0.mk (hE.below hB0)
  have R0 := Aside0.mk hR0
  have B0 := Aside0.mk hB0
  have sl := h.lts
  have bl := h.ltb
  have ds := h.ds
  have db := h.db
  have gs : w.heap.size ≠ s := by omega
  have gb : w.heap.size ≠ b := by omega
  have gd : d ≤ w.heap.size := by omega
  have ol := ho.lt
  have O0 := Aside0.mk (ho.kept (Tch.of_below (S := fun _ => False) hB0) id)
  clear h hE hR0 hB0 ho
  go_enter Tryd.func118, Tryd.ntmps118
  go_upto_region 2 with (fail)
  clear eW
  obtain ⟨g, eg⟩ : ∃ g, w.heap.size = g := ⟨_, rfl⟩
  have EG := Aside0.mk eg
  rw [eg] at gs gb gd sl bl ol R0 ⊢
  clear eg
  go_wp2_with fail
  have HU := Aside0.mk hu
  clear hu
  have HN := Aside0.mk hne
  refine (rfb_ok H0.out E0.out R0.out (show 0 + 2 ≤ 256 by omega) (show 2 ≤ 256 by omega) (by omega) gs gd gb (by rw [HN.out]; simp)).mono ?_
  rintro en w1 ⟨rfl, hBd, hR, hE1, hT⟩
  rw [HN.out] at hBd hR
  have hR' : R8 226 w1 g (.slice (some ⟨g, 0, none⟩) 256 256) ((f : Int) :: (n : Int) :: List.replicate 254 0) := hR
  have fy0 : w1.cell? ⟨g, 0, none⟩ = some (.int .u8 (f : Int)) := (Kd.R_celln (0 : Int) (h1 := fun _ => rfl) (enc := Value.int .u8) hR' (0 : Int) (by decide) (by decide)).1
  have fy1 : w1.cell? ⟨g, 1, none⟩ = some (.int .u8 (n : Int)) := (Kd.R_celln (0 : Int) (h1 := fun _ => rfl) (enc := Value.int .u8) hR' (1 : Int) (by decide) (by decide)).1
  have ho1 := O0.out.kept hT (fun q => by rcases q with q | q | q <;> omega)
  have e0 := ho1.e0
  have e1 := ho1.e1
  have z0 := ho1.z0
  have z1 := ho1.z1
  have T1 := Aside0.mk hT
  have S1 := Aside0.mk (show Bdy w1 d s b split (.iface tv (.pointer (some ⟨b, 0, none⟩))) t ok rest from hBd)
  have R1 := Aside0.mk hR'
  have E1 := Aside0.mk hE1
  have O1 := Aside0.mk ho1
  have fl : f < 256 := by omega
  clear hBd hR hR' hE1 hT ho1
  go_upto_region 7 with (fail)
  have hT2 : Tch (fun j => j = o) w1 ((w1.setCell ⟨o, 0, none⟩ (.int .u8 (f : Int))).setCell ⟨o, 1, none⟩ (.bool ((f : Int) == 98))) := ((Tch.refl (fun j => j = o) w1).setCell (p := ⟨o, 0, none⟩) (fun _ => rfl) _).setCell (p := ⟨o, 1, none⟩) (fun _ => rfl) _
  have O2 := (O1.out.put01 (f : Int)).put1 ((f : Int) == 98)
  have S2 := S1.out.kept hT2 (fun j q => by subst q; exact ⟨od, os, ob⟩)
  have E2 := E1.out.kept hT2 (fun j q => by subst q; exact od)
  have R2 := hT2.r8 R1.out (fun j e q => by simp [Value.ownBlock] at e; omega)
  generalize (w1.setCell ⟨o, 0, none⟩ (.int .u8 (f : Int))).setCell ⟨o, 1, none⟩ (.bool ((f : Int) == 98)) = w2 at hT2 O2 S2 E2 R2 ⊢
  have T2 := Aside0.mk (tch4 T1.out hT2)
  have O2 := Aside0.mk O2
  have S2 := Aside0.mk S2
  have E2 := Aside0.mk E2
  have R2 := Aside0.mk R2
  clear hT2 fy0 fy1 e0 e1 z0 z1
  have ni0 : (0 : Int) ≤ (n : Int) := by omega
  have ni1 : (n : Int) ≤ 256 := by omega
  go_wp2_with fail
  refine (rfb_ok S2.out E2.out R2.out (show 0 + n ≤ 256 by omega) (show n ≤ 256 by omega) (by omega) gs gd gb (show n ≤ t.length by omega)).mono ?_
  rintro en w3 ⟨rfl, hBd, hR, hE3, hT3⟩
  have tkn : (t.take n).length = n := by rw [List.length_take]; omega
  have hC3 : C8 w3 (some ⟨g, 0, none⟩) (t.take n) := by
    obtain ⟨A9, c9, e9, _, hC9⟩ := r8_reads hR
    injection e9 with e91 e92 e93
    subst e91
    have q := Kd.C_take (m := n) hC9 (by rw [← e92]; omega)
    rw [List.take_zero, List.nil_append, List.take_append_of_le_length (by omega), List.take_of_length_le (by omega)] at q
    exact q
  have cs : (convert 22 9 (.slice (some ⟨g, 0, none⟩) n 256)).run Tryd.prog w3 = .ok (.string (strOfNums (t.take n))) w3 := by
    have q := Kd.C_string (P := Tryd.prog) (c := 256) Tryd.underlying22 Tryd.underlying5 Tryd.underlying9 hC3
    rw [tkn] at q
    exact q
  obtain ⟨nm, hnm⟩ : ∃ nm, strOfNums (t.take n) = nm := ⟨_, rfl⟩
  rw [hnm] at cs
  have NM := Aside0.mk hnm
  have ho3 := O2.out.kept hT3 (fun q => by rcases q with q | q | q <;> omega)
  have e2 := ho3.e2
  have z2 := ho3.z2
  have T3 := Aside0.mk ((T2.out).trans (hT3.mono (fun j q => (by rcases q with q | q | q; exact .inl q; exact .inr (.inl q); exact .inr (.inr (.inl q)) : j = g ∨ j = s ∨ j = b ∨ j = o))))
  have S3 := Aside0.mk hBd
  have R3 := Aside0.mk hR
  have E3 := Aside0.mk hE3
  have O3 := Aside0.mk ho3
  clear hnm hBd hR hE3 hT3 ho3 hC3 tkn
  go_upto_region 10 with (fail)
  clear cs
  have hT4 : Tch (fun j => j = o) w3 (w3.setCell ⟨o, 2, none⟩ (.string nm)) := (Tch.refl (fun j => j = o) w3).setCell (p := ⟨o, 2, none⟩) (fun _ => rfl) _
  have O4 := O3.out.put2 nm
  have S4 := S3.out.kept hT4 (fun j q => by subst q; exact ⟨od, os, ob⟩)
  have E4 := E3.out.kept hT4 (fun j q => by subst q; exact od)
  have R4 := hT4.r8 R3.out (fun j e q => by simp [Value.ownBlock] at e; omega)
  generalize w3.setCell ⟨o, 2, none⟩ (.string nm) = w4 at hT4 O4 S4 E4 R4 ⊢
  have T4 := Aside0.mk (T3.out.trans (hT4.mono (fun j q => (.inr (.inr (.inr q)) : j = g ∨ j = s ∨ j = b ∨ j = o))))
  have O4 := Aside0.mk O4
  have S4 := Aside0.mk S4
  have E4 := Aside0.mk E4
  have R4 := Aside0.mk R4
  clear hT4 e2 z2
  go_wp2_with fail
  refine (rfb_ok S4.out E4.out R4.out (show 0 + 4 ≤ 256 by omega) (show 4 ≤ 256 by omega) (by omega) gs gd gb (by rw [HU.out]; simp)).mono ?_
  rintro en w5 ⟨rfl, hBd, hR, hE5, hT5⟩
  rw [HU.out] at hBd hR
  obtain ⟨tl, htl⟩ : ∃ tl, (((List.take 0 ((f : Int) :: (n : Int) :: List.replicate 254 0)) ++ (t.take n ++ List.drop (0 + n) ((f : Int) :: (n : Int) :: List.replicate 254 0)))).drop (0 + 4) = tl := ⟨_, rfl⟩
  have hR' : R8 226 w5 g (.slice (some ⟨g, 0, none⟩) 256 256) ((x : Int) :: (y : Int) :: (z : Int) :: (v : Int) :: tl) := by rw [← htl]; exact hR
  have fx0 : w5.cell? ⟨g, 0, none⟩ = some (.int .u8 (x : Int)) := (Kd.R_celln (0 : Int) (h1 := fun _ => rfl) (enc := Value.int .u8) hR' (0 : Int) (by decide) (by decide)).1
  have fx1 : w5.cell? ⟨g, 1, none⟩ = some (.int .u8 (y : Int)) := (Kd.R_celln (0 : Int) (h1 := fun _ => rfl) (enc := Value.int .u8) hR' (1 : Int) (by decide) (by decide)).1
  have fx2 : w5.cell? ⟨g, 2, none⟩ = some (.int .u8 (z : Int)) := (Kd.R_celln (0 : Int) (h1 := fun _ => rfl) (enc := Value.int .u8) hR' (2 : Int) (by decide) (by decide)).1
  have fx3 : w5.cell? ⟨g, 3, none⟩ = some (.int .u8 (v : Int)) := (Kd.R_celln (0 : Int) (h1 := fun _ => rfl) (enc := Value.int .u8) hR' (3 : Int) (by decide) (by decide)).1
  have ho5 := O4.out.kept hT5 (fun q => by rcases q with q | q | q <;> omega)
  have T5 := Aside0.mk ((T4.out).trans (hT5.mono (fun j q => (by rcases q with q | q | q; exact .inl q; exact .inr (.inl q); exact .inr (.inr (.inl q)) : j = g ∨ j = s ∨ j = b ∨ j = o))))
  have S5 := Aside0.mk (show Bdy w5 d s b split (.iface tv (.pointer (some ⟨b, 0, none⟩))) u ok rest from hBd)
  have E5 := Aside0.mk hE5
  have O5 := Aside0.mk ho5
  have FX := Aside0.mk (show w5.drew.cell? ⟨g, 0, none⟩ = some (.int .u8 (x : Int)) ∧ w5.drew.cell? ⟨g, 1, none⟩ = some (.int .u8 (y : Int)) ∧ w5.drew.cell? ⟨g, 2, none⟩ = some (.int .u8 (z : Int)) ∧ w5.drew.cell? ⟨g, 3, none⟩ = some (.int .u8 (v : Int)) from ⟨fx0, fx1, fx2, fx3⟩)
  clear fx0 fx1 fx2 fx3 htl hBd hR hR' hE5 hT5 ho5
  go_wp2_with fail
  go_region_held3 (fun _ => True) (trivial) ((go_at_call 119; (with_reducible refine (u32_calls (w := w5.drew) FX.out.1 FX.out.2.1 FX.out.2.2.1 FX.out.2.2.2 hx hy hz hv).mono ?_); rintro en w6 ⟨rfl, hB⟩; have hB6 := below_then (below_drew (Below.refl w5.heap.size w5)) (Nat.le_refl _) hB; have B6 := Aside0.mk hB6; have ho6 := O5.out.kept (Tch.of_below (S := fun _ => False) hB6) id; have O6 := Aside0.mk ho6; have e3 := ho6.e3; have e4 := ho6.e4; have z3 := ho6.z3; have z4 := ho6.z4; clear hB hB6 ho6))
  go_wp2_with fail
  go_ret
  have TB : Tch (fun j => j = g ∨ j = s ∨ j = b ∨ j = o) w W := Tch.of_below (by have := B0.out; exact this)
  have hT7 : Tch (fun j => j = o) w6 ((w6.setCell ⟨o, 3, none⟩ (.int .u32 (num4 x y z v : Int))).setCell ⟨o, 4, none⟩ (.iface tv (.pointer (some ⟨b, 0, none⟩)))) := ((Tch.refl (fun j => j = o) w6).setCell (p := ⟨o, 3, none⟩) (fun _ => rfl) _).setCell (p := ⟨o, 4, none⟩) (fun _ => rfl) _
  have O7 := (O6.out.put3 (num4 x y z v : Int)).put4 tv (.pointer (some ⟨b, 0, none⟩))
  have S7 := (S5.out.below B6.out).kept hT7 (fun j q => by subst q; exact ⟨od, os, ob⟩)
  have E7 := (E5.out.below B6.out).kept hT7 (fun j q => by subst q; exact od)
  rw [NM.out]
  exact ⟨rfl, O7, S7, E7, (Tch.refl _ w).step (((TB.trans T5.out).trans (Tch.of_below B6.out)).trans (hT7.mono (fun j q => (.inr (.inr (.inr q)) : j = g ∨ j = s ∨ j = b ∨ j = o)))) (fun j q hj => by have := EG.out; rcases q with q | q; omega; exact q)⟩
end Go.Proofs.YtfhefoaieefnkaaDoor.Rd
