/- packet.nextSubpacket: the next subpacket of an area. -/
import Derived.Test.YtfhefoaieefnkaaDoorOwn
import Derived.Test.YtfhefoaieefnkaaDoorCut
import Derived.Test.YtfhefoaieefnkaaDoorMem
import Derived.Test.YtfhefoaieefnkaaDoorRl
set_option linter.unusedVariables false
set_option linter.unusedSimpArgs false
namespace Go.Proofs.YtfhefoaieefnkaaDoor.Rd
open Go.RowKit Go.Proofs.YtfhefoaieefnkaaDoorW.PrintWords Go.Proofs.YtfhefoaieefnkaaDoorW.PrintMore Go.Proofs.YtfhefoaieefnkaaDoor.Kit

theorem mid8 {P : Program} {t e : TypeId} (ht : P.underlying t = some (.slice e)) (hinfo : (P.info? e).map (fun i => (i.zero, i.size, i.bytes)) = some (some (.int .u8 0), 1, 1)) (A : Option Addr) (c : Nat) (l : List Int) (kl kh : IntKind) (lo hi : Int) (h0 : 0 ≤ lo) (h1 : lo ≤ hi) (h2 : hi ≤ l.length) (hc : l.length ≤ c) {n : Nat} (hn : n = l.length) :
    ∃ A', (∀ W : World, (Instr.slice t (.slice A n c) (some (.int kl lo)) (some (.int kh hi)) none).run P W = .ok (.slice A' (hi.toNat - lo.toNat) (c - lo.toNat)) W) ∧ (∀ w, C8 w A l → C8 w A' ((l.take hi.toNat).drop lo.toNat)) ∧ Same A' A := by
  subst hn
  obtain ⟨i, hi', _, hsz, _⟩ := info_partsC hinfo
  refine ⟨if c = lo.toNat then A else A.map (·.add (lo.toNat * 1)), cut_mid t e kl kh ht hi' 1 hsz A l.length c lo hi h0 h1 h2 hc, fun w h => Kd.C_mid (k := Kd.int .u8) h (by omega) (by omega) hc, ?_⟩
  intro ad' e
  by_cases h : c = lo.toNat
  · rw [if_pos h] at e; exact ⟨ad', e, rfl⟩
  · rw [if_neg h] at e
    cases A with
    | none => cases e
    | some ad => injection e with e; exact ⟨ad, rfl, by rw [← e, add_block]⟩
/-- The subpacket at block g: its type, its length as it stands, its contents (what these lead to is there wherever Q holds). -/
def SbAt (Q : World → Prop) (w : World) (g : Nat) (x : Int) (E C : List Int) : Prop :=
  ∃ A1 c1 A2 c2, w.cell? ⟨g, 0, none⟩ = some (.int .u8 x) ∧ w.cell? ⟨g, 1, none⟩ = some (.slice A1 E.length c1) ∧ E.length ≤ c1 ∧ (∀ W, Q W → C8 W A1 E) ∧ w.cell? ⟨g, 2, none⟩ = some (.slice A2 C.length c2) ∧ C.length ≤ c2 ∧ ∀ W, Q W → C8 W A2 C
theorem SbAt.kept {Q : World → Prop} {w w1 : World} {g : Nat} {x : Int} {E C : List Int} (h : SbAt Q w g x E C) (hB : w1.heap[g]? = w.heap[g]?) : SbAt Q w1 g x E C := by
  obtain ⟨A1, c1, A2, c2, a, b, l1, r1, c, l2, r2⟩ := h
  have q : ∀ i, w1.cell? ⟨g, i, none⟩ = w.cell? ⟨g, i, none⟩ := fun i => by simp [World.cell?, hB]
  exact ⟨A1, c1, A2, c2, (q 0).trans a, (q 1).trans b, l1, r1, (q 2).trans c, l2, r2⟩
theorem SbAt.lt {Q : World → Prop} {w : World} {g : Nat} {x : Int} {E C : List Int} (h : SbAt Q w g x E C) : g < w.heap.size := by
  obtain ⟨A1, c1, A2, c2, a, _⟩ := h
  exact World.block_lt_of_cell? w _ a
theorem SbAt.mono {Q Q' : World → Prop} {w : World} {g : Nat} {x : Int} {E C : List Int} (h : SbAt Q w g x E C) (hQ : ∀ W, Q' W → Q W) : SbAt Q' w g x E C := by
  obtain ⟨A1, c1, A2, c2, a, b, l1, r1, c, l2, r2⟩ := h
  exact ⟨A1, c1, A2, c2, a, b, l1, fun W q => r1 W (hQ W q), c, l2, fun W q => r2 W (hQ W q)⟩
theorem sb_new (w : World) : ∃ W, w.alloc (.cells #[.int .u8 0, .slice none 0 0, .slice none 0 0] 180) = W ∧ (W.cell? ⟨w.heap.size, 0, none⟩ = some (.int .u8 0) ∧ W.cell? ⟨w.heap.size, 1, none⟩ = some (.slice none 0 0) ∧ W.cell? ⟨w.heap.size, 2, none⟩ = some (.slice none 0 0)) ∧ (W.frozen? ⟨w.heap.size, 0, none⟩ = false ∧ W.frozen? ⟨w.heap.size, 1, none⟩ = false ∧ W.frozen? ⟨w.heap.size, 2, none⟩ = false) ∧ Below w.heap.size w W := by
  have hb := heap_alloc_new w (.cells #[.int .u8 0, .slice none 0 0, .slice none 0 0] 180)
  exact ⟨_, rfl, ⟨(cell_of_row _ _ 0 _ _ _ hb).trans rfl, (cell_of_row _ _ 1 _ _ _ hb).trans rfl, (cell_of_row _ _ 2 _ _ _ hb).trans rfl⟩, ⟨frozen_of_row _ _ 0 _ _ hb, frozen_of_row _ _ 1 _ _ hb, frozen_of_row _ _ 2 _ _ hb⟩, below_alloc (Below.refl _ _) _⟩
theorem u32_join (i : Nat) (x y : Int) (h0 : 0 ≤ x) (h1 : x < 4294967296) (hx : x.toNat % 2 ^ i = 0) (y0 : 0 ≤ y) (y1 : y.toNat < 2 ^ i) (y2 : y < 4294967296) : Go.bits .or .u32 x y = x + y := by
  obtain ⟨a, rfl⟩ := Int.eq_ofNat_of_zero_le h0
  obtain ⟨b, rfl⟩ := Int.eq_ofNat_of_zero_le y0
  have hor : a ||| b < 2 ^ 32 := Nat.or_lt_two_pow (by omega) (by omega)
  have q : Go.bits .or .u32 (a : Int) (b : Int) = ((a ||| b : Nat) : Int) := by
    show IntKind.u32.wrap ((BitVec.ofInt 32 (a : Int) ||| BitVec.ofInt 32 (b : Int)).toNat : Int) = _
    rw [BitVec.toNat_or, BitVec.ofInt_natCast, BitVec.ofInt_natCast, BitVec.toNat_ofNat, BitVec.toNat_ofNat, Nat.mod_eq_of_lt (by omega), Nat.mod_eq_of_lt (by omega)]
    exact IntWalk.u32_in _ (by omega)
  rw [q, nat_join i a b (by simpa using hx) (by simpa using y1)]
  omega
/-- What nextSubpacket comes to where there is one: k octets ahead of the contents. -/
def NspOk (w : World) (A : Option Addr) (l : List Int) (k : Nat) (x : Int) (E C : List Int) (en : Ending) (w' : World) : Prop :=
  ∃ g, en = .returned (.tuple #[.int .i64 (k : Int), .pointer (some ⟨g, 0, none⟩), .nilIface]) ∧ w.heap.size ≤ g ∧ SbAt (fun W => C8 W A l) w' g x E C ∧ Below w.heap.size w w'
theorem cut_at {w : World} {ad : Addr} {l : List Int} (h : C8 w (some ad) l) {k : Nat} (h0 : 0 < k) (hk : k ≤ l.length) : C8 w (some ⟨ad.block, ad.off + k, none⟩) (l.drop k) := by
  have q := Kd.C_drop (k := Kd.int .u8) h (m := k) (c := l.length + 1) hk (by omega)
  rw [if_neg (by omega)] at q
  have e : ad.add (k * (Kd.int .u8).sz) = ⟨ad.block, ad.off + k, none⟩ := by
    show ad.add (k * 1) = _
    rw [Nat.mul_one]
    simp [Addr.add, show ¬ k = 0 by omega]
  rw [Option.map_some, e] at q
  exact q
theorem cell_at {w : World} {ad : Addr} {l : List Int} (h : C8 w (some ad) l) {k : Nat} (h0 : 0 < k) (hk : k < l.length) : w.cell? ⟨ad.block, ad.off + k, none⟩ = some (.int .u8 (l.getD k 0)) := by
  have q := Kd.foot_int h (k : Int) (by omega) (by omega)
  rw [show (k : Int).toNat = k by omega] at q
  have e : ad.add k = ⟨ad.block, ad.off + k, none⟩ := by simp [Addr.add, show ¬ k = 0 by omega]
  rw [e] at q
  exact q
theorem cell_at0 {w : World} {ad : Addr} {l : List Int} (h : C8 w (some ad) l) (hk : 0 < l.length) : w.cell? ad = some (.int .u8 (l.getD 0 0)) := by
  have q := Kd.foot_int h 0 (by omega) (by omega)
  rw [show (0 : Int).toNat = 0 by rfl, show ad.add 0 = ad by simp [Addr.add]] at q
  exact q
set_option maxHeartbeats 1600000 in
set_option maxRecDepth 100000 in
theorem nsp_one {w : World} {A : Option Addr} {c n : Nat} {b : Int} {t l : List Int} (el : l = (n : Int) :: b :: t) (hr : C8 w A l) (hc : l.length ≤ c) (hl : l.length ≤ 100000000) (a2 : n < 192) (b1 : 0 ≤ b) (b2 : b ≤ 255) (n1 : 1 ≤ n) (hn : (n : Int) = (n : Int)) (hn2 : n ≤ t.length + 1) :
    Calls Tryd.prog 77 #[.slice A l.length c] w (NspOk w A l 2 b [(n : Int)] (t.take (n - 1))) := by
  have ln : l.length = t.length + 2 := by rw [el]; rfl
  obtain ⟨W, eW, ⟨x0, x1, x2⟩, ⟨z0, z1, z2⟩, hB⟩ := sb_new w
  have hr1 := Kd.C_below hr hB
  obtain ⟨ad, eA, ya⟩ := Kd.at_int hr 0 (by omega) (by omega)
  subst eA
  clear ya
  have y0 : W.cell? ad = some (.int .u8 (n : Int)) := (cell_at0 hr1 (by omega)).trans (by rw [el]; rfl)
  have y1 : W.cell? ⟨ad.block, ad.off + 1, none⟩ = some (.int .u8 b) := (cell_at hr1 (k := 1) (by omega) (by omega)).trans (by rw [el]; rfl)
  have g0 : ad.block ≠ w.heap.size := fun e => by have := World.block_lt_of_cell? w _ (cell_at0 hr (by omega)); omega
  obtain ⟨m, em⟩ : ∃ m, l.length = m := ⟨_, rfl⟩
  obtain ⟨r, er⟩ : ∃ r, t.length + 1 = r := ⟨_, rfl⟩
  have lT : (l.drop 1).length = r := by rw [List.length_drop]; omega
  obtain ⟨A2, e2, q2, s2⟩ := mid8 (P := Tryd.prog) Tryd.underlying22 infoB (some ⟨ad.block, ad.off + 1, none⟩) (c - 1) (l.drop 1) .i64 .u32 1 (n : Int) (by omega) (by omega) (by omega) (by omega) lT.symm
  have QQ : ∀ W, C8 W (some ad) l → C8 W (some ad) [(n : Int)] ∧ C8 W A2 (t.take (n - 1)) := by
    intro W hW
    have q := Kd.C_take (k := Kd.int .u8) hW (m := 1) (by omega)
    have q' := q2 W (cut_at hW (by omega) (by omega))
    rw [el] at q q'
    rw [show (n : Int).toNat = (n - 1) + 1 by omega] at q'
    exact ⟨q, q'⟩
  have e1 : ∀ W : World, (Instr.slice 22 (.slice (some ad) m c) (some (.int .i64 1)) none none).run Tryd.prog W = .ok (.slice (some ⟨ad.block, ad.off + 1, none⟩) r (c - 1)) W := by
    obtain ⟨i, hi, _, hsz, _⟩ := info_partsC infoB
    intro W
    have hel : Tryd.prog.elem 22 = 5 := by simp [Program.elem, Tryd.underlying22]
    have hu : Tryd.prog.underlying 22 = some (.slice (Tryd.prog.elem 22)) := by rw [hel]; exact Tryd.underlying22
    rw [run_slice_l W 22 (some ad) m c hu .i64 1 (by omega) (by omega), hel]
    have e1 : m - 1 = r := by omega
    simp [sizeOf, typeInfo, hi, hsz, sliced, Result.andThen, e1, show ¬ c = 1 by omega, Addr.add]
  have e3 : ∀ W : World, (Instr.slice 22 (.slice (some ⟨ad.block, ad.off + 1, none⟩) r (c - 1)) (some (.int .i64 1)) (some (.int .u32 (n : Int))) none).run Tryd.prog W = .ok (.slice A2 (n - 1) (c - 1 - 1)) W := e2
  have Q := Aside0.mk QQ
  have B0 := Aside0.mk hB
  have wl : IntKind.u32.wrap (r : Int) = (r : Int) := IntWalk.u32_in _ (by omega)
  have n2 : ¬ (n : Int) > (r : Int) := by omega
  have n3 : ¬ (n : Int) = 0 := by omega
  have mc : m ≤ c := by omega
  have m2 : ¬ (m : Int) < 2 := by omega
  have m3 : (1 : Int) < (m : Int) := by omega
  have m4 : ¬ (m : Int) < 1 := by omega
  have k0 : 0 < m := by omega
  have k1 : 1 < m := by omega
  have j1 : (1 : Int) < (m : Int) := by omega
  have LC := Aside0.mk (show (t.take (n - 1)).length = n - 1 ∧ 1 ≤ c ∧ n - 1 ≤ c - 1 - 1 by rw [List.length_take]; omega)
  rw [em]
  clear hr hr1 hB QQ q2 e2 s2 el lT em er ln hl hc
  go_enter Tryd.func77, Tryd.ntmps77
  go_wp2_with fail
  go_step3
  go_upto_region 10 with (fail)
  clear eW
  obtain ⟨g, eg⟩ : ∃ g, w.heap.size = g := ⟨_, rfl⟩
  have EG := Aside0.mk eg
  rw [eg] at x0 x1 x2 z0 z1 z2 g0 ⊢
  clear eg
  go_wp2_with fail
  · rename_i h
    rcases h with h | h
    · omega
    · exact absurd (beq_iff_eq.1 h) n3
  rw [Exit.noGoto_ret]
  go_ret3
  have gE := EG.out
  have lC := LC.out.1
  refine ⟨g, rfl, by omega, ⟨some ad, c, A2, c - 1 - 1, by simp [go_sem, *], by simp [go_sem, *], ?_, fun W' hW' => (Q.out W' hW').1, ?_, ?_, fun W' hW' => (Q.out W' hW').2⟩, ((B0.out.setCell (p := ⟨g, 0, none⟩) (by show _ ≤ g; omega) _).setCell (p := ⟨g, 1, none⟩) (by show _ ≤ g; omega) _).setCell (p := ⟨g, 2, none⟩) (by show _ ≤ g; omega) _⟩
  · exact LC.out.2.1
  · rw [lC]; simp [go_sem, *]
  · rw [lC]; exact LC.out.2.2
set_option maxHeartbeats 1600000 in
set_option maxRecDepth 100000 in
theorem nsp_two {w : World} {A : Option Addr} {c n : Nat} {a b x : Int} {t l : List Int} (el : l = a :: b :: x :: t) (hr : C8 w A l) (hc : l.length ≤ c) (hl : l.length ≤ 100000000) (a1 : 192 ≤ a) (a2 : a < 255) (b1 : 0 ≤ b) (b2 : b ≤ 255) (c1 : 0 ≤ x) (c2 : x ≤ 255) (n1 : 1 ≤ n) (hn : (a - 192) * 256 + b + 192 = (n : Int)) (hn2 : n ≤ t.length + 1) :
    Calls Tryd.prog 77 #[.slice A l.length c] w (NspOk w A l 3 x [a, b] (t.take (n - 1))) := by
  have ln : l.length = t.length + 3 := by rw [el]; rfl
  obtain ⟨W, eW, ⟨x0, x1, x2⟩, ⟨z0, z1, z2⟩, hB⟩ := sb_new w
  have hr1 := Kd.C_below hr hB
  obtain ⟨ad, eA, ya⟩ := Kd.at_int hr 0 (by omega) (by omega)
  subst eA
  clear ya
  have y0 : W.cell? ad = some (.int .u8 a) := (cell_at0 hr1 (by omega)).trans (by rw [el]; rfl)
  have y1 : W.cell? ⟨ad.block, ad.off + 1, none⟩ = some (.int .u8 b) := (cell_at hr1 (k := 1) (by omega) (by omega)).trans (by rw [el]; rfl)
  have y2 : W.cell? ⟨ad.block, ad.off + 2, none⟩ = some (.int .u8 x) := (cell_at hr1 (k := 2) (by omega) (by omega)).trans (by rw [el]; rfl)
  have g0 : ad.block ≠ w.heap.size := fun e => by have := World.block_lt_of_cell? w _ (cell_at0 hr (by omega)); omega
  obtain ⟨m, em⟩ : ∃ m, l.length = m := ⟨_, rfl⟩
  obtain ⟨r, er⟩ : ∃ r, t.length + 1 = r := ⟨_, rfl⟩
  have lT : (l.drop 2).length = r := by rw [List.length_drop]; omega
  obtain ⟨A2, e2, q2, s2⟩ := mid8 (P := Tryd.prog) Tryd.underlying22 infoB (some ⟨ad.block, ad.off + 2, none⟩) (c - 2) (l.drop 2) .i64 .u32 1 (n : Int) (by omega) (by omega) (by omega) (by omega) lT.symm
  have QQ : ∀ W, C8 W (some ad) l → C8 W (some ad) [a, b] ∧ C8 W A2 (t.take (n - 1)) := by
    intro W hW
    have q := Kd.C_take (k := Kd.int .u8) hW (m := 2) (by omega)
    have q' := q2 W (cut_at hW (by omega) (by omega))
    rw [el] at q q'
    rw [show (n : Int).toNat = (n - 1) + 1 by omega] at q'
    exact ⟨q, q'⟩
  have e1 : ∀ W : World, (Instr.slice 22 (.slice (some ad) m c) (some (.int .i64 2)) none none).run Tryd.prog W = .ok (.slice (some ⟨ad.block, ad.off + 2, none⟩) r (c - 2)) W := by
    obtain ⟨i, hi, _, hsz, _⟩ := info_partsC infoB
    intro W
    have hel : Tryd.prog.elem 22 = 5 := by simp [Program.elem, Tryd.underlying22]
    have hu : Tryd.prog.underlying 22 = some (.slice (Tryd.prog.elem 22)) := by rw [hel]; exact Tryd.underlying22
    rw [run_slice_l W 22 (some ad) m c hu .i64 2 (by omega) (by omega), hel]
    have e1 : m - 2 = r := by omega
    simp [sizeOf, typeInfo, hi, hsz, sliced, Result.andThen, e1, show ¬ c = 2 by omega, Addr.add]
  have e3 : ∀ W : World, (Instr.slice 22 (.slice (some ⟨ad.block, ad.off + 2, none⟩) r (c - 2)) (some (.int .i64 1)) (some (.int .u32 (n : Int))) none).run Tryd.prog W = .ok (.slice A2 (n - 1) (c - 2 - 1)) W := e2
  have Q := Aside0.mk QQ
  have B0 := Aside0.mk hB
  have wl : IntKind.u32.wrap (r : Int) = (r : Int) := IntWalk.u32_in _ (by omega)
  have n2 : ¬ (n : Int) > (r : Int) := by omega
  have n3 : ¬ (n : Int) = 0 := by omega
  have mc : m ≤ c := by omega
  have m2 : ¬ (m : Int) < 3 := by omega
  have m3 : (2 : Int) < (m : Int) := by omega
  have m4 : ¬ (m : Int) < 1 := by omega
  have k0 : 0 < m := by omega
  have k1 : 1 < m := by omega
  have j1 : (1 : Int) < (m : Int) := by omega
  have k2 : 2 < m := by omega
  have j2 : (2 : Int) < (m : Int) := by omega
  have LC := Aside0.mk (show (t.take (n - 1)).length = n - 1 ∧ 2 ≤ c ∧ n - 1 ≤ c - 2 - 1 by rw [List.length_take]; omega)
  rw [em]
  clear hr hr1 hB QQ q2 e2 s2 el lT em er ln hl hc
  go_enter Tryd.func77, Tryd.ntmps77
  go_wp2_with fail
  go_step3
  go_upto_region 10 with (fail)
  clear eW
  obtain ⟨g, eg⟩ : ∃ g, w.heap.size = g := ⟨_, rfl⟩
  have EG := Aside0.mk eg
  rw [eg] at x0 x1 x2 z0 z1 z2 g0 ⊢
  clear eg
  go_wp2_with fail
  go_region_held3 (fun w' => w'.cell? ad = some (.int .u8 a) ∧ w'.cell? ⟨ad.block, ad.off + 1, none⟩ = some (.int .u8 b) ∧ w'.cell? ⟨ad.block, ad.off + 2, none⟩ = some (.int .u8 x)) (first | assumption | go_keep) (fail)
  go_wp2_with fail
  · rename_i h
    rcases h with h | h
    · omega
    · exact absurd (beq_iff_eq.1 h) n3
  rw [Exit.noGoto_ret]
  go_ret3
  have gE := EG.out
  have lC := LC.out.1
  refine ⟨g, rfl, by omega, ⟨some ad, c, A2, c - 2 - 1, by simp [go_sem, *], by simp [go_sem, *], ?_, fun W' hW' => (Q.out W' hW').1, ?_, ?_, fun W' hW' => (Q.out W' hW').2⟩, below_drew (((B0.out.setCell (p := ⟨g, 0, none⟩) (by show _ ≤ g; omega) _).setCell (p := ⟨g, 1, none⟩) (by show _ ≤ g; omega) _).setCell (p := ⟨g, 2, none⟩) (by show _ ≤ g; omega) _)⟩
  · exact LC.out.2.1
  · rw [lC]; simp [go_sem, *]
  · rw [lC]; exact LC.out.2.2
set_option maxHeartbeats 1600000 in
set_option maxRecDepth 100000 in
theorem nsp_five {w : World} {A : Option Addr} {c n : Nat} {b d e f x : Int} {t l : List Int} (el : l = (255 : Int) :: b :: d :: e :: f :: x :: t) (hr : C8 w A l) (hc : l.length ≤ c) (hl : l.length ≤ 100000000) (b1 : 0 ≤ b) (b2 : b ≤ 255) (d1 : 0 ≤ d) (d2 : d ≤ 255) (e1 : 0 ≤ e) (e2' : e ≤ 255) (f1 : 0 ≤ f) (f2 : f ≤ 255) (c1 : 0 ≤ x) (c2 : x ≤ 255) (n1 : 1 ≤ n) (hn : b * 16777216 + d * 65536 + e * 256 + f = (n : Int)) (hn2 : n ≤ t.length + 1) :
    Calls Tryd.prog 77 #[.slice A l.length c] w (NspOk w A l 6 x [(255 : Int), b, d, e, f] (t.take (n - 1))) := by
  have ln : l.length = t.length + 6 := by rw [el]; rfl
  obtain ⟨W, eW, ⟨x0, x1, x2⟩, ⟨z0, z1, z2⟩, hB⟩ := sb_new w
  have hr1 := Kd.C_below hr hB
  obtain ⟨ad, eA, ya⟩ := Kd.at_int hr 0 (by omega) (by omega)
  subst eA
  clear ya
  have y0 : W.cell? ad = some (.int .u8 (255 : Int)) := (cell_at0 hr1 (by omega)).trans (by rw [el]; rfl)
  have y1 : W.cell? ⟨ad.block, ad.off + 1, none⟩ = some (.int .u8 b) := (cell_at hr1 (k := 1) (by omega) (by omega)).trans (by rw [el]; rfl)
  have y2 : W.cell? ⟨ad.block, ad.off + 2, none⟩ = some (.int .u8 d) := (cell_at hr1 (k := 2) (by omega) (by omega)).trans (by rw [el]; rfl)
  have y3 : W.cell? ⟨ad.block, ad.off + 3, none⟩ = some (.int .u8 e) := (cell_at hr1 (k := 3) (by omega) (by omega)).trans (by rw [el]; rfl)
  have y4 : W.cell? ⟨ad.block, ad.off + 4, none⟩ = some (.int .u8 f) := (cell_at hr1 (k := 4) (by omega) (by omega)).trans (by rw [el]; rfl)
  have y5 : W.cell? ⟨ad.block, ad.off + 5, none⟩ = some (.int .u8 x) := (cell_at hr1 (k := 5) (by omega) (by omega)).trans (by rw [el]; rfl)
  have g0 : ad.block ≠ w.heap.size := fun e => by have := World.block_lt_of_cell? w _ (cell_at0 hr (by omega)); omega
  obtain ⟨m, em⟩ : ∃ m, l.length = m := ⟨_, rfl⟩
  obtain ⟨r, er⟩ : ∃ r, t.length + 1 = r := ⟨_, rfl⟩
  have lT : (l.drop 5).length = r := by rw [List.length_drop]; omega
  obtain ⟨A2, e2, q2, s2⟩ := mid8 (P := Tryd.prog) Tryd.underlying22 infoB (some ⟨ad.block, ad.off + 5, none⟩) (c - 5) (l.drop 5) .i64 .u32 1 (n : Int) (by omega) (by omega) (by omega) (by omega) lT.symm
  have QQ : ∀ W, C8 W (some ad) l → C8 W (some ad) [(255 : Int), b, d, e, f] ∧ C8 W A2 (t.take (n - 1)) := by
    intro W hW
    have q := Kd.C_take (k := Kd.int .u8) hW (m := 5) (by omega)
    have q' := q2 W (cut_at hW (by omega) (by omega))
    rw [el] at q q'
    rw [show (n : Int).toNat = (n - 1) + 1 by omega] at q'
    exact ⟨q, q'⟩
  have e1 : ∀ W : World, (Instr.slice 22 (.slice (some ad) m c) (some (.int .i64 5)) none none).run Tryd.prog W = .ok (.slice (some ⟨ad.block, ad.off + 5, none⟩) r (c - 5)) W := by
    obtain ⟨i, hi, _, hsz, _⟩ := info_partsC infoB
    intro W
    have hel : Tryd.prog.elem 22 = 5 := by simp [Program.elem, Tryd.underlying22]
    have hu : Tryd.prog.underlying 22 = some (.slice (Tryd.prog.elem 22)) := by rw [hel]; exact Tryd.underlying22
    rw [run_slice_l W 22 (some ad) m c hu .i64 5 (by omega) (by omega), hel]
    have e1 : m - 5 = r := by omega
    simp [sizeOf, typeInfo, hi, hsz, sliced, Result.andThen, e1, show ¬ c = 5 by omega, Addr.add]
  have e3 : ∀ W : World, (Instr.slice 22 (.slice (some ⟨ad.block, ad.off + 5, none⟩) r (c - 5)) (some (.int .i64 1)) (some (.int .u32 (n : Int))) none).run Tryd.prog W = .ok (.slice A2 (n - 1) (c - 5 - 1)) W := e2
  have Q := Aside0.mk QQ
  have B0 := Aside0.mk hB
  have wl : IntKind.u32.wrap (r : Int) = (r : Int) := IntWalk.u32_in _ (by omega)
  have n2 : ¬ (n : Int) > (r : Int) := by omega
  have n3 : ¬ (n : Int) = 0 := by omega
  have hz : Go.bits .or .u32 (Go.bits .or .u32 (Go.bits .or .u32 (b * 16777216) (d * 65536)) (e * 256)) f = (n : Int) := by
    rw [u32_join 24 (b * 16777216) (d * 65536) (by omega) (by omega) (by omega) (by omega) (by omega) (by omega), u32_join 16 _ (e * 256) (by omega) (by omega) (by omega) (by omega) (by omega) (by omega), u32_join 8 _ f (by omega) (by omega) (by omega) (by omega) (by omega) (by omega)]
    exact hn
  have hn' := Aside0.mk hn
  clear hn
  have mc : m ≤ c := by omega
  have m2 : ¬ (m : Int) < 6 := by omega
  have m3 : (5 : Int) < (m : Int) := by omega
  have m4 : ¬ (m : Int) < 1 := by omega
  have k0 : 0 < m := by omega
  have k1 : 1 < m := by omega
  have j1 : (1 : Int) < (m : Int) := by omega
  have k2 : 2 < m := by omega
  have j2 : (2 : Int) < (m : Int) := by omega
  have k3 : 3 < m := by omega
  have j3 : (3 : Int) < (m : Int) := by omega
  have k4 : 4 < m := by omega
  have j4 : (4 : Int) < (m : Int) := by omega
  have k5 : 5 < m := by omega
  have j5 : (5 : Int) < (m : Int) := by omega
  have LC := Aside0.mk (show (t.take (n - 1)).length = n - 1 ∧ 5 ≤ c ∧ n - 1 ≤ c - 5 - 1 by rw [List.length_take]; omega)
  rw [em]
  clear hr hr1 hB QQ q2 e2 s2 el lT em er ln hl hc
  go_enter Tryd.func77, Tryd.ntmps77
  go_wp2_with fail
  go_step3
  go_upto_region 10 with (fail)
  clear eW
  obtain ⟨g, eg⟩ : ∃ g, w.heap.size = g := ⟨_, rfl⟩
  have EG := Aside0.mk eg
  rw [eg] at x0 x1 x2 z0 z1 z2 g0 ⊢
  clear eg
  go_wp2_with fail
  go_region_held3 (fun w' => w'.cell? ad = some (.int .u8 (255 : Int)) ∧ w'.cell? ⟨ad.block, ad.off + 1, none⟩ = some (.int .u8 b) ∧ w'.cell? ⟨ad.block, ad.off + 2, none⟩ = some (.int .u8 d) ∧ w'.cell? ⟨ad.block, ad.off + 3, none⟩ = some (.int .u8 e) ∧ w'.cell? ⟨ad.block, ad.off + 4, none⟩ = some (.int .u8 f) ∧ w'.cell? ⟨ad.block, ad.off + 5, none⟩ = some (.int .u8 x)) (first | assumption | go_keep) (fail)
  go_wp2_with fail
  · rename_i h
    rcases h with h | h
    · omega
    · exact absurd (beq_iff_eq.1 h) n3
  rw [Exit.noGoto_ret]
  go_ret3
  have gE := EG.out
  have lC := LC.out.1
  refine ⟨g, rfl, by omega, ⟨some ad, c, A2, c - 5 - 1, by simp [go_sem, *], by simp [go_sem, *], ?_, fun W' hW' => (Q.out W' hW').1, ?_, ?_, fun W' hW' => (Q.out W' hW').2⟩, below_drew (((B0.out.setCell (p := ⟨g, 0, none⟩) (by show _ ≤ g; omega) _).setCell (p := ⟨g, 1, none⟩) (by show _ ≤ g; omega) _).setCell (p := ⟨g, 2, none⟩) (by show _ ≤ g; omega) _)⟩
  · exact LC.out.2.1
  · rw [lC]; simp [go_sem, *]
  · rw [lC]; exact LC.out.2.2
end Go.Proofs.YtfhefoaieefnkaaDoor.Rd
