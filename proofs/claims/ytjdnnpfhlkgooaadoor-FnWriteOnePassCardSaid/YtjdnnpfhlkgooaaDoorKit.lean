/- Laws for the walks of this seat: rows of bytes that are read (C8), or are the call's own (R8): made, laid out, stored into, copied into, appended to; a string as bytes. -/
import Derived.Test.YtjdnnpfhlkgooaaDoorWMore
import Derived.Lib.AppendStr
import Derived.Laws.BitsAllLaws
import Derived.RegionTactic
import Derived.BigQuiet
import Derived.Deep.QuietTactic
import Derived.Deep.RegionHeld3
import Derived.StillTailTactics
import Derived.WalkKit
import Derived.WalkSpells
import Derived.WalkLawsBesides
set_option linter.unusedVariables false
set_option linter.unusedSimpArgs false
namespace Go.Proofs.YtjdnnpfhlkgooaaDoor.Kit
open Go.RowKit Go.Proofs.YtjdnnpfhlkgooaaDoorW.PrintWords

/-- A slice of bytes that reads as l. -/
abbrev C8 (w : World) (A : Option Addr) (l : List Int) : Prop := Kd.C (Kd.int .u8) w A l.length l
/-- A slice of bytes of the call's own (blocks from base on). -/
abbrev R8 (e : Nat) (w : World) (base : Nat) (v : Value) (l : List Int) : Prop := Kd.R (Kd.int .u8) e w base (fun _ => True) v l

theorem r8_reads {e : Nat} {w : World} {base : Nat} {v : Value} {l : List Int} (h : R8 e w base v l) : ∃ A c, v = .slice A l.length c ∧ l.length ≤ c ∧ C8 w A l := Kd.R_reads h
theorem wrap64_id {n : Int} (h : -9223372036854775808 ≤ n) (h' : n ≤ 9223372036854775807) : wrap64 n = n := by unfold wrap64; omega
theorem bytesOf_len (s : ByteArray) : (bytesOf s).length = s.size := by unfold bytesOf; rw [List.length_map, Array.length_toList]; rfl
theorem bind_of {α β : Type} {x : Option α} {a : α} {f : α → Option β} {r : Option β} (h : x = some a) (h2 : f a = r) : x.bind f = r := by rw [h]; exact h2

/-- The bytes lie elsewhere than block g. -/
def Far (A : Option Addr) (l : List Int) (g : Nat) : Prop := ∀ ad, A = some ad → 0 < l.length → ad.block ≠ g
theorem far_c8 {w : World} {A : Option Addr} {l : List Int} {g : Nat} (h : C8 w A l) (hg : w.heap.size ≤ g) : Far A l g := by
  rintro ad rfl hn
  obtain ⟨ad', h', hc⟩ := (Kd.reads_of_C (enc := Value.int .u8) (d := (0 : Int)) (h1 := fun _ => rfl) h).2.2 hn
  injection h' with h'
  subst h'
  have := World.block_lt_of_cell? w _ (hc 0 hn)
  rw [add_block] at this
  omega
theorem c8_grown {w w1 : World} {A : Option Addr} {l : List Int} {g : Nat} (h : C8 w A l) (hf : Far A l g) (hg : w.grownBy w1 (some g)) : C8 w1 A l := by
  refine ⟨h.1, h.2.1, fun hn => ?_⟩
  obtain ⟨ad, he, hc⟩ := h.2.2 hn
  refine ⟨ad, he, fun j p hj => ?_⟩
  obtain ⟨cs, h1, h2, h3⟩ := hc j p hj
  refine ⟨cs, h1, h2, fun i u hu => ?_⟩
  have h4 := h3 i u hu
  have hb := World.block_lt_of_cell? w _ h4
  have hne := hf ad he hn
  have := hg.block (ad.add (j * (Kd.int IntKind.u8).sz + i)).block hb (by rw [add_block]; intro e; injection e with e; exact hne e)
  simpa [World.cell?, this] using h4
theorem cell_grown {w w1 : World} {g : Nat} {a : Addr} {v : Value} (h : w.cell? a = some v) (hne : a.block ≠ g) (hg : w.grownBy w1 (some g)) : w1.cell? a = some v := by
  have hb := World.block_lt_of_cell? w _ h
  have := hg.block a.block hb (by intro e; injection e with e; exact hne e)
  simpa [World.cell?, this] using h
theorem r8_len {e : Nat} {w : World} {base : Nat} {v : Value} {l : List Int} {A : Option Addr} {n c : Nat} (h : R8 e w base v l) (hv : v = .slice A n c) : n = l.length ∧ n ≤ c := by
  subst hv
  obtain ⟨h1, h2, _⟩ := Kd.R_reads' h
  exact ⟨h1, h2⟩

section
variable {P : Program} {ops : Array Oper} {rest : List Oper} {o : Oper} {a : Act} {Q : Exit → Act → World → Prop}

theorem make8 {w0 W : World} (base : Nat) (hgd : o.guard = none) {N : Tmp} (hd : o.dst = some N) (t e : TypeId) (x y : Operand) (ho : o.op = .makeSlice t x y) (n : Nat) {m : Int} (hx : a.eval x = .int .i64 m) (hy : a.eval y = .int .i64 m) (hmn : m = (n : Int))
    (ht : P.underlying t = some (.slice e)) (hinfo : (P.info? e).map (fun i => (i.zero, i.size, i.bytes)) = some (some (.int .u8 0), 1, 1)) (hn : n ≤ 281474976710656) (HB : Below base w0 W) (hbase : base ≤ W.heap.size)
    (h : ∀ g w1, base ≤ g → W.heap.size ≤ g → g < w1.heap.size → R8 e w1 base (.slice (some ⟨g, 0, none⟩) n n) (List.replicate n 0) → Below base w0 w1 → Below W.heap.size W w1 → wpList P ops Q rest (a.put o.dst (.slice (some ⟨g, 0, none⟩) n n)) w1) :
    wpList P ops Q (o :: rest) a W := by
  subst hmn
  obtain ⟨i0, hi, hzz⟩ := Option.map_eq_some_iff.1 hinfo
  simp only [Prod.mk.injEq] at hzz
  obtain ⟨hz0, hz1, hz2⟩ := hzz
  have hr := run_make (P := P) W t e i0 (.int .u8 0) ht hi hz0 .i64 .i64 (n : Int) (n : Int) (by omega) (by omega) (by rw [hz2]; omega) (by omega)
  simp only [Int.toNat_natCast] at hr
  rw [hz1, Nat.mul_one] at hr
  refine Kd.event_run hgd (v := .slice (some ⟨W.heap.size, 0, none⟩) n n) (w1 := W.alloc (.cells (madeCells (Value.int IntKind.u8 0).cells n) e)) ?_ (h W.heap.size _ hbase (Nat.le_refl _) (by simp) ?_ (HB.alloc hbase _) (below_alloc (Below.refl _ _) _))
  · simp [execOp, ho, hx, hy, hr]
  · refine Kd.R_of_own (v := .slice (some ⟨W.heap.size, 0, none⟩) n n) ?_ (fun _ _ => trivial)
    rw [List.length_replicate]
    exact own_made W base e .u8 n hbase (by omega)

theorem lit8 {w0 W : World} (base e : Nat) (hgd : o.guard = none) {N : Tmp} (hd : o.dst = some N) (xs : List Int)
    (hrun : (execOp a.eval o).run P W = .ok (.value (.slice (some ⟨W.heap.size, 0, none⟩) xs.length xs.length)) (W.alloc (.cells (nums .u8 xs).toArray e)))
    (HB : Below base w0 W) (hbase : base ≤ W.heap.size) (hm : xs.length ≤ 9223372036854775807)
    (h : ∀ g w1, base ≤ g → W.heap.size ≤ g → g < w1.heap.size → R8 e w1 base (.slice (some ⟨g, 0, none⟩) xs.length xs.length) xs → Below base w0 w1 → Below W.heap.size W w1 → wpList P ops Q rest (a.put o.dst (.slice (some ⟨g, 0, none⟩) xs.length xs.length)) w1) :
    wpList P ops Q (o :: rest) a W :=
  Kd.event_run hgd hrun (h W.heap.size _ hbase (Nat.le_refl _) (by simp) (Kd.R_of_own (own_lit W base e .u8 xs hbase hm) (fun _ _ => trivial)) (HB.alloc hbase _) (below_alloc (Below.refl _ _) _))

theorem store8 {w0 W : World} (base : Nat) (hN : o.dst = none) (hgd : o.guard = none) (t : TypeId) (p x : Operand) (ho : o.op = .store t p x) (e : TypeId) (g n cap off : Nat) (xs : List Int) (v : Int)
    (haddr : a.eval p = .pointer (some ⟨g, off, none⟩)) (hx : a.eval x = .int .u8 v) (ht : (P.info? t).map (·.size) = some 1)
    (HO : R8 e W base (.slice (some ⟨g, 0, none⟩) n cap) xs) (hi : off < n) (HB : Below base w0 W)
    (h : ∀ w1, R8 e w1 base (.slice (some ⟨g, 0, none⟩) n cap) (xs.set off v) → Below base w0 w1 → W.grownBy w1 (some g) → wpList P ops Q rest a w1) : wpList P ops Q (o :: rest) a W := by
  have hl : n = xs.length := (Kd.R_reads' HO).1
  obtain ⟨hc, _⟩ := Kd.R_cell (0 : Int) (hl ▸ HO) (off : Int) (by omega) (by omega)
  rw [Int.toNat_natCast] at hc
  refine Kd.R_store (Kd.int .u8) (w0 := w0) base hN hgd t p x ho e (off : Int) 0 xs v (.int .u8 v) [.int .u8 v] [.int .u8 (rdOf 0 xs off)] (fun _ => True) (fun _ => False) haddr (show off = (off : Int).toNat * 1 + 0 by simp) hx rfl ht (by intro q hq; rw [List.mem_singleton.1 hq]; rfl) HO (by omega) (by omega) rfl ?_ (show 0 + 1 ≤ 1 from Nat.le_refl _) rfl (fun _ h => h.elim) HB ?_
  · intro j u hu
    match j, hu with
    | 0, hu =>
      obtain rfl : Value.int .u8 (rdOf 0 xs off) = u := by simpa using hu
      have : ((off : Int).toNat * (Kd.int IntKind.u8).sz + 0) = off := by simp [Kd.int, Kd.scalar]
      rw [this]; exact hc
  · intro w1 h1 h2 h3
    rw [Int.toNat_natCast] at h1
    exact h w1 h1 h2 h3

theorem conv8 {W : World} (hgd : o.guard = none) (src dst e : TypeId) (x : Operand) (ho : o.op = .convert src dst x) (s : ByteArray) (S : List Int) (hS : bytesOf s = S) (hx : a.eval x = .string s) {u : TypeDesc}
    (hs : P.underlying src = some u) (hd : P.underlying dst = some (.slice e)) (he : P.underlying e = some (.int .u8)) (hm : s.size ≤ 9223372036854775807)
    (h : ∀ A c w1, C8 w1 A S → S.length ≤ c → Below W.heap.size W w1 → wpList P ops Q rest (a.put o.dst (.slice A S.length c)) w1) :
    wpList P ops Q (o :: rest) a W := by
  subst hS
  have hr := Lib.run_convert_string_bytes (P := P) W src dst e s hs hd he
  have hl : (bytesOf s).length = s.size := bytesOf_len s
  have hread := bytes_reads W e s hm
  rw [← hl] at hread hr
  refine Kd.event_run hgd (v := .slice (some ⟨W.heap.size, 0, none⟩) (bytesOf s).length (grownCap W s.size 0 e)) (w1 := Lib.bytesWorld W e s) ?_ (h _ _ _ (Kd.C_of_reads (d := (0 : Int)) (h1 := fun _ => rfl) hread) ?_ ?_)
  · unfold execOp
    simp only [ho, hx, Sem.run_bind, Sem.run_pure, hr, Result.andThen_ok, hl]
  · rw [hl]; exact grownCap_ge W s.size 0 e
  · refine ⟨rfl, rfl, rfl, by rw [Lib.bytesWorld_size]; omega, fun k hk => Lib.bytesWorld_at_old W e s k hk⟩

theorem append8 {w0 W : World} (base : Nat) (hgd : o.guard = none) (s x : Operand) (t e : TypeId)
    (ho : o.op = .call { callee := .builtin .append, args := #[s, x], argTypes := #[t, t] })
    (ht : P.underlying t = some (.slice e)) (hinfo : (P.info? e).map (fun i => (i.zero, i.size, i.bytes)) = some (some (.int .u8 0), 1, 1))
    (v : Value) (xs ys : List Int) (A : Option Addr) (c : Nat) {m : Nat} (hs : a.eval s = v) (hx : a.eval x = .slice A m c) (hmy : m = ys.length)
    (HO : R8 e W base v xs) (HR : C8 W A ys) (HB : Below base w0 W) (hbase : base ≤ W.heap.size) (hl : xs.length + ys.length ≤ 140737488355328)
    (h : ∀ v1 w1, R8 e w1 base v1 (xs ++ ys) → Below base w0 w1 → W.grownBy w1 v.ownBlock → (v1.ownBlock = v.ownBlock ∨ ∃ b, v1.ownBlock = some b ∧ W.heap.size ≤ b) → wpList P ops Q rest (a.put o.dst v1) w1) :
    wpList P ops Q (o :: rest) a W := by
  subst hmy
  exact Kd.R_append_rows (Kd.int .u8) (w0 := w0) base hgd s x t e (.int .u8 0) 1 ho ht hinfo rfl (by decide) (by decide) v xs ys A ys.length c (fun _ => True) (fun _ => False) hs hx HO HR (fun _ _ h => h) (fun _ h => h.elim) (fun _ _ => trivial) HB hbase (by omega) h

theorem appstr8 {w0 W : World} (base : Nat) (hgd : o.guard = none) (sl x : Operand) (t u e : TypeId)
    (ho : o.op = .call { callee := .builtin .append, args := #[sl, x], argTypes := #[t, u] })
    (ht : P.underlying t = some (.slice e)) (hu : P.underlying u = some .string) (hinfo : (P.info? e).map (fun i => (i.zero, i.size, i.bytes)) = some (some (.int .u8 0), 1, 1))
    (v : Value) (xs : List Int) (s : ByteArray) (hs : a.eval sl = v) (hx : a.eval x = .string s)
    (HO : R8 e W base v xs) (HB : Below base w0 W) (hbase : base ≤ W.heap.size) (hl : xs.length + s.size ≤ 140737488355328)
    (h : ∀ v1 w1, R8 e w1 base v1 (xs ++ bytesOf s) → Below base w0 w1 → W.grownBy w1 v.ownBlock → wpList P ops Q rest (a.put o.dst v1) w1) :
    wpList P ops Q (o :: rest) a W := by
  obtain ⟨i0, hi, hzz⟩ := Option.map_eq_some_iff.1 hinfo
  simp only [Prod.mk.injEq] at hzz
  obtain ⟨hz0, hz1, hz2⟩ := hzz
  have hown := Kd.own_of_R HO
  refine Lib.wpList_append_own_string _ hgd sl x t u ho base e i0 ht hu hi hz0 hz1 hz2 v xs.length _ hs hown s hx (by unfold maxLen; omega) hl hbase ?_
  intro v1 w1 h1 hg _
  have hsz : (bytesOf s).length = s.size := bytesOf_len s
  refine h v1 w1 (Kd.R_of_own ?_ (fun _ _ => trivial)) (HB.grown hg hbase (own_base hown)) hg
  have he : encs (Value.int .u8) xs ++ Lib.strCells s = encs (Value.int .u8) (xs ++ bytesOf s) := by simp [encs, Lib.strCells, bytesOf]
  rw [List.length_append, hsz, ← he]
  exact h1

/-- copy(v[off:..], ys): v a row of the call's own. -/
theorem copy8 {w0 W : World} (base : Nat) (hgd : o.guard = none) (s x : Operand) (t t' e : TypeId)
    (ho : o.op = .call { callee := .builtin .copy, args := #[s, x], argTypes := #[t, t'] }) (ht : P.underlying t = some (.slice e)) (hinfo : (P.info? e).map (fun i => (i.zero, i.size, i.bytes)) = some (some (.int .u8 0), 1, 1))
    (g n cap off dl dc : Nat) (xs ys : List Int) (A B : Option Addr) (c : Nat) {m : Nat} (hs : a.eval s = .slice B dl dc) (hB0 : 0 < min ys.length dl → B = some ⟨g, off, none⟩) (hx : a.eval x = .slice A m c) (hmy : m = ys.length)
    (HO : R8 e W base (.slice (some ⟨g, 0, none⟩) n cap) xs) (HR : C8 W A ys) (hfit : off + dl ≤ n) (HB : Below base w0 W) (hbase : base ≤ W.heap.size)
    (h : ∀ w1, R8 e w1 base (.slice (some ⟨g, 0, none⟩) n cap) (xs.take off ++ (ys.take (min ys.length dl) ++ xs.drop (off + min ys.length dl))) → Below base w0 w1 → W.grownBy w1 (some g) → wpList P ops Q rest (a.put o.dst (.int .i64 ((min ys.length dl : Nat) : Int))) w1) :
    wpList P ops Q (o :: rest) a W := by
  subst hmy
  have hinfo' : (P.info? e).map (·.size) = some 1 := by
    obtain ⟨i0, hi, hzz⟩ := Option.map_eq_some_iff.1 hinfo
    simp only [Prod.mk.injEq] at hzz
    rw [hi]
    simp [hzz.2.1]
  have hR := Kd.reads_of_C (enc := Value.int .u8) (d := (0 : Int)) (h1 := fun _ => rfl) HR
  have hnx : n = xs.length := (Kd.R_reads' HO).1
  have hown := Kd.own_of_R HO
  have fin : ∀ w1, (Builtin.copy_ #[t, t'] o.type #[.slice B dl dc, .slice A ys.length c]).run P W = .ok (goInt ((min ys.length dl : Nat) : Int)) w1 → R8 e w1 base (.slice (some ⟨g, 0, none⟩) n cap) (xs.take off ++ (ys.take (min ys.length dl) ++ xs.drop (off + min ys.length dl))) → W.grownBy w1 (some g) → wpList P ops Q (o :: rest) a W := by
    intro w1 hr hrow hg
    refine wpList_plain hgd fun K hK => ?_
    unfold Oper.wp execOp
    simp only [ho, resolve, invoke, builtin, Sem.run_bind, Sem.run_pure, Result.andThen_ok, List.map_toArray, List.map_cons, List.map_nil, hs, hx, hr]
    exact hK _ _ (h w1 hrow (HB.grown hg hbase (own_base hown)) hg)
  rcases Nat.eq_zero_or_pos (min ys.length dl) with h0 | hp
  · refine fin W ?_ (by rw [h0, List.take_zero, List.nil_append, Nat.add_zero, List.take_append_drop]; exact HO) (World.grownBy.refl W _)
    rw [h0]
    exact run_copy_none W t t' o.type e B A dl dc ys.length c ht hinfo' h0
  · obtain ⟨ad, hA, hc⟩ := hR.2.2 (by omega)
    have hBg := hB0 hp
    rcases hown.2 with ⟨hv, _⟩ | ⟨g', cap', cur, hv, hb, hh, hnc, hcm, hcs, htake⟩
    · cases hv
    injection hv with ha _ hcap
    injection ha with ha
    injection ha with hg'
    subst hg'; subst hcap
    have hcs1 : cur.size = cap := by omega
    generalize hk : min ys.length dl = k at *
    have hkl : (encs (Value.int .u8) (ys.take k)).length = k := by rw [encs_length, List.length_take]; omega
    have hsrc : ∀ j u, (encs (Value.int .u8) (ys.take k))[j]? = some u → W.cell? (ad.add j) = some u := by
      intro j u hu
      have hj : j < (ys.take k).length := by
        rcases Nat.lt_or_ge j (ys.take k).length with h | h
        · exact h
        · rw [List.getElem?_eq_none (by rw [encs_length]; exact h)] at hu
          cases hu
      have hjm : j < k := by rw [List.length_take] at hj; omega
      rw [encs_get (d := (0 : Int)) _ j hj] at hu
      rw [hc j (by omega), ← hu]
      simp [List.getD_eq_getElem?_getD, hjm]
    have hr := run_copy_cells (P := P) W t t' o.type e g off dl dc ad ys.length c (encs (Value.int .u8) (ys.take k)) ht hinfo' (by rw [hkl, ← hk]) hsrc
      (fun j hj => by rw [cell_of_row W g _ cur e (0, 0) hh]; simp; omega) (fun j _ => blk_frozen hh _) (by intro u hu; simp only [encs, List.mem_map] at hu; obtain ⟨q, _, rfl⟩ := hu; rfl)
    obtain ⟨cur', h3, h4, h5⟩ := setCells_row (encs (Value.int .u8) (ys.take k)) off W cur hh (by rw [hkl]; omega)
    obtain ⟨s1, s2, s3, s4⟩ := setCells_same g (encs (Value.int .u8) (ys.take k)) off W
    refine fin (W.setCells g off (encs (Value.int .u8) (ys.take k))) (by rw [hBg, hA, hr, hkl]) (Kd.R_of_own ?_ (fun _ _ => trivial)) ⟨s1, s2, s3, by rw [s4]; exact Nat.le_refl _, fun j _ hj => setCells_far _ _ j (fun he => hj (by rw [he]))⟩
    have hln : (xs.take off ++ (ys.take k ++ xs.drop (off + k))).length = n := by
      rw [List.length_append, List.length_append, List.length_take, List.length_take, List.length_drop]
      omega
    rw [hln]
    refine ⟨by rw [encs_length, hln, Nat.mul_one], .inr ⟨g, cap, cur', rfl, hb, h3, by omega, hcm, by rw [h4, hcs], ?_⟩⟩
    have htk : cur.toList.take n = encs (Value.int .u8) xs := by rw [hnx, ← htake, Nat.mul_one]
    rw [h5, hkl, encs_append, encs_append, Nat.mul_one]
    have e1 : encs (Value.int .u8) (xs.take off) = cur.toList.take off := by
      have : encs (Value.int .u8) (xs.take off) = (encs (Value.int .u8) xs).take off := by simp [encs, List.map_take]
      rw [this, ← htk, List.take_take]; congr 1; omega
    have e2 : encs (Value.int .u8) (xs.drop (off + k)) = (cur.toList.drop (off + k)).take (n - (off + k)) := by
      have : encs (Value.int .u8) (xs.drop (off + k)) = (encs (Value.int .u8) xs).drop (off + k) := by simp [encs, List.map_drop]
      rw [this, ← htk, List.drop_take]
    rw [e1, e2]
    have l1 : (cur.toList.take off).length = off := by rw [List.length_take, Array.length_toList]; omega
    rw [List.append_assoc, List.take_append, l1, List.take_of_length_le (by rw [l1]; omega)]
    congr 1
    rw [List.take_append, hkl, List.take_of_length_le (by rw [hkl]; omega)]
    congr 2
    omega
end
end Go.Proofs.YtjdnnpfhlkgooaaDoor.Kit
