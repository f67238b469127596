/- Lemmas on the seat's program, in order (15 texts in one); the last text's theorems rest on them. -/
import Derived.Test.YtkehjcppgpoobaaWMore
import Derived.Lib.AppendStr
import Derived.Laws.BitsAllLaws
import Derived.RegionTactic
import Derived.BigQuiet
import Derived.Deep.QuietTactic
import Derived.Deep.RegionHeld3
import Derived.StillTailTactics
import Derived.WalkKit
import Derived.WalkSpells
import Derived.WalkLawsBesides
import Derived.Test.YtkehjcppgpoobaaProg
import Derived.Handy
import Derived.Deep.RegionLaw
import Derived.Test.YtkehjcppgpoobaaPFnOcfbx2
/- Laws for the walks of this seat: rows of bytes that are read (C8), or are the call's own (R8): made, laid out, stored into, copied into, appended to; a string as bytes. -/
set_option linter.unusedVariables false
set_option linter.unusedSimpArgs false
namespace Go.Proofs.Ytkehjcppgpoobaa.Kit
open Go.RowKit Go.Proofs.YtkehjcppgpoobaaW.PrintWords

/-- A slice of bytes that reads as l. -/
abbrev C8 (w : World) (A : Option Addr) (l : List Int) : Prop := Kd.C (Kd.int .u8) w A l.length l
/-- A slice of bytes of the call's own (blocks from base on). -/
abbrev R8 (e : Nat) (w : World) (base : Nat) (v : Value) (l : List Int) : Prop := Kd.R (Kd.int .u8) e w base (fun _ => True) v l

theorem r8_reads {e : Nat} {w : World} {base : Nat} {v : Value} {l : List Int} (h : R8 e w base v l) : ∃ A c, v = .slice A l.length c ∧ l.length ≤ c ∧ C8 w A l := Kd.R_reads h
theorem wrap64_id {n : Int} (h : -9223372036854775808 ≤ n) (h' : n ≤ 9223372036854775807) : wrap64 n = n := by unfold wrap64; omega
theorem bytesOf_len (s : ByteArray) : (bytesOf s).length = s.size := by unfold bytesOf; rw [List.length_map, Array.length_toList]; rfl
theorem bind_of {α β : Type} {x : Option α} {a : α} {f : α → Option β} {r : Option β} (h : x = some a) (h2 : f a = r) : x.bind f = r := by rw [h]; exact h2

/-- The bytes lie elsewhere than block g. -/
def Far (A : Option Addr) (l : List Int) (g : Nat) : Prop := ∀ ad, A = some ad → 0 < l.length → ad.block ≠ g
theorem far_c8 {w : World} {A : Option Addr} {l : List Int} {g : Nat} (h : C8 w A l) (hg : w.heap.size ≤ g) : Far A l g := by
  rintro ad rfl hn
  obtain ⟨ad', h', hc⟩ := (Kd.reads_of_C (enc := Value.int .u8) (d := (0 : Int)) (h1 := fun _ => rfl) h).2.2 hn
  injection h' with h'
  subst h'
  have := World.block_lt_of_cell? w _ (hc 0 hn)
  rw [add_block] at this
  omega
theorem c8_grown {w w1 : World} {A : Option Addr} {l : List Int} {g : Nat} (h : C8 w A l) (hf : Far A l g) (hg : w.grownBy w1 (some g)) : C8 w1 A l := by
  refine ⟨h.1, h.2.1, fun hn => ?_⟩
  obtain ⟨ad, he, hc⟩ := h.2.2 hn
  refine ⟨ad, he, fun j p hj => ?_⟩
  obtain ⟨cs, h1, h2, h3⟩ := hc j p hj
  refine ⟨cs, h1, h2, fun i u hu => ?_⟩
  have h4 := h3 i u hu
  have hb := World.block_lt_of_cell? w _ h4
  have hne := hf ad he hn
  have := hg.block (ad.add (j * (Kd.int IntKind.u8).sz + i)).block hb (by rw [add_block]; intro e; injection e with e; exact hne e)
  simpa [World.cell?, this] using h4
theorem cell_grown {w w1 : World} {g : Nat} {a : Addr} {v : Value} (h : w.cell? a = some v) (hne : a.block ≠ g) (hg : w.grownBy w1 (some g)) : w1.cell? a = some v := by
  have hb := World.block_lt_of_cell? w _ h
  have := hg.block a.block hb (by intro e; injection e with e; exact hne e)
  simpa [World.cell?, this] using h
theorem r8_len {e : Nat} {w : World} {base : Nat} {v : Value} {l : List Int} {A : Option Addr} {n c : Nat} (h : R8 e w base v l) (hv : v = .slice A n c) : n = l.length ∧ n ≤ c := by
  subst hv
  obtain ⟨h1, h2, _⟩ := Kd.R_reads' h
  exact ⟨h1, h2⟩

section
variable {P : Program} {ops : Array Oper} {rest : List Oper} {o : Oper} {a : Act} {Q : Exit → Act → World → Prop}

theorem make8 {w0 W : World} (base : Nat) (hgd : o.guard = none) {N : Tmp} (hd : o.dst = some N) (t e : TypeId) (x y : Operand) (ho : o.op = .makeSlice t x y) (n : Nat) {m : Int} (hx : a.eval x = .int .i64 m) (hy : a.eval y = .int .i64 m) (hmn : m = (n : Int))
    (ht : P.underlying t = some (.slice e)) (hinfo : (P.info? e).map (fun i => (i.zero, i.size, i.bytes)) = some (some (.int .u8 0), 1, 1)) (hn : n ≤ 281474976710656) (HB : Below base w0 W) (hbase : base ≤ W.heap.size)
    (h : ∀ g w1, base ≤ g → W.heap.size ≤ g → g < w1.heap.size → R8 e w1 base (.slice (some ⟨g, 0, none⟩) n n) (List.replicate n 0) → Below base w0 w1 → Below W.heap.size W w1 → wpList P ops Q rest (a.put o.dst (.slice (some ⟨g, 0, none⟩) n n)) w1) :
    wpList P ops Q (o :: rest) a W := by
  subst hmn
  obtain ⟨i0, hi, hzz⟩ := Option.map_eq_some_iff.1 hinfo
  simp only [Prod.mk.injEq] at hzz
  obtain ⟨hz0, hz1, hz2⟩ := hzz
  have hr := run_make (P := P) W t e i0 (.int .u8 0) ht hi hz0 .i64 .i64 (n : Int) (n : Int) (by omega) (by omega) (by rw [hz2]; omega) (by omega)
  simp only [Int.toNat_natCast] at hr
  rw [hz1, Nat.mul_one] at hr
  refine Kd.event_run hgd (v := .slice (some ⟨W.heap.size, 0, none⟩) n n) (w1 := W.alloc (.cells (madeCells (Value.int IntKind.u8 0).cells n) e)) ?_ (h W.heap.size _ hbase (Nat.le_refl _) (by simp) ?_ (HB.alloc hbase _) (below_alloc (Below.refl _ _) _))
  · simp [execOp, ho, hx, hy, hr]
  · refine Kd.R_of_own (v := .slice (some ⟨W.heap.size, 0, none⟩) n n) ?_ (fun _ _ => trivial)
    rw [List.length_replicate]
    exact own_made W base e .u8 n hbase (by omega)

theorem lit8 {w0 W : World} (base e : Nat) (hgd : o.guard = none) {N : Tmp} (hd : o.dst = some N) (xs : List Int)
    (hrun : (execOp a.eval o).run P W = .ok (.value (.slice (some ⟨W.heap.size, 0, none⟩) xs.length xs.length)) (W.alloc (.cells (nums .u8 xs).toArray e)))
    (HB : Below base w0 W) (hbase : base ≤ W.heap.size) (hm : xs.length ≤ 9223372036854775807)
    (h : ∀ g w1, base ≤ g → W.heap.size ≤ g → g < w1.heap.size → R8 e w1 base (.slice (some ⟨g, 0, none⟩) xs.length xs.length) xs → Below base w0 w1 → Below W.heap.size W w1 → wpList P ops Q rest (a.put o.dst (.slice (some ⟨g, 0, none⟩) xs.length xs.length)) w1) :
    wpList P ops Q (o :: rest) a W :=
  Kd.event_run hgd hrun (h W.heap.size _ hbase (Nat.le_refl _) (by simp) (Kd.R_of_own (own_lit W base e .u8 xs hbase hm) (fun _ _ => trivial)) (HB.alloc hbase _) (below_alloc (Below.refl _ _) _))

theorem store8 {w0 W : World} (base : Nat) (hN : o.dst = none) (hgd : o.guard = none) (t : TypeId) (p x : Operand) (ho : o.op = .store t p x) (e : TypeId) (g n cap off : Nat) (xs : List Int) (v : Int)
    (haddr : a.eval p = .pointer (some ⟨g, off, none⟩)) (hx : a.eval x = .int .u8 v) (ht : (P.info? t).map (·.size) = some 1)
    (HO : R8 e W base (.slice (some ⟨g, 0, none⟩) n cap) xs) (hi : off < n) (HB : Below base w0 W)
    (h : ∀ w1, R8 e w1 base (.slice (some ⟨g, 0, none⟩) n cap) (xs.set off v) → Below base w0 w1 → W.grownBy w1 (some g) → wpList P ops Q rest a w1) : wpList P ops Q (o :: rest) a W := by
  have hl : n = xs.length := (Kd.R_reads' HO).1
  obtain ⟨hc, _⟩ := Kd.R_cell (0 : Int) (hl ▸ HO) (off : Int) (by omega) (by omega)
  rw [Int.toNat_natCast] at hc
  refine Kd.R_store (Kd.int .u8) (w0 := w0) base hN hgd t p x ho e (off : Int) 0 xs v (.int .u8 v) [.int .u8 v] [.int .u8 (rdOf 0 xs off)] (fun _ => True) (fun _ => False) haddr (show off = (off : Int).toNat * 1 + 0 by simp) hx rfl ht (by intro q hq; rw [List.mem_singleton.1 hq]; rfl) HO (by omega) (by omega) rfl ?_ (show 0 + 1 ≤ 1 from Nat.le_refl _) rfl (fun _ h => h.elim) HB ?_
  · intro j u hu
    match j, hu with
    | 0, hu =>
      obtain rfl : Value.int .u8 (rdOf 0 xs off) = u := by simpa using hu
      have : ((off : Int).toNat * (Kd.int IntKind.u8).sz + 0) = off := by simp [Kd.int, Kd.scalar]
      rw [this]; exact hc
  · intro w1 h1 h2 h3
    rw [Int.toNat_natCast] at h1
    exact h w1 h1 h2 h3

theorem conv8 {W : World} (hgd : o.guard = none) (src dst e : TypeId) (x : Operand) (ho : o.op = .convert src dst x) (s : ByteArray) (S : List Int) (hS : bytesOf s = S) (hx : a.eval x = .string s) {u : TypeDesc}
    (hs : P.underlying src = some u) (hd : P.underlying dst = some (.slice e)) (he : P.underlying e = some (.int .u8)) (hm : s.size ≤ 9223372036854775807)
    (h : ∀ A c w1, C8 w1 A S → S.length ≤ c → Below W.heap.size W w1 → wpList P ops Q rest (a.put o.dst (.slice A S.length c)) w1) :
    wpList P ops Q (o :: rest) a W := by
  subst hS
  have hr := Lib.run_convert_string_bytes (P := P) W src dst e s hs hd he
  have hl : (bytesOf s).length = s.size := bytesOf_len s
  have hread := bytes_reads W e s hm
  rw [← hl] at hread hr
  refine Kd.event_run hgd (v := .slice (some ⟨W.heap.size, 0, none⟩) (bytesOf s).length (grownCap W s.size 0 e)) (w1 := Lib.bytesWorld W e s) ?_ (h _ _ _ (Kd.C_of_reads (d := (0 : Int)) (h1 := fun _ => rfl) hread) ?_ ?_)
  · unfold execOp
    simp only [ho, hx, Sem.run_bind, Sem.run_pure, hr, Result.andThen_ok, hl]
  · rw [hl]; exact grownCap_ge W s.size 0 e
  · refine ⟨rfl, rfl, rfl, by rw [Lib.bytesWorld_size]; omega, fun k hk => Lib.bytesWorld_at_old W e s k hk⟩

theorem append8 {w0 W : World} (base : Nat) (hgd : o.guard = none) (s x : Operand) (t e : TypeId)
    (ho : o.op = .call { callee := .builtin .append, args := #[s, x], argTypes := #[t, t] })
    (ht : P.underlying t = some (.slice e)) (hinfo : (P.info? e).map (fun i => (i.zero, i.size, i.bytes)) = some (some (.int .u8 0), 1, 1))
    (v : Value) (xs ys : List Int) (A : Option Addr) (c : Nat) {m : Nat} (hs : a.eval s = v) (hx : a.eval x = .slice A m c) (hmy : m = ys.length)
    (HO : R8 e W base v xs) (HR : C8 W A ys) (HB : Below base w0 W) (hbase : base ≤ W.heap.size) (hl : xs.length + ys.length ≤ 140737488355328)
    (h : ∀ v1 w1, R8 e w1 base v1 (xs ++ ys) → Below base w0 w1 → W.grownBy w1 v.ownBlock → (v1.ownBlock = v.ownBlock ∨ ∃ b, v1.ownBlock = some b ∧ W.heap.size ≤ b) → wpList P ops Q rest (a.put o.dst v1) w1) :
    wpList P ops Q (o :: rest) a W := by
  subst hmy
  exact Kd.R_append_rows (Kd.int .u8) (w0 := w0) base hgd s x t e (.int .u8 0) 1 ho ht hinfo rfl (by decide) (by decide) v xs ys A ys.length c (fun _ => True) (fun _ => False) hs hx HO HR (fun _ _ h => h) (fun _ h => h.elim) (fun _ _ => trivial) HB hbase (by omega) h

theorem appstr8 {w0 W : World} (base : Nat) (hgd : o.guard = none) (sl x : Operand) (t u e : TypeId)
    (ho : o.op = .call { callee := .builtin .append, args := #[sl, x], argTypes := #[t, u] })
    (ht : P.underlying t = some (.slice e)) (hu : P.underlying u = some .string) (hinfo : (P.info? e).map (fun i => (i.zero, i.size, i.bytes)) = some (some (.int .u8 0), 1, 1))
    (v : Value) (xs : List Int) (s : ByteArray) (hs : a.eval sl = v) (hx : a.eval x = .string s)
    (HO : R8 e W base v xs) (HB : Below base w0 W) (hbase : base ≤ W.heap.size) (hl : xs.length + s.size ≤ 140737488355328)
    (h : ∀ v1 w1, R8 e w1 base v1 (xs ++ bytesOf s) → Below base w0 w1 → W.grownBy w1 v.ownBlock → wpList P ops Q rest (a.put o.dst v1) w1) :
    wpList P ops Q (o :: rest) a W := by
  obtain ⟨i0, hi, hzz⟩ := Option.map_eq_some_iff.1 hinfo
  simp only [Prod.mk.injEq] at hzz
  obtain ⟨hz0, hz1, hz2⟩ := hzz
  have hown := Kd.own_of_R HO
  refine Lib.wpList_append_own_string _ hgd sl x t u ho base e i0 ht hu hi hz0 hz1 hz2 v xs.length _ hs hown s hx (by unfold maxLen; omega) hl hbase ?_
  intro v1 w1 h1 hg _
  have hsz : (bytesOf s).length = s.size := bytesOf_len s
  refine h v1 w1 (Kd.R_of_own ?_ (fun _ _ => trivial)) (HB.grown hg hbase (own_base hown)) hg
  have he : encs (Value.int .u8) xs ++ Lib.strCells s = encs (Value.int .u8) (xs ++ bytesOf s) := by simp [encs, Lib.strCells, bytesOf]
  rw [List.length_append, hsz, ← he]
  exact h1

/-- copy(v[off:..], ys): v a row of the call's own. -/
theorem copy8 {w0 W : World} (base : Nat) (hgd : o.guard = none) (s x : Operand) (t t' e : TypeId)
    (ho : o.op = .call { callee := .builtin .copy, args := #[s, x], argTypes := #[t, t'] }) (ht : P.underlying t = some (.slice e)) (hinfo : (P.info? e).map (fun i => (i.zero, i.size, i.bytes)) = some (some (.int .u8 0), 1, 1))
    (g n cap off dl dc : Nat) (xs ys : List Int) (A B : Option Addr) (c : Nat) {m : Nat} (hs : a.eval s = .slice B dl dc) (hB0 : 0 < min ys.length dl → B = some ⟨g, off, none⟩) (hx : a.eval x = .slice A m c) (hmy : m = ys.length)
    (HO : R8 e W base (.slice (some ⟨g, 0, none⟩) n cap) xs) (HR : C8 W A ys) (hfit : off + dl ≤ n) (HB : Below base w0 W) (hbase : base ≤ W.heap.size)
    (h : ∀ w1, R8 e w1 base (.slice (some ⟨g, 0, none⟩) n cap) (xs.take off ++ (ys.take (min ys.length dl) ++ xs.drop (off + min ys.length dl))) → Below base w0 w1 → W.grownBy w1 (some g) → wpList P ops Q rest (a.put o.dst (.int .i64 ((min ys.length dl : Nat) : Int))) w1) :
    wpList P ops Q (o :: rest) a W := by
  subst hmy
  have hinfo' : (P.info? e).map (·.size) = some 1 := by
    obtain ⟨i0, hi, hzz⟩ := Option.map_eq_some_iff.1 hinfo
    simp only [Prod.mk.injEq] at hzz
    rw [hi]
    simp [hzz.2.1]
  have hR := Kd.reads_of_C (enc := Value.int .u8) (d := (0 : Int)) (h1 := fun _ => rfl) HR
  have hnx : n = xs.length := (Kd.R_reads' HO).1
  have hown := Kd.own_of_R HO
  have fin : ∀ w1, (Builtin.copy_ #[t, t'] o.type #[.slice B dl dc, .slice A ys.length c]).run P W = .ok (goInt ((min ys.length dl : Nat) : Int)) w1 → R8 e w1 base (.slice (some ⟨g, 0, none⟩) n cap) (xs.take off ++ (ys.take (min ys.length dl) ++ xs.drop (off + min ys.length dl))) → W.grownBy w1 (some g) → wpList P ops Q (o :: rest) a W := by
    intro w1 hr hrow hg
    refine wpList_plain hgd fun K hK => ?_
    unfold Oper.wp execOp
    simp only [ho, resolve, invoke, builtin, Sem.run_bind, Sem.run_pure, Result.andThen_ok, List.map_toArray, List.map_cons, List.map_nil, hs, hx, hr]
    exact hK _ _ (h w1 hrow (HB.grown hg hbase (own_base hown)) hg)
  rcases Nat.eq_zero_or_pos (min ys.length dl) with h0 | hp
  · refine fin W ?_ (by rw [h0, List.take_zero, List.nil_append, Nat.add_zero, List.take_append_drop]; exact HO) (World.grownBy.refl W _)
    rw [h0]
    exact run_copy_none W t t' o.type e B A dl dc ys.length c ht hinfo' h0
  · obtain ⟨ad, hA, hc⟩ := hR.2.2 (by omega)
    have hBg := hB0 hp
    rcases hown.2 with ⟨hv, _⟩ | ⟨g', cap', cur, hv, hb, hh, hnc, hcm, hcs, htake⟩
    · cases hv
    injection hv with ha _ hcap
    injection ha with ha
    injection ha with hg'
    subst hg'; subst hcap
    have hcs1 : cur.size = cap := by omega
    generalize hk : min ys.length dl = k at *
    have hkl : (encs (Value.int .u8) (ys.take k)).length = k := by rw [encs_length, List.length_take]; omega
    have hsrc : ∀ j u, (encs (Value.int .u8) (ys.take k))[j]? = some u → W.cell? (ad.add j) = some u := by
      intro j u hu
      have hj : j < (ys.take k).length := by
        rcases Nat.lt_or_ge j (ys.take k).length with h | h
        · exact h
        · rw [List.getElem?_eq_none (by rw [encs_length]; exact h)] at hu
          cases hu
      have hjm : j < k := by rw [List.length_take] at hj; omega
      rw [encs_get (d := (0 : Int)) _ j hj] at hu
      rw [hc j (by omega), ← hu]
      simp [List.getD_eq_getElem?_getD, hjm]
    have hr := run_copy_cells (P := P) W t t' o.type e g off dl dc ad ys.length c (encs (Value.int .u8) (ys.take k)) ht hinfo' (by rw [hkl, ← hk]) hsrc
      (fun j hj => by rw [cell_of_row W g _ cur e (0, 0) hh]; simp; omega) (fun j _ => blk_frozen hh _) (by intro u hu; simp only [encs, List.mem_map] at hu; obtain ⟨q, _, rfl⟩ := hu; rfl)
    obtain ⟨cur', h3, h4, h5⟩ := setCells_row (encs (Value.int .u8) (ys.take k)) off W cur hh (by rw [hkl]; omega)
    obtain ⟨s1, s2, s3, s4⟩ := setCells_same g (encs (Value.int .u8) (ys.take k)) off W
    refine fin (W.setCells g off (encs (Value.int .u8) (ys.take k))) (by rw [hBg, hA, hr, hkl]) (Kd.R_of_own ?_ (fun _ _ => trivial)) ⟨s1, s2, s3, by rw [s4]; exact Nat.le_refl _, fun j _ hj => setCells_far _ _ j (fun he => hj (by rw [he]))⟩
    have hln : (xs.take off ++ (ys.take k ++ xs.drop (off + k))).length = n := by
      rw [List.length_append, List.length_append, List.length_take, List.length_take, List.length_drop]
      omega
    rw [hln]
    refine ⟨by rw [encs_length, hln, Nat.mul_one], .inr ⟨g, cap, cur', rfl, hb, h3, by omega, hcm, by rw [h4, hcs], ?_⟩⟩
    have htk : cur.toList.take n = encs (Value.int .u8) xs := by rw [hnx, ← htake, Nat.mul_one]
    rw [h5, hkl, encs_append, encs_append, Nat.mul_one]
    have e1 : encs (Value.int .u8) (xs.take off) = cur.toList.take off := by
      have : encs (Value.int .u8) (xs.take off) = (encs (Value.int .u8) xs).take off := by simp [encs, List.map_take]
      rw [this, ← htk, List.take_take]; congr 1; omega
    have e2 : encs (Value.int .u8) (xs.drop (off + k)) = (cur.toList.drop (off + k)).take (n - (off + k)) := by
      have : encs (Value.int .u8) (xs.drop (off + k)) = (encs (Value.int .u8) xs).drop (off + k) := by simp [encs, List.map_drop]
      rw [this, ← htk, List.drop_take]
    rw [e1, e2]
    have l1 : (cur.toList.take off).length = off := by rw [List.length_take, Array.length_toList]; omega
    rw [List.append_assoc, List.take_append, l1, List.take_of_length_le (by rw [l1]; omega)]
    congr 1
    rw [List.take_append, hkl, List.take_of_length_le (by rw [hkl]; omega)]
    congr 2
    omega
end
end Go.Proofs.Ytkehjcppgpoobaa.Kit

/- The byte's row of the table of types. -/
namespace Go.Proofs.Ytkehjcppgpoobaa.Kit
open Go.RowKit Go.Proofs.YtkehjcppgpoobaaW.PrintWords

theorem infoB : (Try.prog.info? 5).map (fun i => (i.zero, i.size, i.bytes)) = some (some (.int .u8 0), 1, 1) := by kernel_rfl
theorem infoB1 : (Try.prog.info? 5).map (·.size) = some 1 := by kernel_rfl
theorem wf_u8 {a : Int} (h : (Lit.int .u8 a).wf = true) : 0 ≤ a ∧ a ≤ 255 := by
  simp [Lit.wf, IntKind.min, IntKind.max, IntKind.signed, IntKind.bits] at h
  omega
/-- All are bytes. -/
def Bytes (l : List Int) : Prop := ∀ i : Nat, 0 ≤ l.getD i 0 ∧ l.getD i 0 ≤ 255
theorem bytes_of {l : List Int} (h : ∀ x ∈ l, (Lit.int .u8 x).wf = true) : Bytes l := by
  intro i
  by_cases hi : i < l.length
  · have := wf_u8 (h _ (List.getElem_mem hi))
    rw [List.getD_eq_getElem?_getD, List.getElem?_eq_getElem hi, Option.getD_some]
    omega
  · rw [List.getD_eq_getElem?_getD, List.getElem?_eq_none (by omega)]
    simp
end Go.Proofs.Ytkehjcppgpoobaa.Kit

/- A hash of plain data, as a function of lists. -/
set_option linter.unusedVariables false
set_option linter.unusedSimpArgs false
namespace Go.Proofs.Ytkehjcppgpoobaa.Mix
open Go.RowKit Go.Proofs.YtkehjcppgpoobaaW.PrintWords Go.Proofs.Ytkehjcppgpoobaa.Kit

/-- Exclusive or of two bytes. -/
abbrev xr (a b : Int) : Int := Go.bits .xor .u8 a b
/-- One byte more: the k-th. -/
def stepH (sub : List Int) (n k : Nat) (s : List Int) (b : Int) : List Int :=
  s.set (k % n) (xr (sub.getD (xr (s.getD (k % n) 0) b).toNat 0) (s.getD ((k + 1) % n) 0))
/-- The state behind more bytes, the first of which is the k-th. -/
def mixN (sub : List Int) (n : Nat) : Nat → List Int → List Int → List Int
  | _, s, [] => s
  | k, s, b :: t => mixN sub n (k + 1) (stepH sub n k s b) t
/-- The sum. -/
def hashOf (sub mask t : List Int) : List Int := mixN sub mask.length 0 mask t

theorem mixN_append (sub : List Int) (n : Nat) (a b : List Int) : ∀ (k : Nat) (s : List Int), mixN sub n k s (a ++ b) = mixN sub n (k + a.length) (mixN sub n k s a) b := by
  induction a with
  | nil => intro k s; rfl
  | cons x t ih =>
    intro k s
    show mixN sub n (k + 1) (stepH sub n k s x) (t ++ b) = _
    rw [ih (k + 1) (stepH sub n k s x)]
    show _ = mixN sub n (k + (t.length + 1)) (mixN sub n (k + 1) (stepH sub n k s x) t) b
    rw [show k + (t.length + 1) = k + 1 + t.length by omega]
theorem mixN_snoc (sub : List Int) (n : Nat) (a : List Int) (b : Int) (k : Nat) (s : List Int) : mixN sub n k s (a ++ [b]) = stepH sub n (k + a.length) (mixN sub n k s a) b := by
  rw [mixN_append]; rfl
theorem stepH_length (sub : List Int) (n k : Nat) (s : List Int) (b : Int) : (stepH sub n k s b).length = s.length := by simp [stepH]
theorem mixN_length (sub : List Int) (n : Nat) (t : List Int) : ∀ (k : Nat) (s : List Int), (mixN sub n k s t).length = s.length := by
  induction t with
  | nil => intro k s; rfl
  | cons x t ih => intro k s; exact (ih _ _).trans (stepH_length ..)
theorem mixN_take (sub : List Int) (n : Nat) (l : List Int) (k : Nat) (s : List Int) (i : Nat) (h : i < l.length) :
    mixN sub n k s (l.take (i + 1)) = stepH sub n (k + i) (mixN sub n k s (l.take i)) (l.getD i 0) := by
  rw [List.take_succ_eq_append_getElem h, mixN_snoc, List.length_take, Nat.min_eq_left (by omega)]
  rw [List.getD_eq_getElem?_getD, List.getElem?_eq_getElem h, Option.getD_some]
theorem hashOf_length (sub mask t : List Int) : (hashOf sub mask t).length = mask.length := mixN_length ..

theorem xr_range {a b : Int} (ha : 0 ≤ a) (ha' : a ≤ 255) (hb : 0 ≤ b) (hb' : b ≤ 255) : 0 ≤ xr a b ∧ xr a b ≤ 255 := by
  obtain ⟨x, rfl⟩ : ∃ x : Nat, a = x := ⟨a.toNat, by omega⟩
  obtain ⟨y, rfl⟩ : ∃ y : Nat, b = y := ⟨b.toNat, by omega⟩
  rw [xr, u8_xor_nat x y (by omega) (by omega)]
  have := Nat.xor_lt_two_pow (n := 8) (x := x) (y := y) (by omega) (by omega)
  omega
theorem bytes_set {s : List Int} (h : Bytes s) (i : Nat) {v : Int} (h0 : 0 ≤ v) (h1 : v ≤ 255) : Bytes (s.set i v) := by
  intro j
  rw [List.getD_eq_getElem?_getD, List.getElem?_set]
  by_cases hi : i = j
  · rw [if_pos hi]
    by_cases hl : i < s.length
    · rw [if_pos hl]; exact ⟨h0, h1⟩
    · rw [if_neg hl]; simp
  · rw [if_neg hi, ← List.getD_eq_getElem?_getD]; exact h j
theorem stepH_bytes {sub : List Int} {n k : Nat} {s : List Int} {b : Int} (hs : Bytes sub) (h : Bytes s) (hb : 0 ≤ b) (hb' : b ≤ 255) : Bytes (stepH sub n k s b) := by
  unfold stepH
  have h1 := h (k % n)
  have h2 := hs (xr (s.getD (k % n) 0) b).toNat
  have h3 := h ((k + 1) % n)
  have h4 := xr_range h2.1 h2.2 h3.1 h3.2
  exact bytes_set h _ h4.1 h4.2
theorem bytes_tail {x : Int} {t : List Int} (h : Bytes (x :: t)) : Bytes t := fun i => h (i + 1)
theorem mixN_bytes {sub : List Int} {n : Nat} (hs : Bytes sub) : ∀ {t : List Int} (_ : Bytes t) (k : Nat) {s : List Int} (_ : Bytes s), Bytes (mixN sub n k s t) := by
  intro t
  induction t with
  | nil => intro _ k s h; exact h
  | cons x t ih =>
    intro ht k s h
    have hx := ht 0
    exact ih (bytes_tail ht) (k + 1) (stepH_bytes hs h hx.1 hx.2)
end Go.Proofs.Ytkehjcppgpoobaa.Mix

/- What a call may touch: a set of blocks; all others are as they were. Rows of bytes and single cells that it does not touch are kept. -/
set_option linter.unusedVariables false
set_option linter.unusedSimpArgs false
namespace Go.Proofs.Ytkehjcppgpoobaa.Kit
open Go.RowKit Go.Proofs.YtkehjcppgpoobaaW.PrintWords

/-- Of the blocks that were there only those in S may be otherwise. -/
structure Tch (S : Nat → Prop) (w w' : World) : Prop where
  os : w'.os = w.os
  tape : w'.tape = w.tape
  output : w'.output = w.output
  size : w.heap.size ≤ w'.heap.size
  block : ∀ k, k < w.heap.size → ¬ S k → w'.heap[k]? = w.heap[k]?

section
variable {S : Nat → Prop} {w w1 w2 w0 : World} {B : Nat}
theorem Tch.refl (S : Nat → Prop) (w : World) : Tch S w w := ⟨rfl, rfl, rfl, Nat.le_refl _, fun _ _ _ => rfl⟩
theorem Tch.trans (h : Tch S w w1) (k : Tch S w1 w2) : Tch S w w2 :=
  ⟨k.os.trans h.os, k.tape.trans h.tape, k.output.trans h.output, Nat.le_trans h.size k.size, fun i hi hn => (k.block i (Nat.lt_of_lt_of_le hi h.size) hn).trans (h.block i hi hn)⟩
theorem Tch.mono {S' : Nat → Prop} (h : Tch S w w1) (hS : ∀ k, S k → S' k) : Tch S' w w1 := ⟨h.os, h.tape, h.output, h.size, fun k hk hn => h.block k hk (fun hs => hn (hS k hs))⟩
/-- New blocks beyond the heap's size need not be named. -/
theorem Tch.step {S' : Nat → Prop} (h : Tch S w w1) (k : Tch S' w1 w2) (hS : ∀ k, S' k → k < w.heap.size → S k) : Tch S w w2 :=
  ⟨k.os.trans h.os, k.tape.trans h.tape, k.output.trans h.output, Nat.le_trans h.size k.size, fun i hi hn => (k.block i (Nat.lt_of_lt_of_le hi h.size) (fun hs => hn (hS i hs hi))).trans (h.block i hi hn)⟩
theorem Tch.of_below (h : Below w.heap.size w w1) : Tch S w w1 := ⟨h.os, h.tape, h.output, h.size, fun k hk _ => h.block k hk⟩
theorem Tch.of_grown {row : Option Nat} (h : w.grownBy w1 row) : Tch (fun k => row = some k) w w1 := ⟨h.os, h.tape, h.output, h.size, fun k hk hn => h.block k hk (fun e => hn e.symm)⟩
theorem Tch.drew (h : Tch S w w1) : Tch S w w1.drew := ⟨h.os, h.tape, h.output, h.size, h.block⟩
theorem Tch.drewN (h : Tch S w w1) (n : Nat) : Tch S w (w1.drewN n) := ⟨h.os, h.tape, h.output, h.size, h.block⟩
theorem Tch.alloc (h : Tch S w w1) (o : Obj) : Tch S w (w1.alloc o) :=
  h.trans ⟨rfl, rfl, rfl, by simp, fun k hk _ => Below.heap_alloc _ _ _ hk⟩
theorem Tch.setCell (h : Tch S w w1) {p : Addr} (hp : p.block < w.heap.size → S p.block) (u : Value) : Tch S w (w1.setCell p u) :=
  h.step (S' := fun k => k = p.block) ⟨rfl, rfl, rfl, by simp [World.setCell], fun k _ hn => Below.heap_setCell _ _ _ _ hn⟩ (fun k e hk => by subst e; exact hp hk)
theorem Tch.cell (h : Tch S w w1) {p : Addr} {v : Value} (hc : w.cell? p = some v) (hn : ¬ S p.block) : w1.cell? p = some v :=
  (World.cell?_of_block (w := w) (h.block p.block (World.block_lt_of_cell? w p hc) hn)).trans hc
theorem Tch.frozen (h : Tch S w w1) {p : Addr} (hl : p.block < w.heap.size) (hn : ¬ S p.block) : w1.frozen? p = w.frozen? p := World.frozen?_of_block (w := w) (h.block p.block hl hn)
theorem Tch.below (h : Tch S w w1) (hB : Below B w0 w) (hz : B ≤ w.heap.size) (hS : ∀ k, S k → B ≤ k) : Below B w0 w1 :=
  hB.trans ⟨h.os, h.tape, h.output, h.size, fun k hk => h.block k (Nat.lt_of_lt_of_le hk hz) (fun hs => Nat.lt_irrefl _ (Nat.lt_of_lt_of_le hk (hS k hs)))⟩
/-- The bytes lie in none of S. -/
def Off (S : Nat → Prop) (A : Option Addr) (l : List Int) : Prop := ∀ ad, A = some ad → 0 < l.length → ¬ S ad.block
theorem Tch.c8 {A : Option Addr} {l : List Int} (h : Tch S w w1) (hc : C8 w A l) (ho : Off S A l) : C8 w1 A l := by
  refine ⟨hc.1, hc.2.1, fun hn => ?_⟩
  obtain ⟨ad, he, hcc⟩ := hc.2.2 hn
  refine ⟨ad, he, fun j p hj => ?_⟩
  obtain ⟨cs, h1, h2, h3⟩ := hcc j p hj
  refine ⟨cs, h1, h2, fun i u hu => ?_⟩
  exact h.cell (h3 i u hu) (by rw [add_block]; exact ho ad he hn)
theorem Tch.r8 {e base : Nat} {v : Value} {l : List Int} (h : Tch S w w1) (hr : R8 e w base v l) (ho : ∀ g, v.ownBlock = some g → ¬ S g) : R8 e w1 base v l :=
  Kd.R_mono (Kd.R_step (Kd.R_tight rfl hr) (fun k hk hlt => h.block k hlt (ho k hk.symm))) (fun _ _ => trivial)
end
end Go.Proofs.Ytkehjcppgpoobaa.Kit

/- spec's hash of plain data: the sum of a text. -/
set_option linter.unusedVariables false
set_option linter.unusedSimpArgs false
namespace Go.Proofs.Ytkehjcppgpoobaa.Mix
open Go.RowKit Go.Proofs.YtkehjcppgpoobaaW.PrintWords Go.Proofs.YtkehjcppgpoobaaW.PrintMore Go.Proofs.Ytkehjcppgpoobaa.Kit

theorem rdn (l : List Int) (k : Nat) : rd l (k : Int) = l.getD k 0 := by unfold rd; rw [Int.toNat_natCast]
theorem tmod_nat (k n : Nat) (h : 0 < n) : ((k : Int).tmod (n : Int)) = ((k % n : Nat) : Int) := by rw [Int.ofNat_tmod]
theorem at_ne {g g0 n m c : Nat} {N M : Nat} (h : (Value.slice (some ⟨g, 0, none⟩) m c).ownBlock = (Value.slice (some ⟨g0, 0, none⟩) 0 0).ownBlock ∨ ∃ b, (Value.slice (some ⟨g, 0, none⟩) m c).ownBlock = some b ∧ N ≤ b) (h0 : n + 1 ≤ g0) (h1 : g0 < N) : g ≠ n := by
  rcases h with e | ⟨b, e, hb⟩
  · simp [Value.ownBlock] at e; omega
  · simp [Value.ownBlock] at e; omega
theorem bytes_take {l : List Int} (h : Bytes l) (k : Nat) : Bytes (l.take k) := by
  intro i
  rw [List.getD_eq_getElem?_getD, List.getElem?_take]
  by_cases hi : i < k
  · rw [if_pos hi, ← List.getD_eq_getElem?_getD]; exact h i
  · rw [if_neg hi]; simp
/-- A row of bytes lies elsewhere than a slice's cell. -/
theorem apart_cell {e : Nat} {w : World} {base g b n cap : Nat} {l : List Int} {A : Option Addr} {m c : Nat} (h : R8 e w base (.slice (some ⟨g, 0, none⟩) n cap) l) (hp : 0 < l.length) (hc : w.cell? ⟨b, 0, none⟩ = some (.slice A m c)) : g ≠ b := by
  obtain rfl : n = l.length := (Kd.R_reads' h).1
  obtain ⟨x0, _⟩ := Kd.R_cell (cap := cap) (0 : Int) (h1 := fun _ => rfl) (enc := Value.int .u8) (xs := l) h 0 (by omega) (by omega)
  rintro rfl
  rw [show ((0 : Int)).toNat = 0 from rfl, hc] at x0
  cases x0
/-- The numbers that one round reckons. -/
theorem round_nums (k n : Nat) (hn : 0 < n) (hn2 : n ≤ 64) (hk : k ≤ 9223372036854775806) :
    IntKind.i64.wrap ((k : Int) + 1) = (k : Int) + 1 ∧ ((k : Int).tmod (n : Int)) = ((k % n : Nat) : Int) ∧ (((k : Int) + 1).tmod (n : Int)) = (((k + 1) % n : Nat) : Int) := by
  refine ⟨IntWalk.i64_in _ (by omega), tmod_nat k n hn, ?_⟩
  rw [← Int.natCast_one, ← Int.natCast_add]
  exact tmod_nat (k + 1) n hn

set_option maxHeartbeats 1600000 in
set_option maxRecDepth 100000 in
theorem msum_calls (As : Option Addr) (cs : Nat) (sub : List Int) (Am : Option Addr) (cm : Nat) (mask : List Int) (A : Option Addr) (c : Nat) (l : List Int) (w : World)
    (hs : C8 w As sub) (hsl : sub.length = 256) (hsB : Bytes sub) (hm : C8 w Am mask) (hm1 : 1 ≤ mask.length) (hm2 : mask.length ≤ 64) (hmB : Bytes mask) (hl : C8 w A l) (hlB : Bytes l) :
    Calls Try.prog 107 #[.agg #[.slice As sub.length cs, .slice Am mask.length cm], .slice A l.length c] w fun e w' => ∃ v, e = .returned v ∧ R8 5 w' w.heap.size v (hashOf sub mask l) ∧ Below w.heap.size w w' := by
  have hmax : l.length ≤ 9223372036854775807 := Kd.C_max hl
  have HS := Aside0.mk hs
  have HM := Aside0.mk hm
  have HL := Aside0.mk hl
  have HB := Aside0.mk (And.intro hsB (And.intro hmB hlB))
  have HN := Aside0.mk (And.intro hm1 (And.intro hm2 hsl))
  clear hs hm hl hsB hmB hlB hm1 hm2 hsl
  go_enter Try.func107, Try.ntmps107
  go_wp2_with (first | ((with_reducible refine gate_dst (N := 15) rfl ?_); refine lit8 w.heap.size 5 (w0 := w) rfl (N := 15) rfl [] ?hr ?hb ?hz (by simp) ?_; (case hr => first | (go_simp; done) | (go_simp; rfl)); (case hb => go_grown); (case hz => (simp; omega)); intro g0 w1 hg0 hgW hlt hR hB hB2; have LT := Aside0.mk hlt; clear hlt; have k0 := pw_cell_below hB2 (a := ⟨w.heap.size + 1, 0, none⟩) (v := .slice As sub.length cs) (by simp [go_sem]); have k1 := pw_cell_below hB2 (a := ⟨w.heap.size + 1, 1, none⟩) (v := .slice Am mask.length cm) (by simp [go_sem]); simp at hgW; have RO := Aside0.mk hR; have BB := Aside0.mk hB; have GW := Aside0.mk hgW; clear hR hB hB2 hg0 hgW) | ((with_reducible refine gate_dst (N := 18) rfl ?_); refine append8 w.heap.size (w0 := w) rfl (.tmp 15) (.tmp 17) 22 5 rfl Try.underlying22 infoB _ _ mask _ _ rfl rfl rfl RO.out (Kd.C_below HM.out BB.out) BB.out (below_size BB.out) ?hl ?_; (case hl => have := HN.out; simp; omega); intro v2 w2 hR hB hG hAt; rw [List.nil_append] at hR; have j0 := cell_grown k0 (by have := GW.out; simp; omega) (show w1.grownBy w2 (some g0) from hG); have j1 := cell_grown k1 (by have := GW.out; simp; omega) (show w1.grownBy w2 (some g0) from hG); clear k0 k1; obtain ⟨g, cap, ev, hg1, hg2, hcells⟩ := Kd.R_form hR (by have := HN.out; omega); subst ev; clear RO BB hcells hAt; have RO := Aside0.mk hR; have BB := Aside0.mk hB; clear hR hB hG))
  have gne := Aside0.mk (apart_cell RO.out (by have := HN.out; omega) j0)
  go_loopw [21] (fun i wr => ∃ k : Nat, k ≤ l.length ∧ i = .int .i64 (k : Int) ∧ Aside0 (R8 5 wr w.heap.size (.slice (some ⟨g, 0, none⟩) mask.length cap) (mixN sub mask.length 0 mask (l.take k))) ∧ Aside0 (Below w.heap.size w wr) ∧ Aside0 (wr.cell? ⟨w.heap.size + 1, 0, none⟩ = some (.slice As sub.length cs))) (fun i _ => l.length - (intOf i).toNat)
  case atStart => exact ⟨0, Nat.zero_le _, rfl, RO, BB, ⟨j0⟩⟩
  case round =>
    clear RO BB j0 j1
    obtain ⟨k, hk, rfl, HR, HBl, HC⟩ := hrel
    by_cases hlt : k < l.length
    · obtain ⟨hm1, hm2, hsub⟩ := HN.out
      have HSUB := Aside0.mk hsub
      obtain ⟨f1, f2, f3⟩ := round_nums k mask.length (by omega) (by omega) (by omega)
      have z1 : ((mask.length : Int) == 0) = false := beq_eq_false_iff_ne.2 (by omega)
      have z2 : ¬ (mask.length : Int) = 0 := by omega
      have z3 : ¬ mask = [] := by rintro rfl; simp at hm1
      have z4 : ¬ mask.length = 0 := by omega
      have hq : k % mask.length < mask.length := Nat.mod_lt _ (by omega)
      have hq1 : (k + 1) % mask.length < mask.length := Nat.mod_lt _ (by omega)
      obtain ⟨q, eq⟩ : ∃ q, k % mask.length = q := ⟨_, rfl⟩
      obtain ⟨q1, eq1⟩ : ∃ q1, (k + 1) % mask.length = q1 := ⟨_, rfl⟩
      obtain ⟨s, es⟩ : ∃ s, mixN sub mask.length 0 mask (l.take k) = s := ⟨_, rfl⟩
      have hsl : s.length = mask.length := by rw [← es]; exact mixN_length ..
      have hst := mixN_take sub mask.length l 0 mask k hlt
      rw [Nat.zero_add, es] at hst
      have hsB : Bytes s := by rw [← es]; exact mixN_bytes HB.out.1 (bytes_take HB.out.2.2 k) 0 HB.out.2.1
      rw [es] at HR
      rw [eq] at f2 hq
      rw [eq1] at f3 hq1
      obtain ⟨x0, x1⟩ := Kd.R_cell (cap := cap) (0 : Int) (h1 := fun _ => rfl) (enc := Value.int .u8) (xs := s) (by rw [hsl]; exact HR.out) (q : Int) (by omega) (by omega)
      obtain ⟨y0, y1⟩ := Kd.R_cell (cap := cap) (0 : Int) (h1 := fun _ => rfl) (enc := Value.int .u8) (xs := s) (by rw [hsl]; exact HR.out) (q1 : Int) (by omega) (by omega)
      have rs : ∀ j : Nat, rdOf 0 s (j : Int) = s.getD j 0 := fun j => by unfold rdOf; rw [Int.toNat_natCast]
      rw [Int.toNat_natCast, rs] at x0 y0
      rw [Int.toNat_natCast] at x1 y1
      obtain ⟨ad, rfl, hx⟩ := Kd.at_int (Kd.C_below HL.out HBl.out) (k : Int) (by omega) (by omega)
      rw [Int.toNat_natCast, rdn] at hx
      have hb := HB.out.2.2 k
      have hsq := hsB q
      have hsq1 := hsB q1
      have ST := Aside0.mk hst
      have SB := Aside0.mk hsB
      clear hst hsB es
      obtain ⟨b, eb⟩ : ∃ b, l.getD k 0 = b := ⟨_, rfl⟩
      obtain ⟨sq, esq⟩ : ∃ sq, s.getD q 0 = sq := ⟨_, rfl⟩
      obtain ⟨sq1, esq1⟩ : ∃ sq1, s.getD q1 0 = sq1 := ⟨_, rfl⟩
      rw [eb] at hx hb
      rw [esq] at x0 hsq
      rw [esq1] at y0 hsq1
      have hxr := xr_range hsq.1 hsq.2 hb.1 hb.2
      obtain ⟨sd, rfl, hz⟩ := Kd.at_int (Kd.C_below HS.out HBl.out) (xr sq b) hxr.1 (by omega)
      obtain ⟨z, ez⟩ : ∃ z, rd sub (xr sq b) = z := ⟨_, rfl⟩
      have EE := Aside0.mk (And.intro ez (And.intro eb (And.intro esq (And.intro esq1 (And.intro eq eq1)))))
      rw [ez] at hz
      have hc := HC.out
      have hxs : xr sq b < (sub.length : Int) := by omega
      clear hsub hsl ez eb esq esq1 eq eq1
      go_wp2
      go_still_tail 25, (by kernel_rfl)
      change wpList _ _ _ _ _ wr.drew
      go_wp2
      clear f1 f2 f3
      go_roundw
      case rel =>
        refine ⟨k + 1, hlt, by go_num, ⟨?_⟩, ⟨(below_drew HBl.out).setCell hg1 _⟩, ⟨?_⟩⟩
        · have := (Kd.R_putg (Kd.R_drew HR.out) (q : Int) (xr z sq1)).1
          rw [Int.toNat_natCast] at this
          obtain ⟨ez, eb, esq, esq1, eq, eq1⟩ := EE.out
          rw [ST.out, stepH, eq, eq1, esq, esq1, eb]
          have ez' : sub.getD (xr sq b).toNat 0 = z := ez
          rw [ez']
          exact this
        · have h1 : (⟨g, q, none⟩ : Addr) ≠ ⟨w.heap.size + 1, 0, none⟩ := fun e => gne.out (by injection e)
          exact (World.cell?_setCell_other wr _ _ (.int .u8 (xr z sq1)) h1).trans HC.out
      case measure => simp [intOf]; omega
    · go_wp2
      go_ret
      obtain rfl : k = l.length := by omega
      rw [List.take_length] at HR
      exact ⟨_, rfl, HR.out, HBl.out⟩
end Go.Proofs.Ytkehjcppgpoobaa.Mix

/- impl's hash of plain data: written, asked for its sum, begun anew, made. -/
set_option linter.unusedVariables false
set_option linter.unusedSimpArgs false
namespace Go.Proofs.Ytkehjcppgpoobaa.Mix
open Go.RowKit Go.Proofs.YtkehjcppgpoobaaW.PrintWords Go.Proofs.YtkehjcppgpoobaaW.PrintMore Go.Proofs.Ytkehjcppgpoobaa.Kit

/-- A digest at block d, its state at block g: it was written the text t. -/
structure Dg (base : Nat) (w : World) (d : Nat) (S M : Option Addr) (cS cM g c : Nat) (sub mask t : List Int) : Prop where
  c0 : w.cell? ⟨d, 0, none⟩ = some (.slice S sub.length cS)
  c1 : w.cell? ⟨d, 1, none⟩ = some (.slice M mask.length cM)
  c2 : w.cell? ⟨d, 2, none⟩ = some (.slice (some ⟨g, 0, none⟩) mask.length c)
  c3 : w.cell? ⟨d, 3, none⟩ = some (.int .i64 ((t.length % mask.length : Nat) : Int))
  z2 : w.frozen? ⟨d, 2, none⟩ = false
  z3 : w.frozen? ⟨d, 3, none⟩ = false
  rs : C8 w S sub
  rm : C8 w M mask
  oS : Off (fun k => k = d ∨ k = g) S sub
  oM : Off (fun k => k = d ∨ k = g) M mask
  st : R8 5 w base (.slice (some ⟨g, 0, none⟩) mask.length c) (hashOf sub mask t)
  hd : base ≤ d
  ne : g ≠ d
  sl : sub.length = 256
  m1 : 1 ≤ mask.length
  m2 : mask.length ≤ 64
  bS : Bytes sub
  bM : Bytes mask
  bt : Bytes t

section
variable {base : Nat} {w w1 : World} {d : Nat} {S M : Option Addr} {cS cM g c : Nat} {sub mask t : List Int}
theorem Dg.bg (h : Dg base w d S M cS cM g c sub mask t) : base ≤ g ∧ g < w.heap.size := by
  have hl : 0 < (hashOf sub mask t).length := by rw [hashOf_length]; exact h.m1
  obtain ⟨g', cap, ev, h1, h2, _⟩ := Kd.R_form h.st hl
  injection ev with ev
  injection ev with ev
  injection ev with ev
  subst ev
  exact ⟨h1, h2⟩
theorem Dg.dl (h : Dg base w d S M cS cM g c sub mask t) : d < w.heap.size := World.block_lt_of_cell? w _ h.c0
theorem Dg.kept (h : Dg base w d S M cS cM g c sub mask t) {P : Nat → Prop} (hT : Tch P w w1) (hd : ¬ P d) (hg : ¬ P g) (hS : Off P S sub) (hM : Off P M mask) : Dg base w1 d S M cS cM g c sub mask t :=
  { h with
    c0 := hT.cell h.c0 hd
    c1 := hT.cell h.c1 hd
    c2 := hT.cell h.c2 hd
    c3 := hT.cell h.c3 hd
    z2 := (hT.frozen h.dl hd).trans h.z2
    z3 := (hT.frozen h.dl hd).trans h.z3
    rs := hT.c8 h.rs hS
    rm := hT.c8 h.rm hM
    st := hT.r8 h.st (fun k e => by simp [Value.ownBlock] at e; subst e; exact hg) }
theorem Off.none_ {A : Option Addr} {l : List Int} : Off (fun _ => False) A l := fun _ _ _ h => h
theorem Dg.below (h : Dg base w d S M cS cM g c sub mask t) (hB : Below w.heap.size w w1) : Dg base w1 d S M cS cM g c sub mask t :=
  h.kept (Tch.of_below (S := fun _ => False) hB) id id Off.none_ Off.none_
theorem Dg.drew (h : Dg base w d S M cS cM g c sub mask t) : Dg base w.drew d S M cS cM g c sub mask t := h.below (below_drew (Below.refl _ _))
theorem bytes_snoc {t : List Int} (h : Bytes t) {b : Int} (h0 : 0 ≤ b) (h1 : b ≤ 255) : Bytes (t ++ [b]) := by
  intro i
  rw [List.getD_eq_getElem?_getD, List.getElem?_append]
  by_cases hi : i < t.length
  · rw [if_pos hi, ← List.getD_eq_getElem?_getD]; exact h i
  · rw [if_neg hi]
    rcases Nat.eq_zero_or_pos (i - t.length) with e | e
    · rw [e]; simp; omega
    · rw [List.getElem?_eq_none (by simp; omega)]; simp
/-- One byte more. -/
theorem Dg.one (h : Dg base w d S M cS cM g c sub mask t) {b : Int} (b0 : 0 ≤ b) (b1 : b ≤ 255) {q q1 : Nat} {v : Int} (eq : t.length % mask.length = q) (eq1 : (q + 1) % mask.length = q1)
    (ev : xr (sub.getD (xr ((hashOf sub mask t).getD q 0) b).toNat 0) ((hashOf sub mask t).getD q1 0) = v) :
    Dg base ((w.drew.setCell ⟨g, q, none⟩ (.int .u8 v)).setCell ⟨d, 3, none⟩ (.int .i64 (q1 : Int))) d S M cS cM g c sub mask (t ++ [b]) := by
  have hn : q1 = (t.length + 1) % mask.length := by rw [← eq1, ← eq, Nat.mod_add_mod]
  have hT : Tch (fun k => k = d ∨ k = g) w ((w.drew.setCell ⟨g, q, none⟩ (.int .u8 v)).setCell ⟨d, 3, none⟩ (.int .i64 (q1 : Int))) :=
    ((((Tch.refl _ w).drew).setCell (fun _ => .inr rfl) _).setCell (fun _ => .inl rfl) _)
  have c0 := h.c0
  have c1 := h.c1
  have c2 := h.c2
  have c3 := h.c3
  have z2 := h.z2
  have z3 := h.z3
  have n1 : ¬ g = d := h.ne
  have n2 : ¬ d = g := fun e => h.ne e.symm
  have hst : hashOf sub mask (t ++ [b]) = (hashOf sub mask t).set q v := by
    rw [hashOf, mixN_snoc, Nat.zero_add, stepH, ← hn, eq]
    rw [← ev]; rfl
  refine { h with c0 := ?_, c1 := ?_, c2 := ?_, c3 := ?_, z2 := ?_, z3 := ?_, rs := hT.c8 h.rs h.oS, rm := hT.c8 h.rm h.oM, st := ?_, bt := bytes_snoc h.bt b0 b1 }
  · simp [go_sem, *]
  · simp [go_sem, *]
  · simp [go_sem, *]
  · rw [List.length_append, List.length_singleton, ← hn]; simp [go_sem, *]
  · simp [go_sem, *]
  · simp [go_sem, *]
  · rw [hst]
    have := (Kd.R_putg (Kd.R_drew h.st) (q : Int) v).1
    rw [Int.toNat_natCast] at this
    exact Tch.r8 (S := fun k => k = d) ((Tch.refl (fun k => k = d) _).setCell (p := ⟨d, 3, none⟩) (fun _ => rfl) _) this (fun k e => by simp [Value.ownBlock] at e; subst e; exact h.ne)
end

set_option maxHeartbeats 1600000 in
set_option maxRecDepth 100000 in
theorem write_calls {base : Nat} {w : World} {d : Nat} {S M : Option Addr} {cS cM g c : Nat} {sub mask t : List Int} {P : Option Addr} {cp : Nat} {l : List Int} (h : Dg base w d S M cS cM g c sub mask t)
    (hl : C8 w P l) (ho : Off (fun k => k = d ∨ k = g) P l) (hlB : Bytes l) {n : Nat} (hn : n = l.length) :
    Calls Try.prog 105 #[.pointer (some ⟨d, 0, none⟩), .slice P n cp] w fun e w' => e = .returned (.tuple #[.int .i64 (l.length : Int), .nilIface]) ∧ Dg base w' d S M cS cM g c sub mask (t ++ l) ∧ Tch (fun k => k = d ∨ k = g) w w' := by
  subst hn
  have hmax : l.length ≤ 9223372036854775807 := Kd.C_max hl
  have c2 := h.c2
  have HD := Aside0.mk h
  have HL := Aside0.mk hl
  have HO := Aside0.mk ho
  have HB := Aside0.mk hlB
  clear h hl ho hlB
  go_enter Try.func105, Try.ntmps105
  go_wp2_with fail
  clear c2
  go_loopw [16] (fun i wr => ∃ k : Nat, k ≤ l.length ∧ i = .int .i64 (k : Int) ∧ Aside0 (Dg base wr d S M cS cM g c sub mask (t ++ l.take k)) ∧ Aside0 (Tch (fun k => k = d ∨ k = g) w wr)) (fun i _ => l.length - (intOf i).toNat)
  case atStart => exact ⟨0, Nat.zero_le _, rfl, ⟨by simpa using HD.out⟩, ⟨Tch.refl _ _⟩⟩
  case round =>
    obtain ⟨k, hk, rfl, HR, HT⟩ := hrel
    by_cases hlt : k < l.length
    · have m1 := HR.out.m1
      have m2 := HR.out.m2
      have z1 : ((mask.length : Int) == 0) = false := beq_eq_false_iff_ne.2 (by omega)
      have zz2 : ¬ (mask.length : Int) = 0 := by omega
      have zz3 : ¬ mask = [] := by rintro rfl; simp at m1
      have zz4 : ¬ mask.length = 0 := by omega
      obtain ⟨q, eq⟩ : ∃ q, (t ++ l.take k).length % mask.length = q := ⟨_, rfl⟩
      have hq : q < mask.length := by rw [← eq]; exact Nat.mod_lt _ (by omega)
      obtain ⟨f1, _, f3⟩ := round_nums q mask.length (by omega) (by omega) (by omega)
      obtain ⟨q1, eq1⟩ : ∃ q1, (q + 1) % mask.length = q1 := ⟨_, rfl⟩
      have hq1 : q1 < mask.length := by rw [← eq1]; exact Nat.mod_lt _ (by omega)
      rw [eq1] at f3
      obtain ⟨s, es⟩ : ∃ s, hashOf sub mask (t ++ l.take k) = s := ⟨_, rfl⟩
      have hsl : s.length = mask.length := by rw [← es]; exact hashOf_length ..
      have hsB : Bytes s := by rw [← es]; exact mixN_bytes HR.out.bS HR.out.bt 0 HR.out.bM
      have hst := HR.out.st
      rw [es] at hst
      obtain ⟨x0, x1⟩ := Kd.R_cell (cap := c) (0 : Int) (h1 := fun _ => rfl) (enc := Value.int .u8) (xs := s) (by rw [hsl]; exact hst) (q : Int) (by omega) (by omega)
      obtain ⟨y0, y1⟩ := Kd.R_cell (cap := c) (0 : Int) (h1 := fun _ => rfl) (enc := Value.int .u8) (xs := s) (by rw [hsl]; exact hst) (q1 : Int) (by omega) (by omega)
      have rs : ∀ j : Nat, rdOf 0 s (j : Int) = s.getD j 0 := fun j => by unfold rdOf; rw [Int.toNat_natCast]
      rw [Int.toNat_natCast, rs] at x0 y0
      rw [Int.toNat_natCast] at x1 y1
      obtain ⟨ad, rfl, hx⟩ := Kd.at_int (HT.out.c8 HL.out HO.out) (k : Int) (by omega) (by omega)
      rw [Int.toNat_natCast, rdn] at hx
      have hb := HB.out k
      have hsq := hsB q
      have hsq1 := hsB q1
      obtain ⟨b, eb⟩ : ∃ b, l.getD k 0 = b := ⟨_, rfl⟩
      obtain ⟨sq, esq⟩ : ∃ sq, s.getD q 0 = sq := ⟨_, rfl⟩
      obtain ⟨sq1, esq1⟩ : ∃ sq1, s.getD q1 0 = sq1 := ⟨_, rfl⟩
      rw [eb] at hx hb
      rw [esq] at x0 hsq
      rw [esq1] at y0 hsq1
      have hxr := xr_range hsq.1 hsq.2 hb.1 hb.2
      have sl := HR.out.sl
      obtain ⟨sd, rfl, hz⟩ := Kd.at_int HR.out.rs (xr sq b) hxr.1 (by omega)
      obtain ⟨z, ez⟩ : ∃ z, rd sub (xr sq b) = z := ⟨_, rfl⟩
      rw [ez] at hz
      have hxs : xr sq b < (sub.length : Int) := by omega
      have c0 := HR.out.c0
      have c2 := HR.out.c2
      have c3 := HR.out.c3
      have zf := HR.out.z3
      rw [eq] at c3
      have gd : ¬ g = d := HR.out.ne
      have dg : ¬ d = g := fun e => HR.out.ne e.symm
      have EE := Aside0.mk (And.intro ez (And.intro eb (And.intro esq (And.intro esq1 (And.intro eq (And.intro eq1 es))))))
      clear rs hsl ez eb esq esq1 eq eq1 es hst hsB sl m1
      go_wp2
      go_still_tail 42, (by kernel_rfl)
      change wpList _ _ _ _ _ wr.drew
      go_wp2
      clear f1 f3
      go_roundw
      case rel =>
        obtain ⟨ez, eb, esq, esq1, eq, eq1, es⟩ := EE.out
        refine ⟨k + 1, hlt, by go_num, ⟨?_⟩, ⟨?_⟩⟩
        · have e1 : t ++ l.take (k + 1) = t ++ l.take k ++ [b] := by
            rw [List.take_succ_eq_append_getElem hlt, List.append_assoc]
            congr 2
            rw [← eb, List.getD_eq_getElem?_getD, List.getElem?_eq_getElem hlt, Option.getD_some]
          rw [e1]
          exact HR.out.one hb.1 hb.2 eq eq1 (by rw [es, esq, esq1]; exact congrArg (fun y => xr y sq1) ez)
        · exact ((HT.out.drew).setCell (fun _ => .inr rfl) _).setCell (fun _ => .inl rfl) _
      case measure => simp [intOf]; omega
    · go_wp2
      go_ret2
      obtain rfl : k = l.length := by omega
      rw [List.take_length] at HR
      exact ⟨rfl, HR.out, HT.out⟩
end Go.Proofs.Ytkehjcppgpoobaa.Mix

/- impl's hash of plain data: begun anew, asked for its sum, made. -/
set_option linter.unusedVariables false
set_option linter.unusedSimpArgs false
namespace Go.Proofs.Ytkehjcppgpoobaa.Mix
open Go.RowKit Go.Proofs.YtkehjcppgpoobaaW.PrintWords Go.Proofs.YtkehjcppgpoobaaW.PrintMore Go.Proofs.Ytkehjcppgpoobaa.Kit

theorem below_of_grown {w w1 : World} (h : w.grownBy w1 none) : Below w.heap.size w w1 := ⟨h.os, h.tape, h.output, h.size, fun k hk => h.block k hk (by simp)⟩

/-- A digest at block d, whatever its state. -/
structure Dg0 (w : World) (d : Nat) (S M : Option Addr) (cS cM : Nat) (sub mask : List Int) : Prop where
  c0 : w.cell? ⟨d, 0, none⟩ = some (.slice S sub.length cS)
  c1 : w.cell? ⟨d, 1, none⟩ = some (.slice M mask.length cM)
  c2 : ∃ v, w.cell? ⟨d, 2, none⟩ = some v
  c3 : ∃ v, w.cell? ⟨d, 3, none⟩ = some v
  z2 : w.frozen? ⟨d, 2, none⟩ = false
  z3 : w.frozen? ⟨d, 3, none⟩ = false
  rs : C8 w S sub
  rm : C8 w M mask
  oS : Off (fun k => k = d) S sub
  oM : Off (fun k => k = d) M mask
  sl : sub.length = 256
  m1 : 1 ≤ mask.length
  m2 : mask.length ≤ 64
  bS : Bytes sub
  bM : Bytes mask
theorem Dg.zero {base : Nat} {w : World} {d : Nat} {S M : Option Addr} {cS cM g c : Nat} {sub mask t : List Int} (h : Dg base w d S M cS cM g c sub mask t) : Dg0 w d S M cS cM sub mask :=
  ⟨h.c0, h.c1, ⟨_, h.c2⟩, ⟨_, h.c3⟩, h.z2, h.z3, h.rs, h.rm, fun ad e hp k => h.oS ad e hp (.inl k), fun ad e hp k => h.oM ad e hp (.inl k), h.sl, h.m1, h.m2, h.bS, h.bM⟩
/-- A digest, its state wherever it lies. -/
def DgX (base : Nat) (w : World) (d : Nat) (S M : Option Addr) (cS cM : Nat) (sub mask t : List Int) (lo : Nat) : Prop := ∃ g c, Dg base w d S M cS cM g c sub mask t ∧ lo ≤ g
theorem nil_bytes : Bytes [] := fun i => by simp
theorem c8_lt {w : World} {A : Option Addr} {l : List Int} (h : C8 w A l) : ∀ ad, A = some ad → 0 < l.length → ad.block < w.heap.size := by
  rintro ad rfl hn
  obtain ⟨ad', h', hc⟩ := (Kd.reads_of_C (enc := Value.int .u8) (d := (0 : Int)) (h1 := fun _ => rfl) h).2.2 hn
  injection h' with h'
  subst h'
  have := World.block_lt_of_cell? w _ (hc 0 hn)
  rw [add_block] at this
  exact this

set_option maxHeartbeats 1600000 in
set_option maxRecDepth 100000 in
theorem reset_calls {base : Nat} {w : World} {d : Nat} {S M : Option Addr} {cS cM : Nat} {sub mask : List Int} (h : Dg0 w d S M cS cM sub mask) (hd : base ≤ d) :
    Calls Try.prog 61 #[.pointer (some ⟨d, 0, none⟩)] w fun e w' => e = .returned (.tuple #[]) ∧ DgX base w' d S M cS cM sub mask [] w.heap.size ∧ Tch (fun k => k = d) w w' := by
  have HD := Aside0.mk h
  have hdl := World.block_lt_of_cell? w _ h.c0
  simp only at hdl
  have c1 := h.c1
  obtain ⟨v2, c2⟩ := h.c2
  obtain ⟨v3, c3⟩ := h.c3
  have z2 := h.z2
  have z3 := h.z3
  clear h
  go_enter Try.func61, Try.ntmps61
  go_wp2_with ((with_reducible refine gate_dst (N := 8) rfl ?_); refine append8 w.heap.size (w0 := w) rfl (.const (.slice none 0 0)) (.tmp 7) 22 5 rfl Try.underlying22 infoB (.slice none 0 0) [] mask _ _ rfl rfl rfl (Kd.R_nil _ _ _ _ _) HD.out.rm (Below.refl _ _) (Nat.le_refl _) ?hl ?_; (case hl => have := HD.out.m2; simp; omega); intro v w1 hR hB hG _; rw [List.nil_append] at hR; obtain ⟨g, cap, ev, hg1, hg2, _⟩ := Kd.R_form hR HD.out.m1; subst ev; have k2 := pw_cell_below hB c2; have k3 := pw_cell_below hB c3; have y2 := (hB.frozen (p := ⟨d, 2, none⟩) hdl).trans z2; have y3 := (hB.frozen (p := ⟨d, 3, none⟩) hdl).trans z3; have R1 := Aside0.mk hR; have B1 := Aside0.mk hB; clear hR hB hG c1 c2 c3 z2 z3)
  go_end0
  have hgd : g ≠ d := by omega
  have dg : ¬ d = g := by omega
  have hz := below_size B1.out
  have hD := HD.out
  have c0' := pw_cell_below B1.out hD.c0
  have c1' := pw_cell_below B1.out hD.c1
  have hT : Tch (fun k => k = d) w1 ((w1.setCell ⟨d, 2, none⟩ (.slice (some ⟨g, 0, none⟩) mask.length cap)).setCell ⟨d, 3, none⟩ (.int .i64 0)) :=
    ((Tch.refl (fun k => k = d) _).setCell (p := ⟨d, 2, none⟩) (fun _ => rfl) _).setCell (p := ⟨d, 3, none⟩) (fun _ => rfl) _
  have hlow : ∀ {A : Option Addr} {l : List Int}, C8 w A l → Off (fun k => k = d) A l → Off (fun k => k = d ∨ k = g) A l := fun {A} {l} hc ho ad e hp k => by
    rcases k with k | k
    · exact ho ad e hp k
    · have := c8_lt hc ad e hp; omega
  refine ⟨rfl, ⟨g, cap, ⟨?_, ?_, ?_, ?_, ?_, ?_, hT.c8 (Kd.C_below hD.rs B1.out) hD.oS, hT.c8 (Kd.C_below hD.rm B1.out) hD.oM, hlow hD.rs hD.oS, hlow hD.rm hD.oM, ?_, hd, hgd, hD.sl, hD.m1, hD.m2, hD.bS, hD.bM, nil_bytes⟩, hg1⟩, (Tch.of_below B1.out).trans hT⟩
  · simp [go_sem, *]
  · simp [go_sem, *]
  · simp [go_sem, *]
  · simp [go_sem, *]
  · simp [go_sem, *]
  · simp [go_sem, *]
  · exact hT.r8 (Kd.R_lower R1.out (by omega)) (fun k e => by simp [Value.ownBlock] at e; omega)

set_option maxHeartbeats 1600000 in
set_option maxRecDepth 100000 in
theorem sum_calls {base : Nat} {w : World} {d : Nat} {S M : Option Addr} {cS cM g c : Nat} {sub mask t bl : List Int} {v : Value} (h : Dg base w d S M cS cM g c sub mask t)
    (hv : R8 5 w base v bl) (hl : bl.length ≤ 100000) :
    Calls Try.prog 104 #[.pointer (some ⟨d, 0, none⟩), v] w fun e w' => ∃ v', e = .returned v' ∧ R8 5 w' base v' (bl ++ hashOf sub mask t) ∧ w.grownBy w' v.ownBlock ∧ (v'.ownBlock = v.ownBlock ∨ ∃ b, v'.ownBlock = some b ∧ w.heap.size ≤ b) := by
  have HD := Aside0.mk h
  have c2 := h.c2
  have HV := Aside0.mk hv
  have hbw : base ≤ w.heap.size := Nat.le_of_lt (Nat.lt_of_le_of_lt h.hd h.dl)
  have hst := Kd.R_reads' h.st
  have HS := Aside0.mk hst
  clear h hv hst
  go_enter Try.func104, Try.ntmps104
  go_wp2_with ((with_reducible refine gate_dst (N := 10) rfl ?_); refine append8 base (w0 := w) rfl (.tmp 5) (.tmp 9) 22 5 rfl Try.underlying22 infoB v bl (hashOf sub mask t) _ _ rfl rfl HS.out.1 HV.out HS.out.2.2 (Below.refl _ _) hbw ?hl ?_; (case hl => rw [hashOf_length]; have := HD.out.m2; omega); intro v' w1 hR hB hG hAt; have R1 := Aside0.mk hR; have G1 := Aside0.mk hG; have A1 := Aside0.mk hAt; clear hR hB hG hAt)
  go_ret
  exact ⟨_, rfl, R1.out, G1.out, A1.out⟩
end Go.Proofs.Ytkehjcppgpoobaa.Mix

/- impl's hash of plain data: made. -/
set_option linter.unusedVariables false
set_option linter.unusedSimpArgs false
namespace Go.Proofs.Ytkehjcppgpoobaa.Mix
open Go.RowKit Go.Proofs.YtkehjcppgpoobaaW.PrintWords Go.Proofs.YtkehjcppgpoobaaW.PrintMore Go.Proofs.Ytkehjcppgpoobaa.Kit

theorem cell_step {w w1 : World} {a : Addr} {v : Value} (h : w.cell? a = some v) (hb : Below w.heap.size w w1) : w1.cell? a = some v := pw_cell_below hb h
theorem below_go {B : Nat} {w0 w w1 : World} (h : Below B w0 w) (hz : B ≤ w.heap.size) (hb : Below w.heap.size w w1) : Below B w0 w1 := below_then h hz hb
theorem lt_go {n : Nat} {w w1 : World} (h : n < w.heap.size) (hb : Below w.heap.size w w1) : n < w1.heap.size := Nat.lt_of_lt_of_le h (below_size hb)
theorem dg0_new {w : World} {S M : Option Addr} {cS cM : Nat} {sub mask : List Int} {T : TypeId} (rs : C8 w S sub) (rm : C8 w M mask) (sl : sub.length = 256) (m1 : 1 ≤ mask.length) (m2 : mask.length ≤ 64) (bS : Bytes sub) (bM : Bytes mask) :
    Dg0 (w.alloc (.cells #[.slice S sub.length cS, .slice M mask.length cM, .slice none 0 0, .int .i64 0] T)) w.heap.size S M cS cM sub mask :=
  ⟨by simp [go_sem], by simp [go_sem], ⟨_, by simp [go_sem]; rfl⟩, ⟨_, by simp [go_sem]; rfl⟩, by simp [go_sem], by simp [go_sem], Kd.C_below rs (below_alloc (Below.refl _ _) _), Kd.C_below rm (below_alloc (Below.refl _ _) _),
   fun ad e hp k => by have := c8_lt rs ad e hp; omega, fun ad e hp k => by have := c8_lt rm ad e hp; omega, sl, m1, m2, bS, bM⟩
theorem dgx_lower {base : Nat} {w : World} {d : Nat} {S M : Option Addr} {cS cM : Nat} {sub mask t : List Int} {lo lo' : Nat} (h : DgX base w d S M cS cM sub mask t lo) (hl : lo' ≤ lo) : DgX base w d S M cS cM sub mask t lo' := by
  obtain ⟨g, c, h1, h2⟩ := h
  exact ⟨g, c, h1, by omega⟩
section
variable {P : Program} {ops : Array Oper} {o : Oper} {a : Act} {Q : Exit → Act → World → Prop} {K : Act → World → Prop} {E : Prop}
/-- append(nil, xs...) as a step of a region that draws. -/
theorem appendNilS {W : World} (hgd : o.guard = none) (x : Operand) (t e : TypeId)
    (ho : o.op = .call { callee := .builtin .append, args := #[.const (.slice none 0 0), x], argTypes := #[t, t] })
    (ht : P.underlying t = some (.slice e)) (hinfo : (P.info? e).map (fun i => (i.zero, i.size, i.bytes)) = some (some (.int .u8 0), 1, 1))
    (ys : List Int) (A : Option Addr) (c : Nat) {m : Nat} (hx : a.eval x = .slice A m c) (hmy : m = ys.length)
    (HR : C8 W A ys) (hl : ys.length ≤ 140737488355328)
    (h : ∀ v1 w1, R8 e w1 W.heap.size v1 ys → Below W.heap.size W w1 → K (a.put o.dst v1) w1) :
    if Region.wanted o (yielded ops a.tmps) = true then Oper.wp P o a W K Q else E := by
  subst hmy
  have hw : Region.wanted o (yielded ops a.tmps) = true := by simp [Region.wanted, hgd]
  have := Kd.R_append_rows_step (P := P) (ops := ops) (o := o) (a := a) (Q := Q) (Kc := K) (Kd.int .u8) (w0 := W) W.heap.size hw (.const (.slice none 0 0)) x t e (.int .u8 0) 1 ho ht hinfo rfl (by decide) (by decide) (.slice none 0 0) [] ys A ys.length c (fun _ => True) (fun _ => False) rfl hx (Kd.R_nil _ _ _ _ _) HR (fun _ _ h => h) (fun _ h => h.elim) (fun _ _ => trivial) (Below.refl _ _) (Nat.le_refl _) (by simp; omega)
    (fun v1 w1 hR hB hG _ => h v1 w1 (by rw [List.nil_append] at hR; exact hR) hB)
  rw [if_pos hw] at this
  rw [if_pos hw]
  exact this
end

set_option maxHeartbeats 1600000 in
set_option maxRecDepth 100000 in
theorem make_calls (As : Option Addr) (cs : Nat) (sub : List Int) (Am : Option Addr) (cm : Nat) (mask : List Int) (w : World)
    (hs : C8 w As sub) (hsl : sub.length = 256) (hsB : Bytes sub) (hm : C8 w Am mask) (hm1 : 1 ≤ mask.length) (hm2 : mask.length ≤ 64) (hmB : Bytes mask) :
    Calls Try.prog 40 #[.agg #[.slice As sub.length cs, .slice Am mask.length cm]] w fun e w' => ∃ d S M cS cM, e = .returned (.pointer (some ⟨d, 0, none⟩)) ∧ DgX w.heap.size w' d S M cS cM sub mask [] w.heap.size ∧ (∀ ad, S = some ad → w.heap.size ≤ ad.block) ∧ (∀ ad, M = some ad → w.heap.size ≤ ad.block) ∧ Below w.heap.size w w' := by
  have HS := Aside0.mk hs
  have HM := Aside0.mk hm
  have HB := Aside0.mk (And.intro hsB hmB)
  have HN := Aside0.mk (And.intro hm1 (And.intro hm2 hsl))
  clear hs hm hsB hmB hm1 hm2 hsl
  go_enter Try.func40, Try.ntmps40
  go_wp2_with fail
  go_region_held3 (fun w' => w'.cell? ⟨w.heap.size, 0, none⟩ = some (.slice As sub.length cs) ∧ w'.cell? ⟨w.heap.size, 1, none⟩ = some (.slice Am mask.length cm) ∧ Below w.heap.size w w' ∧ w.heap.size < w'.heap.size) ((refine ⟨?_, ?_, ?_, ?_⟩ <;> first | assumption | ((with_reducible refine cell_step ?_ hB); (focus (first | assumption | (simp [*]; done) | (go_keep; done)))) | (go_grown; done) | (go_keep; done) | (simp; omega))) (first | (refine appendNilS rfl (.tmp 5) 22 5 rfl Try.underlying22 infoB sub _ _ rfl rfl ?_ ?_ ?_; (focus (refine Kd.C_below HS.out ?_; (first | assumption | (go_grown; done)))); (focus (have := HN.out; omega)); intro v_ w1 hR hB; obtain ⟨A6, c6, e6, _, _⟩ := r8_reads hR; subst e6; have R6 := Aside0.mk hR; clear hR; (try (have n1 := Aside0.mk (Kd.R_below R9.out hB); clear R9; have R9 := n1; clear n1)); have hB0 : Below w.heap.size w w1 := (by refine below_go ?_ ?_ hB; (first | assumption | (focus (go_grown; done))); (first | assumption | (focus (simp; done)) | (focus (simp; omega)) | omega)); have hZ0 : w.heap.size < w1.heap.size := (by refine lt_go ?_ hB; (first | assumption | (simp; done) | (simp [*]; done) | omega | (simp; omega)))) | (refine appendNilS rfl (.tmp 8) 22 5 rfl Try.underlying22 infoB mask _ _ rfl rfl ?_ ?_ ?_; (focus (refine Kd.C_below HM.out ?_; (first | assumption | (go_grown; done)))); (focus (have := HN.out; omega)); intro v_ w1 hR hB; obtain ⟨A9, c9, e9, _, _⟩ := r8_reads hR; subst e9; have R9 := Aside0.mk hR; clear hR; (try (have n1 := Aside0.mk (Kd.R_below R6.out hB); clear R6; have R6 := n1; clear n1)); have hB0 : Below w.heap.size w w1 := (by refine below_go ?_ ?_ hB; (first | assumption | (focus (go_grown; done))); (first | assumption | (focus (simp; done)) | (focus (simp; omega)) | omega)); have hZ0 : w.heap.size < w1.heap.size := (by refine lt_go ?_ hB; (first | assumption | (simp; done) | (simp [*]; done) | omega | (simp; omega)))))
  all_goals
    go_wp2_with (go_at_call 61; refine (reset_calls (base := w.heap.size) (dg0_new (Kd.R_reads' R6.out).2.2 (Kd.R_reads' R9.out).2.2 HN.out.2.2 HN.out.1 HN.out.2.1 HB.out.1 HB.out.2) (Nat.le_of_lt hZ0)).mono ?_; rintro e w2 ⟨rfl, hX, hT⟩; have X1 := Aside0.mk hX; have T1 := Aside0.mk hT; clear hX hT)
    go_ret
    exact ⟨_, A6, A9, c6, c9, rfl, dgx_lower X1.out (by simp; omega), fun ad e => by have := Kd.R_base R6.out ad.block (by rw [e]; rfl); (try simp at this); omega, fun ad e => by have := Kd.R_base R9.out ad.block (by rw [e]; rfl); (try simp at this); omega, T1.out.below (hB0.alloc (Nat.le_of_lt hZ0) _) (by simp; omega) (fun k e => by subst e; omega)⟩
end Go.Proofs.Ytkehjcppgpoobaa.Mix

/- impl's block cipher of plain data: what it makes of a block; what the world keeps of it. -/
set_option linter.unusedVariables false
set_option linter.unusedSimpArgs false
namespace Go.Proofs.Ytkehjcppgpoobaa.Blk
open Go.RowKit Go.Proofs.YtkehjcppgpoobaaW.PrintWords Go.Proofs.YtkehjcppgpoobaaW.PrintMore Go.Proofs.Ytkehjcppgpoobaa.Kit Go.Proofs.Ytkehjcppgpoobaa.Mix

/-- Byte i of what the cipher makes of x. -/
def enc1 (perm sub mask x : List Int) (i : Nat) : Int := xr (sub.getD (x.getD (perm.getD i 0).toNat 0).toNat 0) (mask.getD i 0)
/-- What the cipher makes of x. -/
def enc (perm sub mask x : List Int) : List Int := (List.range mask.length).map (enc1 perm sub mask x)
theorem enc_length (perm sub mask x : List Int) : (enc perm sub mask x).length = mask.length := by simp [enc]
theorem enc_getD (perm sub mask x : List Int) (i : Nat) (hi : i < mask.length) : (enc perm sub mask x).getD i 0 = enc1 perm sub mask x i := by
  simp [enc, List.getD_eq_getElem?_getD, hi]
/-- The first k bytes of it, then zeros: what the loop has after k rounds. -/
def encTo (perm sub mask x : List Int) (n k : Nat) : List Int := (List.range n).map (fun i => if i < k then enc1 perm sub mask x i else 0)
theorem encTo_length (perm sub mask x : List Int) (n k : Nat) : (encTo perm sub mask x n k).length = n := by simp [encTo]
theorem encTo_zero (perm sub mask x : List Int) (n : Nat) : encTo perm sub mask x n 0 = List.replicate n 0 := by
  simp only [encTo, Nat.not_lt_zero, if_false]
  apply List.ext_getElem
  · simp
  · intro i h1 h2; simp
theorem encTo_step (perm sub mask x : List Int) (n k : Nat) (hk : k < n) : (encTo perm sub mask x n k).set k (enc1 perm sub mask x k) = encTo perm sub mask x n (k + 1) := by
  apply List.ext_getElem
  · simp [encTo]
  · intro i h1 h2
    simp only [encTo, List.getElem_set, List.getElem_map, List.getElem_range]
    by_cases e : k = i
    · subst e; simp
    · by_cases h : i < k
      · simp [e, h, Nat.lt_succ_of_lt h]
      · have : ¬ i < k + 1 := by omega
        simp [e, h, this]
theorem encTo_take (perm sub mask x : List Int) (n : Nat) (hn : mask.length ≤ n) : (encTo perm sub mask x n mask.length).take mask.length = enc perm sub mask x := by
  apply List.ext_getElem
  · simp [encTo, enc]; omega
  · intro i h1 h2
    have : i < mask.length := by simpa [enc] using h2
    simp [encTo, enc, this]
/-- Lists that make a cipher. -/
structure Right (perm sub mask : List Int) : Prop where
  pl : perm.length = mask.length
  sl : sub.length = 256
  m1 : 1 ≤ mask.length
  m2 : mask.length ≤ 32
  bP : ∀ i, i < mask.length → 0 ≤ perm.getD i 0 ∧ perm.getD i 0 < mask.length
  bS : Bytes sub
  bM : Bytes mask
  nP : perm.Nodup
  nS : sub.Nodup
theorem enc1_byte {perm sub mask x : List Int} (h : Right perm sub mask) (i : Nat) : 0 ≤ enc1 perm sub mask x i ∧ enc1 perm sub mask x i ≤ 255 := by
  have h1 := h.bS (x.getD (perm.getD i 0).toNat 0).toNat
  have h2 := h.bM i
  have := xr_range h1.1 h1.2 h2.1 h2.2
  unfold enc1
  omega
theorem enc_bytes {perm sub mask x : List Int} (h : Right perm sub mask) : Bytes (enc perm sub mask x) := by
  intro i
  by_cases hi : i < mask.length
  · rw [enc_getD _ _ _ _ _ hi]; exact enc1_byte h i
  · rw [List.getD_eq_getElem?_getD, List.getElem?_eq_none (by rw [enc_length]; omega)]; simp
/-- The table back, after k rounds. -/
def backOf (sub : List Int) : Nat → List Int
  | 0 => List.replicate 256 0
  | k + 1 => (backOf sub k).set (sub.getD k 0).toNat (k : Int)
theorem backOf_length (sub : List Int) : ∀ k, (backOf sub k).length = 256
  | 0 => List.length_replicate
  | k + 1 => (List.length_set ..).trans (backOf_length sub k)

/-- A cipher at block a; all that it holds lies in the blocks from lo to hi. -/
structure Blk (lo hi : Nat) (w : World) (a : Nat) (P S M : Option Addr) (cP cS cM : Nat) (perm sub mask : List Int) : Prop where
  c0 : w.cell? ⟨a, 0, none⟩ = some (.slice P perm.length cP)
  c1 : w.cell? ⟨a, 1, none⟩ = some (.slice S sub.length cS)
  c2 : w.cell? ⟨a, 2, none⟩ = some (.slice M mask.length cM)
  cb : ∀ i, i < 256 → w.cell? ⟨a, 3 + i, none⟩ = some (.int .u8 ((backOf sub 256).getD i 0))
  rp : C8 w P perm
  rs : C8 w S sub
  rm : C8 w M mask
  oP : ∀ ad, P = some ad → lo ≤ ad.block ∧ ad.block < hi
  oS : ∀ ad, S = some ad → lo ≤ ad.block ∧ ad.block < hi
  oM : ∀ ad, M = some ad → lo ≤ ad.block ∧ ad.block < hi
  al : lo ≤ a
  ah : a < hi
  hs : hi ≤ w.heap.size
  rt : Right perm sub mask
section
variable {lo hi : Nat} {w w1 : World} {a : Nat} {P S M : Option Addr} {cP cS cM : Nat} {perm sub mask : List Int}
theorem Blk.kept (h : Blk lo hi w a P S M cP cS cM perm sub mask) {T : Nat → Prop} (hT : Tch T w w1) (hd : ∀ k, T k → hi ≤ k ∨ k < lo) : Blk lo hi w1 a P S M cP cS cM perm sub mask :=
  have na : ¬ T a := fun t => by have := hd a t; have := h.al; have := h.ah; omega
  have no : ∀ {A : Option Addr} {l : List Int}, (∀ ad, A = some ad → lo ≤ ad.block ∧ ad.block < hi) → Off T A l := fun f ad e _ t => by have := f ad e; have := hd _ t; omega
  { h with
    c0 := hT.cell h.c0 na
    c1 := hT.cell h.c1 na
    c2 := hT.cell h.c2 na
    cb := fun i hi => hT.cell (h.cb i hi) na
    rp := hT.c8 h.rp (no h.oP)
    rs := hT.c8 h.rs (no h.oS)
    rm := hT.c8 h.rm (no h.oM)
    hs := Nat.le_trans h.hs hT.size }
theorem Blk.below (h : Blk lo hi w a P S M cP cS cM perm sub mask) (hB : Below w.heap.size w w1) : Blk lo hi w1 a P S M cP cS cM perm sub mask :=
  h.kept (Tch.of_below (S := fun _ => False) hB) (fun _ f => f.elim)
theorem Blk.drew (h : Blk lo hi w a P S M cP cS cM perm sub mask) : Blk lo hi w.drew a P S M cP cS cM perm sub mask := h.below (below_drew (Below.refl _ _))
theorem Blk.at_ (h : Blk lo hi w a P S M cP cS cM perm sub mask) : a < w.heap.size := Nat.lt_of_lt_of_le h.ah h.hs
end
end Go.Proofs.Ytkehjcppgpoobaa.Blk

/- impl's block cipher of plain data: a block enciphered. -/
set_option linter.unusedVariables false
set_option linter.unusedSimpArgs false
namespace Go.Proofs.Ytkehjcppgpoobaa.Blk
open Go.RowKit Go.Proofs.YtkehjcppgpoobaaW.PrintWords Go.Proofs.YtkehjcppgpoobaaW.PrintMore Go.Proofs.Ytkehjcppgpoobaa.Kit Go.Proofs.Ytkehjcppgpoobaa.Mix

set_option maxHeartbeats 1600000 in
set_option maxRecDepth 100000 in
theorem encrypt_calls {lo hi base : Nat} {w : World} {a : Nat} {P S M : Option Addr} {cP cS cM : Nat} {perm sub mask : List Int} (h : Blk lo hi w a P S M cP cS cM perm sub mask)
    {A : Option Addr} {cx : Nat} {x : List Int} (hx : C8 w A x) (hxl : mask.length ≤ x.length) (hxB : Bytes x)
    {g off dl dc N cap : Nat} {xs : List Int} (hD : R8 5 w base (.slice (some ⟨g, 0, none⟩) N cap) xs) (h1 : off + dl ≤ N) (h2 : mask.length ≤ dl) (h3 : dl ≤ dc) (hb : base ≤ w.heap.size) {n : Nat} (hn : n = x.length) :
    Calls Try.prog 114 #[.pointer (some ⟨a, 0, none⟩), .slice (some ⟨g, off, none⟩) dl dc, .slice A n cx] w fun e w' => e = .returned (.tuple #[]) ∧ R8 5 w' base (.slice (some ⟨g, 0, none⟩) N cap) (xs.take off ++ (enc perm sub mask x ++ xs.drop (off + mask.length))) ∧ Tch (fun k => k = g) w w' := by
  subst hn
  have c0 := h.c0
  have HD := Aside0.mk hD
  have HX := Aside0.mk hx
  have HB := Aside0.mk hxB
  have al := h.at_
  have m1 := h.rt.m1
  have m2 := h.rt.m2
  have pl := h.rt.pl
  have HH := Aside0.mk h
  clear h hx hxB hD
  go_enter Try.func114, Try.ntmps114
  go_wp2_with fail
  obtain ⟨W1, eW⟩ : ∃ W1, w.alloc (Obj.cells #[.int .u8 0, .int .u8 0, .int .u8 0, .int .u8 0, .int .u8 0, .int .u8 0, .int .u8 0, .int .u8 0, .int .u8 0, .int .u8 0, .int .u8 0, .int .u8 0, .int .u8 0, .int .u8 0, .int .u8 0, .int .u8 0, .int .u8 0, .int .u8 0, .int .u8 0, .int .u8 0, .int .u8 0, .int .u8 0, .int .u8 0, .int .u8 0, .int .u8 0, .int .u8 0, .int .u8 0, .int .u8 0, .int .u8 0, .int .u8 0, .int .u8 0, .int .u8 0] 169) = W1 := ⟨_, rfl⟩
  have hY : R8 169 W1 w.heap.size (.slice (some ⟨w.heap.size, 0, none⟩) 32 32) (List.replicate 32 0) := by rw [← eW]; exact Kd.R_of_own (own_lit w w.heap.size 169 .u8 (List.replicate 32 0) (Nat.le_refl _) (by simp)) (fun _ _ => trivial)
  have hBW : Below w.heap.size w W1 := by rw [← eW]; exact below_alloc (Below.refl _ _) _
  rw [eW]
  have YY := Aside0.mk hY
  have BW := Aside0.mk hBW
  clear hY hBW eW c0
  go_loopw [15] (fun i wr => ∃ k : Nat, k ≤ mask.length ∧ i = .int .i64 (k : Int) ∧ Aside0 (R8 169 wr w.heap.size (.slice (some ⟨w.heap.size, 0, none⟩) 32 32) (encTo perm sub mask x 32 k)) ∧ Aside0 (Below w.heap.size w wr)) (fun i _ => mask.length - (intOf i).toNat)
  case atStart => exact ⟨0, Nat.zero_le _, rfl, ⟨by rw [encTo_zero]; exact YY.out⟩, BW⟩
  case round =>
    clear YY BW
    obtain ⟨k, hk, rfl, HR, HT⟩ := hrel
    by_cases hlt : k < mask.length
    · have HK := Aside0.mk (HH.out.below HT.out)
      have bp := HH.out.rt.bP k hlt
      obtain ⟨ap, rfl, hp⟩ := Kd.at_int HK.out.rp (k : Int) (by omega) (by omega)
      rw [Int.toNat_natCast, rdn] at hp
      obtain ⟨p, ep⟩ : ∃ p, perm.getD k 0 = p := ⟨_, rfl⟩
      rw [ep] at hp bp
      obtain ⟨ax, rfl, hx⟩ := Kd.at_int (Kd.C_below HX.out HT.out) p bp.1 (by omega)
      obtain ⟨v, ev⟩ : ∃ v, rd x p = v := ⟨_, rfl⟩
      have bv : 0 ≤ v ∧ v ≤ 255 := by rw [← ev]; exact HB.out p.toNat
      rw [ev] at hx
      have sl := HH.out.rt.sl
      obtain ⟨as_, rfl, hs⟩ := Kd.at_int HK.out.rs v bv.1 (by omega)
      obtain ⟨s, es⟩ : ∃ s, rd sub v = s := ⟨_, rfl⟩
      rw [es] at hs
      obtain ⟨am, rfl, hm⟩ := Kd.at_int HK.out.rm (k : Int) (by omega) (by omega)
      rw [Int.toNat_natCast, rdn] at hm
      obtain ⟨m, em⟩ : ∃ m, mask.getD k 0 = m := ⟨_, rfl⟩
      rw [em] at hm
      have eY : xr s m = enc1 perm sub mask x k := by rw [← em, ← es, ← ev, ← ep]; rfl
      have EY := Aside0.mk eY
      obtain ⟨hy, hz⟩ := Kd.R_celln (0 : Int) (h1 := fun _ => rfl) (enc := Value.int .u8) HR.out (k : Int) (by omega) (by omega)
      rw [Int.toNat_natCast] at hy hz
      have c0 := HK.out.c0
      have c1 := HK.out.c1
      have c2 := HK.out.c2
      obtain ⟨p0, p1⟩ := bp
      obtain ⟨v0, v1⟩ := bv
      have p2 : p < (x.length : Int) := by omega
      have v2 : v < (sub.length : Int) := by omega
      have k32 : (k : Int) < 32 := by omega
      clear ep ev es em eY sl
      go_wp2_with fail
      go_still_tail 22, (by kernel_rfl)
      change wpList _ _ _ _ _ wr.drew
      go_wp2
      go_roundw
      case rel =>
        refine ⟨k + 1, hlt, by go_num, ⟨?_⟩, ⟨(below_drew HT.out).setCell (Nat.le_refl _) _⟩⟩
        have := (Kd.R_putg (Kd.R_drew HR.out) (k : Int) (xr s m)).1
        rw [Int.toNat_natCast, EY.out, encTo_step _ _ _ _ _ _ (by omega)] at this
        have e2 : bits BinOp.xor IntKind.u8 s m = enc1 perm sub mask x k := EY.out
        rw [e2]
        exact this
      case measure => simp [intOf]; omega
    · obtain rfl : k = mask.length := by omega
      have HK := Aside0.mk (HH.out.below HT.out)
      have c2 := HK.out.c2
      have d1 : mask.length ≤ dc := by omega
      have d2 : (mask.length : Int) ≤ (dc : Int) := by omega
      have d3 : ¬ (mask.length : Int) < 0 := by omega
      go_wp2_with fail
      go_still_tail 9, (by kernel_rfl)
      change wpList _ _ _ _ _ wr.drew
      have lE : (encTo perm sub mask x 32 mask.length).length = 32 := encTo_length ..
      have eM : min (encTo perm sub mask x 32 mask.length).length mask.length = mask.length := by rw [lE]; omega
      have sz := below_size HT.out
      clear c2 d1 d2 d3
      refine copy8 (o := ⟨some 52, _, _, _, _, _⟩) base (w0 := wr.drew) rfl (.tmp 50) (.tmp 51) 22 22 5 rfl Try.underlying22 infoB g N cap off mask.length dc xs (encTo perm sub mask x 32 mask.length) (some ⟨w.heap.size, 0, none⟩) (some ⟨g, off, none⟩) 32 rfl (fun _ => rfl) rfl lE.symm (Kd.R_drew (Kd.R_below HD.out HT.out)) (Kd.R_reads' (Kd.R_drew HR.out)).2.2 (by omega) (Below.refl _ _) (by simp; omega) ?_
      intro w2 hR hB2 hG
      rw [eM] at hR ⊢
      rw [encTo_take _ _ _ _ _ m2] at hR
      have R1 := Aside0.mk hR
      have T1 := Aside0.mk ((Tch.of_below (S := fun k => k = g) HT.out).drew.trans ((Tch.of_grown hG).mono (fun k e => by injection e with e; exact e.symm)))
      clear hR hB2 hG
      first
        | (go_wp2; go_end0; exact ⟨rfl, R1.out, T1.out⟩)
        | (go_end0; exact ⟨rfl, R1.out, T1.out⟩)
end Go.Proofs.Ytkehjcppgpoobaa.Blk

/- impl.permutation: true of a list that has no number twice and none beyond. -/
set_option linter.unusedVariables false
set_option linter.unusedSimpArgs false
namespace Go.Proofs.Ytkehjcppgpoobaa.Blk
open Go.RowKit Go.Proofs.YtkehjcppgpoobaaW.PrintWords Go.Proofs.YtkehjcppgpoobaaW.PrintMore Go.Proofs.Ytkehjcppgpoobaa.Kit Go.Proofs.Ytkehjcppgpoobaa.Mix

/-- Which numbers are seen in the first k. -/
structure Sn (w : World) (s : Nat) (l : List Int) (k : Nat) : Prop where
  cb : ∀ v, v < 256 → w.cell? ⟨s, v, none⟩ = some (.bool (decide ((v : Int) ∈ l.take k)))
  fb : ∀ v, v < 256 → w.frozen? ⟨s, v, none⟩ = false
theorem seen_zero : Try.zeroCells139.toList = List.replicate 256 (.bool false) := by kernel_rfl
theorem seen_at (v : Nat) (hv : v < 256) : Try.zeroCells139[v]? = some (.bool false) := by
  rw [← Array.getElem?_toList, seen_zero, List.getElem?_replicate, if_pos hv]
theorem sn_new {w : World} {l : List Int} : ∃ W2, w.alloc (.cells Try.zeroCells139 139) = W2 ∧ Sn W2 w.heap.size l 0 := by
  refine ⟨_, rfl, fun v hv => ?_, fun v hv => ?_⟩
  · rw [List.take_zero]
    have h0 := seen_at v hv
    simp only [List.not_mem_nil, decide_false]
    rw [← h0]
    simp only [World.cell?, World.alloc]
    simp
  · simp [go_sem]
theorem Sn.put {w : World} {s : Nat} {l : List Int} {k : Nat} (h : Sn w s l k) (hk : k < l.length) {p : Int} (hp : l.getD k 0 = p) (p0 : 0 ≤ p) (p1 : p.toNat < 256) :
    Sn (w.setCell ⟨s, p.toNat, none⟩ (.bool true)) s l (k + 1) := by
  have et : l.take (k + 1) = l.take k ++ [p] := by
    rw [List.take_succ_eq_append_getElem hk, ← hp, List.getD_eq_getElem?_getD, List.getElem?_eq_getElem hk, Option.getD_some]
  refine ⟨fun v hv => ?_, fun v hv => ?_⟩
  · have hc := h.cb v hv
    have hq := h.cb p.toNat p1
    by_cases e : p.toNat = v
    · subst e
      have : ((p.toNat : Nat) : Int) ∈ l.take (k + 1) := by rw [et, Int.toNat_of_nonneg p0]; simp
      rw [decide_eq_true this]
      simp [go_sem, hq]
    · have h1 : (⟨s, p.toNat, none⟩ : Addr) ≠ ⟨s, v, none⟩ := by intro q; injection q with _ q; exact e q
      rw [World.cell?_setCell_other w _ _ _ h1, hc]
      congr 2
      rw [et, decide_eq_decide, List.mem_append]
      constructor
      · exact .inl
      · rintro (h | h)
        · exact h
        · rw [List.mem_singleton] at h; omega
  · have := h.fb v hv
    simp [go_sem, this]
theorem fresh_at {l : List Int} (hn : l.Nodup) {k : Nat} (hk : k < l.length) {p : Int} (hp : l.getD k 0 = p) : ¬ p ∈ l.take k := by
  intro hm
  have e : l[k] = p := by rw [← hp, List.getD_eq_getElem?_getD, List.getElem?_eq_getElem hk, Option.getD_some]
  obtain ⟨i, hi, he⟩ := List.getElem_of_mem hm
  rw [List.getElem_take] at he
  rw [List.length_take] at hi
  have := (List.getElem_inj hn (i := i) (j := k) (h₀ := by omega) (h₁ := hk)).1 (he.trans e.symm)
  omega

set_option maxHeartbeats 1600000 in
set_option maxRecDepth 100000 in
theorem permutation_calls {w : World} {A : Option Addr} {c n : Nat} {l : List Int} (hl : C8 w A l) (hn : n = l.length) (h256 : l.length ≤ 256) (hP : ∀ i, i < l.length → 0 ≤ l.getD i 0 ∧ l.getD i 0 < l.length) (hN : l.Nodup) :
    Calls Try.prog 64 #[.slice A n c] w fun e w' => e = .returned (.bool true) ∧ Below w.heap.size w w' := by
  subst hn
  have HL := Aside0.mk hl
  have HP := Aside0.mk hP
  have HN := Aside0.mk hN
  clear hl hP hN
  go_enter Try.func64, Try.ntmps64
  go_wp2_with fail
  obtain ⟨W2, e2, hK⟩ := sn_new (w := w) (l := l)
  have hB2 : Below w.heap.size w W2 := by rw [← e2]; exact below_alloc (Below.refl _ _) _
  have HK := Aside0.mk hK
  have B2 := Aside0.mk hB2
  rw [e2]
  clear hK hB2 e2
  go_loopw [8] (fun i wr => ∃ k : Nat, k ≤ l.length ∧ i = .int .i64 (k : Int) ∧ Aside0 (Sn wr w.heap.size l k) ∧ Aside0 (Below w.heap.size w wr)) (fun i _ => l.length - (intOf i).toNat)
  case atStart => exact ⟨0, Nat.zero_le _, rfl, HK, B2⟩
  case round =>
    clear HK B2
    obtain ⟨k, hk, rfl, HR1, HT⟩ := hrel
    by_cases hlt : k < l.length
    · obtain ⟨as_, rfl, hx⟩ := Kd.at_int (Kd.C_below HL.out HT.out) (k : Int) (by omega) (by omega)
      rw [Int.toNat_natCast, rdn] at hx
      obtain ⟨p0, p1⟩ := HP.out k hlt
      obtain ⟨p, ep⟩ : ∃ p, l.getD k 0 = p := ⟨_, rfl⟩
      rw [ep] at hx p0 p1
      have p2 : p < 256 := by omega
      have p3 : p.toNat < 256 := by omega
      have hc := HR1.out.cb p.toNat p3
      rw [Int.toNat_of_nonneg p0, decide_eq_false (fresh_at HN.out hlt ep)] at hc
      have hf := HR1.out.fb p.toNat p3
      have p4 : ¬ p ≥ (l.length : Int) := by omega
      have EP := Aside0.mk ep
      clear ep
      go_wp2
      go_roundw
      case rel => exact ⟨k + 1, hlt, by go_num, ⟨HR1.out.put hlt EP.out p0 p3⟩, ⟨HT.out.setCell (Nat.le_refl _) _⟩⟩
      case measure => simp [intOf]; omega
    · go_wp2
      go_ret
      exact ⟨rfl, HT.out⟩
end Go.Proofs.Ytkehjcppgpoobaa.Blk

/- impl's block cipher of plain data: Right, BlockSize; spec's: Size, Data. -/
set_option linter.unusedVariables false
set_option linter.unusedSimpArgs false
namespace Go.Proofs.Ytkehjcppgpoobaa.Blk
open Go.RowKit Go.Proofs.YtkehjcppgpoobaaW.PrintWords Go.Proofs.YtkehjcppgpoobaaW.PrintMore Go.Proofs.Ytkehjcppgpoobaa.Kit Go.Proofs.Ytkehjcppgpoobaa.Mix

theorem Right.rngP {perm sub mask : List Int} (h : Right perm sub mask) : ∀ i, i < perm.length → 0 ≤ perm.getD i 0 ∧ perm.getD i 0 < perm.length := by
  intro i hi
  rw [h.pl] at hi ⊢
  exact h.bP i hi
theorem Right.rngS {perm sub mask : List Int} (h : Right perm sub mask) : ∀ i, i < sub.length → 0 ≤ sub.getD i 0 ∧ sub.getD i 0 < sub.length := by
  intro i hi
  have := h.bS i
  have := h.sl
  omega

set_option maxHeartbeats 1600000 in
theorem size_calls {lo hi : Nat} {w : World} {a : Nat} {P S M : Option Addr} {cP cS cM : Nat} {perm sub mask : List Int} (h : Blk lo hi w a P S M cP cS cM perm sub mask) :
    Calls Try.prog 112 #[.pointer (some ⟨a, 0, none⟩)] w fun e w' => e = .returned (.int .i64 (mask.length : Int)) ∧ Below w.heap.size w w' := by
  have c2 := h.c2
  clear h
  go_enter Try.func112, Try.ntmps112
  go_wp2
  go_ret
  exact ⟨rfl, by first | exact Below.refl _ _ | go_grown⟩

set_option maxHeartbeats 1600000 in
theorem dsize_calls {w : World} (Ap : Option Addr) (lp cp : Nat) (As : Option Addr) (ls cs : Nat) (Am : Option Addr) (lm cm : Nat) :
    Calls Try.prog 110 #[.agg #[.slice Ap lp cp, .slice As ls cs, .slice Am lm cm]] w fun e w' => e = .returned (.int .i64 (lm : Int)) ∧ Below w.heap.size w w' := by
  go_enter Try.func110, Try.ntmps110
  go_wp2
  go_ret
  exact ⟨rfl, by go_grown⟩

set_option maxHeartbeats 1600000 in
theorem data_calls {w : World} (Ap : Option Addr) (lp cp : Nat) (As : Option Addr) (ls cs : Nat) (Am : Option Addr) (lm cm : Nat) :
    Calls Try.prog 24 #[.agg #[.slice Ap lp cp, .slice As ls cs, .slice Am lm cm]] w fun e w' => e = .returned (.iface 79 (.agg #[.slice Ap lp cp, .slice As ls cs, .slice Am lm cm])) ∧ Below w.heap.size w w' := by
  go_enter Try.func24, Try.ntmps24
  go_wp2
  go_ret
  exact ⟨rfl, by go_grown⟩
end Go.Proofs.Ytkehjcppgpoobaa.Blk

/- spec's block cipher of plain data: a block enciphered. -/
set_option linter.unusedVariables false
set_option linter.unusedSimpArgs false
namespace Go.Proofs.Ytkehjcppgpoobaa.Blk
open Go.RowKit Go.Proofs.YtkehjcppgpoobaaW.PrintWords Go.Proofs.YtkehjcppgpoobaaW.PrintMore Go.Proofs.Ytkehjcppgpoobaa.Kit Go.Proofs.Ytkehjcppgpoobaa.Mix

set_option maxHeartbeats 1600000 in
set_option maxRecDepth 100000 in
theorem encipher_calls (Ap : Option Addr) (cp : Nat) (perm : List Int) (As : Option Addr) (cs : Nat) (sub : List Int) (Am : Option Addr) (cm : Nat) (mask : List Int) (A : Option Addr) (c n : Nat) (x : List Int) (w : World)
    (hp : C8 w Ap perm) (hs : C8 w As sub) (hm : C8 w Am mask) (hr : Right perm sub mask) (hx : C8 w A x) (hxB : Bytes x) (hxl : x.length = mask.length) (hn : n = x.length) :
    Calls Try.prog 109 #[.agg #[.slice Ap perm.length cp, .slice As sub.length cs, .slice Am mask.length cm], .slice A n c] w fun e w' => ∃ v, e = .returned v ∧ R8 5 w' w.heap.size v (enc perm sub mask x) ∧ Below w.heap.size w w' := by
  obtain rfl : n = mask.length := hn.trans hxl
  have HP := Aside0.mk hp
  have HS := Aside0.mk hs
  have HM := Aside0.mk hm
  have HR := Aside0.mk hr
  have HX := Aside0.mk hx
  have HB := Aside0.mk hxB
  have HL := Aside0.mk hxl
  have m1 := hr.m1
  have m2 := hr.m2
  clear hp hs hm hr hx hxB hxl hn
  go_enter Try.func109, Try.ntmps109
  go_wp2_with ((with_reducible refine gate_dst (N := 12) rfl ?_); refine make8 w.heap.size (w0 := w) rfl (N := 12) rfl 22 5 (.tmp 11) (.tmp 11) rfl mask.length rfl rfl rfl Try.underlying22 infoB (by omega) ?hb ?hz ?_; (case hb => go_grown); (case hz => (simp; omega)); intro g w1 hg hgW hlt hR hB hB2; have k0 := pw_cell_below hB2 (a := ⟨w.heap.size + 1, 0, none⟩) (v := .slice Ap perm.length cp) (by simp [go_sem]); have k1 := pw_cell_below hB2 (a := ⟨w.heap.size + 1, 1, none⟩) (v := .slice As sub.length cs) (by simp [go_sem]); have k2 := pw_cell_below hB2 (a := ⟨w.heap.size + 1, 2, none⟩) (v := .slice Am mask.length cm) (by simp [go_sem]); simp at hgW; have R1 := Aside0.mk hR; have B1 := Aside0.mk hB; clear hR hB hB2 hlt)
  go_loopw [15] (fun i wr => ∃ k : Nat, k ≤ mask.length ∧ i = .int .i64 (k : Int) ∧ Aside0 (R8 5 wr w.heap.size (.slice (some ⟨g, 0, none⟩) mask.length mask.length) (encTo perm sub mask x mask.length k)) ∧ Aside0 (Below w.heap.size w wr) ∧ Aside0 (wr.cell? ⟨w.heap.size + 1, 0, none⟩ = some (.slice Ap perm.length cp) ∧ wr.cell? ⟨w.heap.size + 1, 1, none⟩ = some (.slice As sub.length cs) ∧ wr.cell? ⟨w.heap.size + 1, 2, none⟩ = some (.slice Am mask.length cm))) (fun i _ => mask.length - (intOf i).toNat)
  case atStart => exact ⟨0, Nat.zero_le _, rfl, ⟨by rw [encTo_zero]; exact R1.out⟩, B1, ⟨k0, k1, k2⟩⟩
  case round =>
    clear R1 B1 k0 k1 k2
    obtain ⟨k, hk, rfl, HO, HT, HC⟩ := hrel
    by_cases hlt : k < mask.length
    · have bp := HR.out.bP k hlt
      have pl := HR.out.pl
      obtain ⟨ap, rfl, hp⟩ := Kd.at_int (Kd.C_below HP.out HT.out) (k : Int) (by omega) (by omega)
      rw [Int.toNat_natCast, rdn] at hp
      obtain ⟨p, ep⟩ : ∃ p, perm.getD k 0 = p := ⟨_, rfl⟩
      rw [ep] at hp bp
      have xl := HL.out
      obtain ⟨ax, rfl, hx⟩ := Kd.at_int (Kd.C_below HX.out HT.out) p bp.1 (by omega)
      obtain ⟨v, ev⟩ : ∃ v, rd x p = v := ⟨_, rfl⟩
      have bv : 0 ≤ v ∧ v ≤ 255 := by rw [← ev]; exact HB.out p.toNat
      rw [ev] at hx
      have sl := HR.out.sl
      obtain ⟨as_, rfl, hs⟩ := Kd.at_int (Kd.C_below HS.out HT.out) v bv.1 (by omega)
      obtain ⟨s, es⟩ : ∃ s, rd sub v = s := ⟨_, rfl⟩
      rw [es] at hs
      obtain ⟨am, rfl, hm⟩ := Kd.at_int (Kd.C_below HM.out HT.out) (k : Int) (by omega) (by omega)
      rw [Int.toNat_natCast, rdn] at hm
      obtain ⟨m, em⟩ : ∃ m, mask.getD k 0 = m := ⟨_, rfl⟩
      rw [em] at hm
      have eY : xr s m = enc1 perm sub mask x k := by rw [← em, ← es, ← ev, ← ep]; rfl
      have EY := Aside0.mk eY
      obtain ⟨hy, hz⟩ := Kd.R_celln (0 : Int) (h1 := fun _ => rfl) (enc := Value.int .u8) HO.out (k : Int) (by omega) (by omega)
      rw [Int.toNat_natCast] at hy hz
      obtain ⟨c0, c1, c2⟩ := HC.out
      obtain ⟨p0, p1⟩ := bp
      obtain ⟨v0, v1⟩ := bv
      have v2 : v < (sub.length : Int) := by omega
      have kp : (k : Int) < (perm.length : Int) := by omega
      clear ep ev es em eY sl xl pl
      go_wp2
      go_still_tail 21, (by kernel_rfl)
      change wpList _ _ _ _ _ wr.drew
      go_wp2
      go_roundw
      case rel =>
        have hT : Tch (fun j => j = g) wr (wr.drew.setCell ⟨g, k, none⟩ (.int .u8 (bits BinOp.xor IntKind.u8 s m))) := ((Tch.refl (fun j => j = g) wr).drew).setCell (p := ⟨g, k, none⟩) (fun _ => rfl) _
        refine ⟨k + 1, hlt, by go_num, ⟨?_⟩, ⟨(below_drew HT.out).setCell hg _⟩, ⟨hT.cell c0 (by show ¬ w.heap.size + 1 = g; omega), hT.cell c1 (by show ¬ w.heap.size + 1 = g; omega), hT.cell c2 (by show ¬ w.heap.size + 1 = g; omega)⟩⟩
        have := (Kd.R_putg (Kd.R_drew HO.out) (k : Int) (xr s m)).1
        rw [Int.toNat_natCast, EY.out, encTo_step _ _ _ _ _ _ (by omega)] at this
        have e2 : bits BinOp.xor IntKind.u8 s m = enc1 perm sub mask x k := EY.out
        rw [e2]
        exact this
      case measure => simp [intOf]; omega
    · go_wp2
      go_ret
      obtain rfl : k = mask.length := by omega
      have h1 := HO.out
      have e1 : encTo perm sub mask x mask.length mask.length = enc perm sub mask x := by
        rw [← encTo_take perm sub mask x mask.length (Nat.le_refl _), List.take_of_length_le (by rw [encTo_length]; exact Nat.le_refl _)]
      rw [e1] at h1
      exact ⟨_, rfl, h1, HT.out⟩
end Go.Proofs.Ytkehjcppgpoobaa.Blk

/- The feedback mode in plain lists: byte by byte (the package's), block by block (the specification's). -/
set_option linter.unusedVariables false
set_option linter.unusedSimpArgs false
namespace Go.Proofs.Ytkehjcppgpoobaa.Ocf
open Go.RowKit Go.Proofs.YtkehjcppgpoobaaW.PrintWords Go.Proofs.YtkehjcppgpoobaaW.PrintMore Go.Proofs.Ytkehjcppgpoobaa.Kit Go.Proofs.Ytkehjcppgpoobaa.Mix Go.Proofs.Ytkehjcppgpoobaa.Blk Go.Proofs.Ytkehjcppgpoobaa.PFnOcfb

theorem xr_comm {a b : Int} (ha : 0 ≤ a ∧ a ≤ 255) (hb : 0 ≤ b ∧ b ≤ 255) : xr a b = xr b a := by
  obtain ⟨x, rfl⟩ : ∃ x : Nat, a = x := ⟨a.toNat, by omega⟩
  obtain ⟨y, rfl⟩ : ∃ y : Nat, b = y := ⟨b.toNat, by omega⟩
  rw [xr, xr, u8_xor_nat x y (by omega) (by omega), u8_xor_nat y x (by omega) (by omega), Nat.xor_comm]

section
variable (E : List Int → List Int) (n : Nat) (back : Bool)
/-- The register that the next byte meets, and its place there. -/
def fre (s : List Int × Nat) : List Int := if s.2 = n then E s.1 else s.1
def usd (s : List Int × Nat) : Nat := if s.2 = n then 0 else s.2
def out1 (s : List Int × Nat) (b : Int) : Int := xr ((fre E n s).getD (usd n s) 0) b
def st1 (s : List Int × Nat) (b : Int) : List Int × Nat := ((fre E n s).set (usd n s) (if back then b else out1 E n s b), usd n s + 1)
def stN : List Int × Nat → List Int → List Int × Nat
  | s, [] => s
  | s, b :: l => stN (st1 E n back s b) l
def outN : List Int × Nat → List Int → List Int
  | _, [] => []
  | s, b :: l => out1 E n s b :: outN (st1 E n back s b) l
theorem stN_append (l m : List Int) : ∀ s, stN E n back s (l ++ m) = stN E n back (stN E n back s l) m := by
  induction l with
  | nil => intro s; rfl
  | cons b l ih => intro s; exact ih _
theorem outN_append (l m : List Int) : ∀ s, outN E n back s (l ++ m) = outN E n back s l ++ outN E n back (stN E n back s l) m := by
  induction l with
  | nil => intro s; rfl
  | cons b l ih => intro s; exact congrArg (out1 E n s b :: ·) (ih _)
theorem outN_length (l : List Int) : ∀ s, (outN E n back s l).length = l.length := by
  induction l with
  | nil => intro s; rfl
  | cons b l ih => intro s; exact congrArg (· + 1) (ih _)
/-- A piece of one block: the register does not matter but at its own places. -/
def segO (f : List Int) : Nat → List Int → List Int
  | _, [] => []
  | u, b :: l => xr (f.getD u 0) b :: segO f (u + 1) l
theorem segO_length (f : List Int) (l : List Int) : ∀ u, (segO f u l).length = l.length := by
  induction l with
  | nil => intro u; rfl
  | cons b l ih => intro u; exact congrArg (· + 1) (ih _)
theorem segO_set (f : List Int) (l : List Int) (x : Int) (v : Nat) : ∀ u, v < u → segO (f.set v x) u l = segO f u l := by
  induction l with
  | nil => intro u _; rfl
  | cons b l ih =>
    intro u h
    rw [segO, segO, ih (u + 1) (by omega), List.getD_eq_getElem?_getD, List.getElem?_set_ne (by omega), ← List.getD_eq_getElem?_getD]
theorem segO_getD (f : List Int) (l : List Int) : ∀ u i, i < l.length → (segO f u l).getD i 0 = xr (f.getD (u + i) 0) (l.getD i 0) := by
  induction l with
  | nil => intro u i h; simp at h
  | cons b l ih =>
    intro u i h
    cases i with
    | zero => rfl
    | succ i =>
      have := ih (u + 1) i (by simpa using h)
      rw [show u + (i + 1) = u + 1 + i by omega]
      simpa [segO] using this
/-- What the register keeps of a piece. -/
def keeps (f : List Int) (u : Nat) (l : List Int) : List Int := if back then l else segO f u l
theorem keeps_length (f : List Int) (u : Nat) (l : List Int) : (keeps back f u l).length = l.length := by
  unfold keeps
  cases back
  · exact segO_length ..
  · rfl
theorem seg (l : List Int) : ∀ f u, f.length = n → u + l.length ≤ n →
    outN E n back (f, u) l = segO f u l ∧ stN E n back (f, u) l = (f.take u ++ (keeps back f u l ++ f.drop (u + l.length)), u + l.length) := by
  induction l with
  | nil =>
    intro f u hf h
    refine ⟨rfl, ?_⟩
    have : keeps back f u [] = [] := by unfold keeps; cases back <;> rfl
    rw [this]
    simp [stN]
  | cons b l ih =>
    intro f u hf h
    rw [List.length_cons] at h
    have e1 : ¬ u = n := by omega
    have e2 : fre E n (f, u) = f := if_neg e1
    have e3 : usd n (f, u) = u := if_neg e1
    have e4 : out1 E n (f, u) b = xr (f.getD u 0) b := by rw [out1, e2, e3]
    obtain ⟨i1, i2⟩ := ih (f.set u (if back then b else xr (f.getD u 0) b)) (u + 1) (by rw [List.length_set]; exact hf) (by omega)
    have e5 : st1 E n back (f, u) b = (f.set u (if back then b else xr (f.getD u 0) b), u + 1) := by rw [st1, e2, e3, e4]
    refine ⟨?_, ?_⟩
    · rw [outN, e4, e5, i1, segO_set _ _ _ _ _ (by omega), segO]
    · rw [stN, e5, i2]
      have k1 : keeps back (f.set u (if back then b else xr (f.getD u 0) b)) (u + 1) l = keeps back f (u + 1) l := by
        unfold keeps; rw [segO_set _ _ _ _ _ (by omega)]
      have k2 : keeps back f u (b :: l) = (if back then b else xr (f.getD u 0) b) :: keeps back f (u + 1) l := by
        unfold keeps; cases back <;> rfl
      have k3 : (f.set u (if back then b else xr (f.getD u 0) b)).take (u + 1) = f.take u ++ [if back then b else xr (f.getD u 0) b] := by
        rw [List.take_add_one, List.getElem?_set_self (by omega), List.take_set_of_le (Nat.le_refl u)]; rfl
      have k4 : (f.set u (if back then b else xr (f.getD u 0) b)).drop (u + 1 + l.length) = f.drop (u + 1 + l.length) := List.drop_set_of_lt (by omega)
      rw [k1, k2, k3, k4, List.length_cons, show u + (l.length + 1) = u + 1 + l.length by omega]
      simp
/-- A whole block is used: the next byte begins with what the cipher makes of the register. -/
theorem outN_full (R : List Int) (l : List Int) (hn : 0 < n) : outN E n back (R, n) l = outN E n back (E R, 0) l := by
  cases l with
  | nil => rfl
  | cons b l =>
    have e1 : fre E n (R, n) = E R := if_pos rfl
    have e2 : fre E n (E R, 0) = E R := if_neg (by show ¬ 0 = n; omega)
    have e3 : usd n (R, n) = 0 := if_pos rfl
    have e4 : usd n (E R, 0) = 0 := if_neg (by show ¬ 0 = n; omega)
    simp only [outN, out1, st1, e1, e2, e3, e4]
theorem stN_full (R : List Int) (l : List Int) (hn : 0 < n) (hl : l ≠ []) : stN E n back (R, n) l = stN E n back (E R, 0) l := by
  cases l with
  | nil => exact absurd rfl hl
  | cons b l =>
    have e1 : fre E n (R, n) = E R := if_pos rfl
    have e2 : fre E n (E R, 0) = E R := if_neg (by show ¬ 0 = n; omega)
    have e3 : usd n (R, n) = 0 := if_pos rfl
    have e4 : usd n (E R, 0) = 0 := if_neg (by show ¬ 0 = n; omega)
    simp only [stN, out1, st1, e1, e2, e3, e4]
/-- A block of the specification. -/
theorem block (R T : List Int) (hn : 0 < n) (hE : (E R).length = n) {k : Nat} (hk : k = min n T.length) :
    outN E n back (R, n) T = segO (E R) 0 (T.take k) ++ outN E n back (keeps back (E R) 0 (T.take k), n) (T.drop k) := by
  have hl : (T.take k).length = k := by rw [List.length_take]; omega
  obtain ⟨h1, h2⟩ := seg E n back (T.take k) (E R) 0 hE (by rw [hl]; omega)
  rw [outN_full E n back R T hn]
  conv => lhs; rw [← List.take_append_drop k T]
  rw [outN_append, h1, h2]
  congr 1
  by_cases e : k = n
  · rw [hl, e, Nat.zero_add, List.take_zero, List.nil_append, List.drop_of_length_le (by omega), List.append_nil]
  · have e2 : T.drop k = [] := List.drop_of_length_le (by omega)
    rw [e2]; rfl
end

/-- l, with the first k bytes of m exclusive-ored into it. -/
def mix (l m : List Int) : Nat → List Int
  | 0 => l
  | k + 1 => (mix l m k).set k (Go.bits .xor .u8 (l.getD k 0) (m.getD k 0))
theorem mix_length (l m : List Int) : ∀ k, (mix l m k).length = l.length
  | 0 => rfl
  | k + 1 => by rw [mix, List.length_set, mix_length l m k]
theorem mix_getD (l m : List Int) (j : Nat) : ∀ k, k ≤ j → (mix l m k).getD j 0 = l.getD j 0
  | 0, _ => rfl
  | k + 1, h => by
    rw [mix, List.getD_eq_getElem?_getD, List.getElem?_set_ne (by omega), ← List.getD_eq_getElem?_getD]
    exact mix_getD l m j k (by omega)
theorem mix_in (l m : List Int) (j : Nat) : ∀ k, j < k → k ≤ l.length → (mix l m k).getD j 0 = xr (l.getD j 0) (m.getD j 0)
  | 0, h, _ => by omega
  | k + 1, h, hk => by
    rw [mix, List.getD_eq_getElem?_getD]
    by_cases e : k = j
    · subst e
      rw [List.getElem?_set_self (by rw [mix_length]; omega)]; rfl
    · rw [List.getElem?_set_ne e, ← List.getD_eq_getElem?_getD]
      exact mix_in l m j k (by omega) (by omega)
theorem xored_l0 (l m : List Int) (hm : m.length ≤ l.length) (hb : l.length ≤ 4294967296) : ∀ d k, k + d = m.length → spec_Xored.l0 (d + 1) l m (mix l m k) (k : Int) = some (mix l m m.length)
  | 0, k, h => by
    rw [spec_Xored.l0, if_neg (by omega), show k = m.length by omega]
  | d + 1, k, h => by
    rw [spec_Xored.l0, if_pos (by omega), if_pos (by omega), if_pos (by omega), if_pos (by rw [mix_length]; omega), rdn, rdn, mix_getD l m k k (by omega), wrap64_id (by omega) (by omega), Int.toNat_natCast]
    have := xored_l0 l m hm hb d (k + 1) (by omega)
    rw [mix] at this
    exact this
theorem xored_f (l m : List Int) (hm : m.length ≤ l.length) (hb : l.length ≤ 4294967296) : spec_Xored.f (m.length + 1) l m = some (mix l m m.length) := by
  unfold spec_Xored.f
  refine bind_of rfl ?_
  rw [if_pos (by simp; omega), List.nil_append]
  exact xored_l0 l m hm hb m.length 0 (by omega)
/-- The specification's block: text exclusive-ored with what the cipher makes. -/
theorem mix_seg (l f : List Int) (hl : Bytes l) (hf : Bytes f) (h : l.length ≤ f.length) : mix l (f.take l.length) l.length = segO f 0 l := by
  apply List.ext_getElem
  · rw [mix_length, segO_length]
  · intro i h1 h2
    rw [mix_length] at h1
    have e1 := mix_in l (f.take l.length) i l.length h1 (Nat.le_refl _)
    have e2 := segO_getD f l 0 i h1
    rw [List.getD_eq_getElem?_getD, List.getElem?_eq_getElem (by rw [mix_length]; exact h1), Option.getD_some] at e1
    rw [List.getD_eq_getElem?_getD, List.getElem?_eq_getElem h2, Option.getD_some, Nat.zero_add] at e2
    rw [e1, e2, xr_comm (hl i) (bytes_take hf _ i)]
    congr 1
    rw [List.getD_eq_getElem?_getD, List.getElem?_take, if_pos h1, ← List.getD_eq_getElem?_getD]
end Go.Proofs.Ytkehjcppgpoobaa.Ocf

/- A stream of the feedback mode: what the world keeps of it; its steps. -/
set_option linter.unusedVariables false
set_option linter.unusedSimpArgs false
namespace Go.Proofs.Ytkehjcppgpoobaa.Ocf
open Go.RowKit Go.Proofs.YtkehjcppgpoobaaW.PrintWords Go.Proofs.YtkehjcppgpoobaaW.PrintMore Go.Proofs.Ytkehjcppgpoobaa.Kit Go.Proofs.Ytkehjcppgpoobaa.Mix Go.Proofs.Ytkehjcppgpoobaa.Blk

theorem stN_take (E : List Int → List Int) (n : Nat) (back : Bool) (s : List Int × Nat) (l : List Int) (i : Nat) (hi : i < l.length) :
    stN E n back s (l.take (i + 1)) = st1 E n back (stN E n back s (l.take i)) (l.getD i 0) := by
  rw [List.take_succ_eq_append_getElem hi, stN_append, List.getD_eq_getElem?_getD, List.getElem?_eq_getElem hi]
  rfl
theorem outN_take (E : List Int → List Int) (n : Nat) (back : Bool) (s : List Int × Nat) (l : List Int) (i : Nat) (hi : i < l.length) :
    outN E n back s (l.take (i + 1)) = outN E n back s (l.take i) ++ [out1 E n (stN E n back s (l.take i)) (l.getD i 0)] := by
  rw [List.take_succ_eq_append_getElem hi, outN_append, List.getD_eq_getElem?_getD, List.getElem?_eq_getElem hi]
  rfl
/-- A stream at block x over the cipher at block a, its register at block f: the register's bytes F, u of them used. T: the stream's type ends the cells' form. -/
structure Str (lo hi base : Nat) (w : World) (x f a : Nat) (P S M : Option Addr) (cP cS cM : Nat) (perm sub mask : List Int) (F : List Int) (u : Nat) : Prop where
  blk : Blk lo hi w a P S M cP cS cM perm sub mask
  c0 : w.cell? ⟨x, 0, none⟩ = some (.iface 114 (.pointer (some ⟨a, 0, none⟩)))
  c1 : w.cell? ⟨x, 1, none⟩ = some (.slice (some ⟨f, 0, none⟩) mask.length mask.length)
  c2 : w.cell? ⟨x, 2, none⟩ = some (.int .i64 (u : Int))
  z2 : w.frozen? ⟨x, 2, none⟩ = false
  rf : R8 5 w base (.slice (some ⟨f, 0, none⟩) mask.length mask.length) F
  bF : Bytes F
  xf : x ≠ f
  hx : hi ≤ x
  hf : hi ≤ f
  un : u ≤ mask.length
section
variable {lo hi base : Nat} {w w1 : World} {x f a : Nat} {P S M : Option Addr} {cP cS cM : Nat} {perm sub mask F : List Int} {u : Nat}
theorem Str.len (h : Str lo hi base w x f a P S M cP cS cM perm sub mask F u) : F.length = mask.length := (Kd.R_reads' h.rf).1.symm
theorem Str.kept (h : Str lo hi base w x f a P S M cP cS cM perm sub mask F u) {T : Nat → Prop} (hT : Tch T w w1) (hd : ∀ k, T k → hi ≤ k ∨ k < lo) (nx : ¬ T x) (nf : ¬ T f) : Str lo hi base w1 x f a P S M cP cS cM perm sub mask F u :=
  { h with
    blk := h.blk.kept hT hd
    c0 := hT.cell h.c0 nx
    c1 := hT.cell h.c1 nx
    c2 := hT.cell h.c2 nx
    z2 := (hT.frozen (World.block_lt_of_cell? w _ h.c2) nx).trans h.z2
    rf := hT.r8 h.rf (fun k e => by simp [Value.ownBlock] at e; subst e; exact nf) }
theorem Str.below (h : Str lo hi base w x f a P S M cP cS cM perm sub mask F u) (hB : Below w.heap.size w w1) : Str lo hi base w1 x f a P S M cP cS cM perm sub mask F u :=
  h.kept (Tch.of_below (S := fun _ => False) hB) (fun _ k => k.elim) id id
/-- Encrypt(fre, fre): the register anew. -/
theorem Str.enced (h : Str lo hi base w x f a P S M cP cS cM perm sub mask F u) (hT : Tch (fun k => k = f) w w1) (hR : R8 5 w1 base (.slice (some ⟨f, 0, none⟩) mask.length mask.length) (F.take 0 ++ (enc perm sub mask F ++ F.drop (0 + mask.length)))) : Str lo hi base w1 x f a P S M cP cS cM perm sub mask (enc perm sub mask F) u := by
  have e : F.take 0 ++ (enc perm sub mask F ++ F.drop (0 + mask.length)) = enc perm sub mask F := by
    rw [List.take_zero, List.nil_append, List.drop_of_length_le (by rw [h.len]; omega), List.append_nil]
  rw [e] at hR
  exact { h with
    blk := h.blk.kept hT (fun k e => .inl (by have := h.hf; omega))
    c0 := hT.cell h.c0 h.xf
    c1 := hT.cell h.c1 h.xf
    c2 := hT.cell h.c2 h.xf
    z2 := (hT.frozen (World.block_lt_of_cell? w _ h.c2) h.xf).trans h.z2
    rf := hR
    bF := enc_bytes h.blk.rt }
/-- outUsed = v. -/
theorem Str.used (h : Str lo hi base w x f a P S M cP cS cM perm sub mask F u) (v : Nat) (hv : v ≤ mask.length) : Str lo hi base (w.setCell ⟨x, 2, none⟩ (.int .i64 (v : Int))) x f a P S M cP cS cM perm sub mask F v := by
  have hT : Tch (fun k => k = x) w (w.setCell ⟨x, 2, none⟩ (.int .i64 (v : Int))) := (Tch.refl (fun k => k = x) w).setCell (p := ⟨x, 2, none⟩) (fun _ => rfl) _
  have c0 := h.c0
  have c1 := h.c1
  have c2 := h.c2
  have z2 := h.z2
  exact { h with
    blk := h.blk.kept hT (fun k e => .inl (by have := h.hx; omega))
    c0 := by simp [go_sem, *]
    c1 := by simp [go_sem, *]
    c2 := by simp [go_sem, *]
    z2 := by simp [go_sem, *]
    rf := hT.r8 h.rf (fun k e => by simp [Value.ownBlock] at e; subst e; exact fun q => h.xf q.symm)
    un := hv }
/-- fre[u] = v. -/
theorem Str.put (h : Str lo hi base w x f a P S M cP cS cM perm sub mask F u) (i : Nat) {v : Int} (v0 : 0 ≤ v) (v1 : v ≤ 255) : Str lo hi base (w.setCell ⟨f, i, none⟩ (.int .u8 v)) x f a P S M cP cS cM perm sub mask (F.set i v) u := by
  have hT : Tch (fun k => k = f) w (w.setCell ⟨f, i, none⟩ (.int .u8 v)) := (Tch.refl (fun k => k = f) w).setCell (p := ⟨f, i, none⟩) (fun _ => rfl) _
  have hR := (Kd.R_putg h.rf (i : Int) v).1
  rw [Int.toNat_natCast] at hR
  exact { h with
    blk := h.blk.kept hT (fun k e => .inl (by have := h.hf; omega))
    c0 := hT.cell h.c0 h.xf
    c1 := hT.cell h.c1 h.xf
    c2 := hT.cell h.c2 h.xf
    z2 := (hT.frozen (World.block_lt_of_cell? w _ h.c2) h.xf).trans h.z2
    rf := hR
    bF := bytes_set h.bF i v0 v1 }
end
end Go.Proofs.Ytkehjcppgpoobaa.Ocf
