/- copy into a row of bytes whose block has a type of its own (an array's). -/
import Derived.Test.YtjdnnpfhlkgooaaDoorMem
set_option linter.unusedVariables false
set_option linter.unusedSimpArgs false
namespace Go.Proofs.YtjdnnpfhlkgooaaDoor.Kit
open Go.RowKit Go.Proofs.YtjdnnpfhlkgooaaDoorW.PrintWords

section
variable {P : Program} {ops : Array Oper} {rest : List Oper} {o : Oper} {a : Act} {Q : Exit → Act → World → Prop}
/-- copy(v[off:..], ys): v a row of the call's own. -/
theorem copyX {w0 W : World} (base : Nat) (hgd : o.guard = none) (s x : Operand) (t t' e e2 : TypeId)
    (ho : o.op = .call { callee := .builtin .copy, args := #[s, x], argTypes := #[t, t'] }) (ht : P.underlying t = some (.slice e)) (hinfo : (P.info? e).map (fun i => (i.zero, i.size, i.bytes)) = some (some (.int .u8 0), 1, 1))
    (g n cap off dl dc : Nat) (xs ys : List Int) (A B : Option Addr) (c : Nat) {m : Nat} (hs : a.eval s = .slice B dl dc) (hB0 : 0 < min ys.length dl → B = some ⟨g, off, none⟩) (hx : a.eval x = .slice A m c) (hmy : m = ys.length)
    (HO : R8 e2 W base (.slice (some ⟨g, 0, none⟩) n cap) xs) (HR : C8 W A ys) (hfit : off + dl ≤ n) (HB : Below base w0 W) (hbase : base ≤ W.heap.size)
    (h : ∀ w1, R8 e2 w1 base (.slice (some ⟨g, 0, none⟩) n cap) (xs.take off ++ (ys.take (min ys.length dl) ++ xs.drop (off + min ys.length dl))) → Below base w0 w1 → W.grownBy w1 (some g) → wpList P ops Q rest (a.put o.dst (.int .i64 ((min ys.length dl : Nat) : Int))) w1) :
    wpList P ops Q (o :: rest) a W := by
  subst hmy
  have hinfo' : (P.info? e).map (·.size) = some 1 := by
    obtain ⟨i0, hi, hzz⟩ := Option.map_eq_some_iff.1 hinfo
    simp only [Prod.mk.injEq] at hzz
    rw [hi]
    simp [hzz.2.1]
  have hR := Kd.reads_of_C (enc := Value.int .u8) (d := (0 : Int)) (h1 := fun _ => rfl) HR
  have hnx : n = xs.length := (Kd.R_reads' HO).1
  have hown := Kd.own_of_R HO
  have fin : ∀ w1, (Builtin.copy_ #[t, t'] o.type #[.slice B dl dc, .slice A ys.length c]).run P W = .ok (goInt ((min ys.length dl : Nat) : Int)) w1 → R8 e2 w1 base (.slice (some ⟨g, 0, none⟩) n cap) (xs.take off ++ (ys.take (min ys.length dl) ++ xs.drop (off + min ys.length dl))) → W.grownBy w1 (some g) → wpList P ops Q (o :: rest) a W := by
    intro w1 hr hrow hg
    refine wpList_plain hgd fun K hK => ?_
    unfold Oper.wp execOp
    simp only [ho, resolve, invoke, builtin, Sem.run_bind, Sem.run_pure, Result.andThen_ok, List.map_toArray, List.map_cons, List.map_nil, hs, hx, hr]
    exact hK _ _ (h w1 hrow (HB.grown hg hbase (own_base hown)) hg)
  rcases Nat.eq_zero_or_pos (min ys.length dl) with h0 | hp
  · refine fin W ?_ (by rw [h0, List.take_zero, List.nil_append, Nat.add_zero, List.take_append_drop]; exact HO) (World.grownBy.refl W _)
    rw [h0]
    exact run_copy_none W t t' o.type e B A dl dc ys.length c ht hinfo' h0
  · obtain ⟨ad, hA, hc⟩ := hR.2.2 (by omega)
    have hBg := hB0 hp
    rcases hown.2 with ⟨hv, _⟩ | ⟨g', cap', cur, hv, hb, hh, hnc, hcm, hcs, htake⟩
    · cases hv
    injection hv with ha _ hcap
    injection ha with ha
    injection ha with hg'
    subst hg'; subst hcap
    have hcs1 : cur.size = cap := by omega
    generalize hk : min ys.length dl = k at *
    have hkl : (encs (Value.int .u8) (ys.take k)).length = k := by rw [encs_length, List.length_take]; omega
    have hsrc : ∀ j u, (encs (Value.int .u8) (ys.take k))[j]? = some u → W.cell? (ad.add j) = some u := by
      intro j u hu
      have hj : j < (ys.take k).length := by
        rcases Nat.lt_or_ge j (ys.take k).length with h | h
        · exact h
        · rw [List.getElem?_eq_none (by rw [encs_length]; exact h)] at hu
          cases hu
      have hjm : j < k := by rw [List.length_take] at hj; omega
      rw [encs_get (d := (0 : Int)) _ j hj] at hu
      rw [hc j (by omega), ← hu]
      simp [List.getD_eq_getElem?_getD, hjm]
    have hr := run_copy_cells (P := P) W t t' o.type e g off dl dc ad ys.length c (encs (Value.int .u8) (ys.take k)) ht hinfo' (by rw [hkl, ← hk]) hsrc
      (fun j hj => by rw [cell_of_row W g _ cur e2 (0, 0) hh]; simp; omega) (fun j _ => blk_frozen hh _) (by intro u hu; simp only [encs, List.mem_map] at hu; obtain ⟨q, _, rfl⟩ := hu; rfl)
    obtain ⟨cur', h3, h4, h5⟩ := setCells_row (encs (Value.int .u8) (ys.take k)) off W cur hh (by rw [hkl]; omega)
    obtain ⟨s1, s2, s3, s4⟩ := setCells_same g (encs (Value.int .u8) (ys.take k)) off W
    refine fin (W.setCells g off (encs (Value.int .u8) (ys.take k))) (by rw [hBg, hA, hr, hkl]) (Kd.R_of_own ?_ (fun _ _ => trivial)) ⟨s1, s2, s3, by rw [s4]; exact Nat.le_refl _, fun j _ hj => setCells_far _ _ j (fun he => hj (by rw [he]))⟩
    have hln : (xs.take off ++ (ys.take k ++ xs.drop (off + k))).length = n := by
      rw [List.length_append, List.length_append, List.length_take, List.length_take, List.length_drop]
      omega
    rw [hln]
    refine ⟨by rw [encs_length, hln, Nat.mul_one], .inr ⟨g, cap, cur', rfl, hb, h3, by omega, hcm, by rw [h4, hcs], ?_⟩⟩
    have htk : cur.toList.take n = encs (Value.int .u8) xs := by rw [hnx, ← htake, Nat.mul_one]
    rw [h5, hkl, encs_append, encs_append, Nat.mul_one]
    have e1 : encs (Value.int .u8) (xs.take off) = cur.toList.take off := by
      have : encs (Value.int .u8) (xs.take off) = (encs (Value.int .u8) xs).take off := by simp [encs, List.map_take]
      rw [this, ← htk, List.take_take]; congr 1; omega
    have e2 : encs (Value.int .u8) (xs.drop (off + k)) = (cur.toList.drop (off + k)).take (n - (off + k)) := by
      have : encs (Value.int .u8) (xs.drop (off + k)) = (encs (Value.int .u8) xs).drop (off + k) := by simp [encs, List.map_drop]
      rw [this, ← htk, List.drop_take]
    rw [e1, e2]
    have l1 : (cur.toList.take off).length = off := by rw [List.length_take, Array.length_toList]; omega
    rw [List.append_assoc, List.take_append, l1, List.take_of_length_le (by rw [l1]; omega)]
    congr 1
    rw [List.take_append, hkl, List.take_of_length_le (by rw [hkl]; omega)]
    congr 2
    omega
end
end Go.Proofs.YtjdnnpfhlkgooaaDoor.Kit
