/- FnImages: the pure side, small laws. -/
import Derived.Test.YtjdnnpfhlkgooaaImi
import Derived.Test.YtjdnnpfhlkgooaaImx
import Derived.Test.YtjdnnpfhlkgooaaSofK
import Derived.Test.YtjdnnpfhlkgooaaSame
import Derived.Test.YtjdnnpfhlkgooaaOpenK
import Derived.Deep.AppendLies
set_option linter.unusedVariables false
set_option linter.unusedSimpArgs false
namespace Go.Proofs.Ytjdnnpfhlkgooaa.Rd
open Go.RowKit Go.Proofs.YtjdnnpfhlkgooaaW.PrintWords Go.Proofs.YtjdnnpfhlkgooaaW.PrintMore Go.Proofs.Ytjdnnpfhlkgooaa.Kit Go.Proofs.Ytjdnnpfhlkgooaa Go.Proofs.Ytjdnnpfhlkgooaa.PFnImages

def toQ (p : Int × List Int × Bool) : S27 := ⟨p.1, p.2.1, p.2.2⟩
theorem C_map {α β : Type} {d : Kd α} {d' : Kd β} (f : α → β) (hs : d'.sz = d.sz) (hK : ∀ w x cs, d.K w x cs → d'.K w (f x) cs) {w : World} {A : Option Addr} {n : Nat} {ss : List α} (h : d.C w A n ss) : Kd.C d' w A n (ss.map f) := by
  obtain ⟨h1, h2, h3⟩ := h
  refine ⟨by rw [List.length_map]; exact h1, h2, fun hp => ?_⟩
  obtain ⟨ad, e, hc⟩ := h3 hp
  refine ⟨ad, e, fun j p hj => ?_⟩
  rw [List.getElem?_map] at hj
  obtain ⟨s, es, rfl⟩ := Option.map_eq_some_iff.1 hj
  obtain ⟨c, q1, q2, q3⟩ := hc j s es
  exact ⟨c, by rw [hs]; exact q1, hK w s c q2, by rw [hs]; exact q3⟩
theorem C_toQ {w : World} {A : Option Addr} {n : Nat} {ps : List (Int × List Int × Bool)} (h : kI.C w A n ps) : Kd.C k27 w A n (ps.map toQ) := C_map toQ rfl (fun _ _ _ q => q) h
theorem fits_l0 {ps : List (Int × List Int × Bool)} (hl : ps.length ≤ 2147483647) : ∀ (k j : Nat), ps.length < k + j → j ≤ ps.length → ∃ r, laws_zzFits5.l0 k (ps.map toQ) (ps.length : Int) (j : Int) = some r ∧ (r = true → ∀ i p, j ≤ i → ps[i]? = some p → p.2.1.length ≤ 2147483647) := by
  intro k
  induction k with
  | zero => intro j h1 h2; omega
  | succ k ih =>
    intro j h1 h2
    by_cases h : j < ps.length
    · have w : wrap64 ((j : Int) + 1) = ((j + 1 : Nat) : Int) := by rw [wrap64_id (by omega) (by omega)]; rfl
      have lq : ((ps.map toQ).length : Int) = (ps.length : Int) := by rw [List.length_map]
      have eq : rd_T27 (ps.map toQ) (j : Int) = toQ ps[j] := by
        show (ps.map toQ).getD (j : Int).toNat z27 = _
        rw [Int.toNat_natCast, List.getD_eq_getElem?_getD, List.getElem?_map, List.getElem?_eq_getElem h]; rfl
      rw [laws_zzFits5.l0, if_pos (by omega), if_pos (by omega), lq, if_pos (by omega), eq]
      by_cases hb : ((toQ ps[j]).f1.length : Int) > 2147483647
      · refine ⟨false, ?_, fun e => by cases e⟩
        rw [laws_zzFits6.f, if_pos hb, Option.bind_some, if_neg (by simp)]
      · obtain ⟨r, hr, hp⟩ := ih (j + 1) (by omega) (by omega)
        refine ⟨r, ?_, fun e i p hi hpi => ?_⟩
        · rw [laws_zzFits6.f, if_neg hb, Option.bind_some, if_pos rfl, w]
          exact hr
        · by_cases ei : i = j
          · subst ei
            rw [List.getElem?_eq_getElem h] at hpi
            injection hpi with hpi
            subst hpi
            have hb' : ¬ ((ps[i].2.1.length : Int) > 2147483647) := hb
            omega
          · exact hp e i p (by omega) hpi
    · exact ⟨true, by rw [laws_zzFits5.l0, if_neg (by omega)], fun _ i p hi hpi => by have := (List.getElem?_eq_some_iff.1 hpi).1; omega⟩
theorem fits_f (ps : List (Int × List Int × Bool)) : ∃ r, laws_zzFits5.f (ps.length + 1) (ps.map toQ) = some r ∧ (r = true → ps.length ≤ 2147483647 ∧ ∀ p, p ∈ ps → p.2.1.length ≤ 2147483647) := by
  by_cases h : (ps.length : Int) > 2147483647
  · exact ⟨false, by rw [laws_zzFits5.f, List.length_map, if_pos h], fun e => by cases e⟩
  · obtain ⟨r, hr, hp⟩ := fits_l0 (ps := ps) (by omega) (ps.length + 1) 0 (by omega) (Nat.zero_le _)
    refine ⟨r, by rw [laws_zzFits5.f, List.length_map, if_neg h]; exact hr, fun e => ⟨by omega, fun p hm => ?_⟩⟩
    obtain ⟨i, hi⟩ := List.mem_iff_getElem?.1 hm
    exact hp e i p (Nat.zero_le _) hi

/-- What becomes of a part; what is looked for. -/
def partOf (p : Int × List Int × Bool) : List (Int × List Int × Bool) := if p.1 = 1 then (if p.2.1 = [] then [] else [(1, head16 ++ p.2.1, p.2.2)]) else [p]
def wantOf (p : Int × List Int × Bool) : List (List Int) := if p.1 = 1 then (if p.2.1 = [] then [] else [p.2.1]) else []
def allOf (ps : List (Int × List Int × Bool)) : List (Int × List Int × Bool) := (ps.map partOf).flatten
def wants (ps : List (Int × List Int × Bool)) : List (List Int) := (ps.map wantOf).flatten
theorem allOf_take {ps : List (Int × List Int × Bool)} {k : Nat} {p : Int × List Int × Bool} (h : ps[k]? = some p) : allOf (ps.take (k + 1)) = allOf (ps.take k) ++ partOf p := by
  unfold allOf
  rw [List.take_add_one, h, List.map_append, List.flatten_append]
  simp
theorem wants_take {ps : List (Int × List Int × Bool)} {k : Nat} {p : Int × List Int × Bool} (h : ps[k]? = some p) : wants (ps.take (k + 1)) = wants (ps.take k) ++ wantOf p := by
  unfold wants
  rw [List.take_add_one, h, List.map_append, List.flatten_append]
  simp
theorem partOf_len (p : Int × List Int × Bool) : (partOf p).length ≤ 1 ∧ (wantOf p).length ≤ 1 := by
  unfold partOf wantOf
  constructor <;> (split; split) <;> simp
theorem flat_len {α β : Type} (f : α → List β) (hf : ∀ a, (f a).length ≤ 1) (l : List α) : ((l.map f).flatten).length ≤ l.length := by
  induction l with
  | nil => simp
  | cons a l ih =>
    rw [List.map_cons, List.flatten_cons, List.length_append, List.length_cons]
    have := hf a
    omega
theorem head16_len : head16.length = 16 := by decide
theorem imgs_append (a b : List (Int × List Int × List Int)) : imgs (a ++ b) = imgs a ++ imgs b := by
  unfold imgs
  rw [List.filter_append, List.map_append]
theorem imgs_part (p : Int × List Int × Bool) : imgs ((partOf p).map subP) = wantOf p := by
  unfold partOf wantOf
  by_cases h : p.1 = 1
  · rw [if_pos h, if_pos h]
    by_cases h2 : p.2.1 = []
    · rw [if_pos h2, if_pos h2]; rfl
    · rw [if_neg h2, if_neg h2]
      have hp := List.length_pos_iff.2 h2
      have hl : (head16 ++ p.2.1).length = 16 + p.2.1.length := by rw [List.length_append, head16_len]
      have q : isImg (subP (1, head16 ++ p.2.1, p.2.2)) = true := by
        unfold isImg subP
        simp only [Bool.and_eq_true, decide_eq_true_eq]
        exact ⟨trivial, by omega⟩
      have e : (head16 ++ p.2.1).drop 16 = p.2.1 := List.drop_left' head16_len
      unfold imgs
      rw [List.map_cons, List.map_nil, List.filter_cons, if_pos q]
      simp only [List.filter_nil, List.map_cons, List.map_nil]
      congr 1
  · rw [if_neg h, if_neg h]
    have q : ¬ isImg (subP p) = true := by
      unfold isImg subP
      simp [h]
    unfold imgs
    rw [List.map_cons, List.map_nil, List.filter_cons, if_neg q]
    rfl
theorem imgs_all (ps : List (Int × List Int × Bool)) : imgs ((allOf ps).map subP) = wants ps := by
  induction ps with
  | nil => rfl
  | cons p ps ih =>
    have e1 : allOf (p :: ps) = partOf p ++ allOf ps := by simp [allOf]
    have e2 : wants (p :: ps) = wantOf p ++ wants ps := by simp [wants]
    rw [e1, e2, List.map_append, imgs_append, imgs_part, ih]
theorem all_mem {ps : List (Int × List Int × Bool)} {q : Int × List Int × Bool} (h : q ∈ allOf ps) : ∃ p, p ∈ ps ∧ q.2.1.length ≤ 16 + p.2.1.length ∧ (q.1 = p.1) := by
  unfold allOf at h
  obtain ⟨l, hl, hq⟩ := List.mem_flatten.1 h
  obtain ⟨p, hp, rfl⟩ := List.mem_map.1 hl
  refine ⟨p, hp, ?_⟩
  unfold partOf at hq
  split at hq
  · rename_i h1
    split at hq
    · cases hq
    · rw [List.mem_singleton.1 hq]
      exact ⟨by simp only; rw [List.length_append, head16_len]; omega, h1.symm⟩
  · rw [List.mem_singleton.1 hq]
    exact ⟨by omega, rfl⟩
theorem tog2 {x y : List Int} (h : x.length + y.length < 140737488355328) : laws_together.f 3 [x, y] = some (x ++ y) := by
  have i1 : wrap64 (0 + 1) = 1 := wrap64_id (by omega) (by omega)
  have i2 : wrap64 (1 + 1) = 2 := wrap64_id (by omega) (by omega)
  have ln : (([x, y] : List (List Int)).length : Int) = 2 := rfl
  have r0 : rd_L1 [x, y] 0 = x := rfl
  have r1 : rd_L1 [x, y] 1 = y := rfl
  unfold laws_together.f
  rw [ln, laws_together.l0, if_pos (by decide), if_pos (by decide), if_pos (by rw [ln]; decide), r0, if_pos (by simp; omega), i1,
    laws_together.l0, if_pos (by decide), if_pos (by decide), if_pos (by rw [ln]; decide), r1, if_pos (by simp; omega), i2,
    laws_together.l0, if_neg (by decide), List.nil_append]

theorem fkI {W : World} {ok : Nat → Prop} {x : Int} {C : List Int} {lg : Bool} {A : Option Addr} {n c : Nat} (e : n = C.length) (l : n ≤ c) (h : Kd.F (Kd.int .u8) W ok A n C) : Kd.FK kI W ok (x, C, lg) [.int .u8 x, .slice A n c, .bool lg] := by
  subst e
  exact fun W' hW => ⟨[.int .u8 x], [.slice A C.length c, .bool lg], rfl, rfl, [.slice A C.length c], [.bool lg], rfl, ⟨A, c, rfl, l, h W' hW⟩, rfl⟩
theorem infoI3 : (Try.prog.info? 27).map (fun i => (i.zero, i.size, i.bytes)) = some (some (.agg #[.int .u8 0, .slice none 0 0, .bool false]), 3, 40) := by kernel_rfl
def goodP (p : Int × List Int × Bool) : Prop := (Lit.int .u8 p.1).wf = true ∧ (p.2.1.length ≤ maxLen ∧ ∀ x, x ∈ p.2.1 → (Lit.int .u8 x).wf = true) ∧ True
/-- Two rows of bytes in a row. -/
theorem rows2 (w : World) {A B : Option Addr} {c d : Nat} {x y : List Int} (hx : C8 w A x) (hy : C8 w B y) (hc : x.length ≤ c) (hd : y.length ≤ d) {W : World} (e : w.alloc (.cells #[.slice A x.length c, .slice B y.length d] 25) = W) :
    Kd.C (Kd.slice 5 (Kd.int .u8)) W (some ⟨w.heap.size, 0, none⟩) [x, y].length [x, y] := by
  subst e
  have hB : Below w.heap.size w (w.alloc (.cells #[.slice A x.length c, .slice B y.length d] 25)) := below_alloc (Below.refl _ _) _
  refine ⟨rfl, by simp, fun _ => ⟨_, rfl, fun j p hj => ?_⟩⟩
  match j, hj with
  | 0, hj =>
    injection hj with hj
    subst hj
    refine ⟨_, rfl, ⟨A, c, rfl, hc, Kd.C_below hx hB⟩, fun i u hu => ?_⟩
    match i, hu with
    | 0, hu =>
      injection hu with hu
      subst hu
      simp [go_sem, Addr.add]
  | 1, hj =>
    injection hj with hj
    subst hj
    refine ⟨_, rfl, ⟨B, d, rfl, hd, Kd.C_below hy hB⟩, fun i u hu => ?_⟩
    match i, hu with
    | 0, hu =>
      injection hu with hu
      subst hu
      simp [go_sem, Addr.add, Kd.slice]
theorem tg2_calls {w W : World} {A B : Option Addr} {c d n m : Nat} {x y : List Int} (hx : C8 w A x) (hy : C8 w B y) (en : n = x.length) (em : m = y.length) (hc : n ≤ c) (hd : m ≤ d) (hl : x.length + y.length < 140737488355328) (e : w.alloc (.cells #[.slice A n c, .slice B m d] 25) = W) :
    Calls Try.prog 8 #[.slice (some ⟨w.heap.size, 0, none⟩) 2 2] W fun e w' => ∃ v, e = .returned v ∧ R8 5 w' W.heap.size v (x ++ y) ∧ Below W.heap.size W w' := by
  subst en em
  have q := laws_together.calls 3 (some ⟨w.heap.size, 0, none⟩) 2 [x, y] (x ++ y) W (rows2 w hx hy hc hd e) (by simp) (tog2 hl)
  exact q
theorem encL_len (lg : Bool) (n : Nat) : 1 ≤ (encL lg n).length ∧ (encL lg n).length ≤ 5 := by
  unfold encL
  split
  · rw [List.length_cons, oct_length]; omega
  · unfold encS
    split
    · simp
    · split
      · simp
      · rw [List.length_cons, oct_length]; omega
theorem tot_mem (ps : List (Int × List Int × Bool)) : ps.length ≤ tot ps ∧ ∀ p, p ∈ ps → p.2.1.length ≤ tot ps := by
  induction ps with
  | nil => exact ⟨Nat.le_refl _, fun p h => by cases h⟩
  | cons q ps ih =>
    have t : tot (q :: ps) = 6 + q.2.1.length + tot ps := by simp [tot]
    rw [t]
    refine ⟨by rw [List.length_cons]; have := ih.1; omega, fun p h => ?_⟩
    rcases List.mem_cons.1 h with rfl | h
    · omega
    · have := ih.2 p h; omega
end Go.Proofs.Ytjdnnpfhlkgooaa.Rd
