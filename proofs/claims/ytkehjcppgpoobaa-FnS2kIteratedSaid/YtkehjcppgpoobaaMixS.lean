/- spec's hash of plain data: the sum of a text. -/
import Derived.Test.YtkehjcppgpoobaaMixP
import Derived.Test.YtkehjcppgpoobaaMem
set_option linter.unusedVariables false
set_option linter.unusedSimpArgs false
namespace Go.Proofs.Ytkehjcppgpoobaa.Mix
open Go.RowKit Go.Proofs.YtkehjcppgpoobaaW.PrintWords Go.Proofs.YtkehjcppgpoobaaW.PrintMore Go.Proofs.Ytkehjcppgpoobaa.Kit

theorem rdn (l : List Int) (k : Nat) : rd l (k : Int) = l.getD k 0 := by unfold rd; rw [Int.toNat_natCast]
theorem tmod_nat (k n : Nat) (h : 0 < n) : ((k : Int).tmod (n : Int)) = ((k % n : Nat) : Int) := by rw [Int.ofNat_tmod]
theorem at_ne {g g0 n m c : Nat} {N M : Nat} (h : (Value.slice (some ⟨g, 0, none⟩) m c).ownBlock = (Value.slice (some ⟨g0, 0, none⟩) 0 0).ownBlock ∨ ∃ b, (Value.slice (some ⟨g, 0, none⟩) m c).ownBlock = some b ∧ N ≤ b) (h0 : n + 1 ≤ g0) (h1 : g0 < N) : g ≠ n := by
  rcases h with e | ⟨b, e, hb⟩
  · simp [Value.ownBlock] at e; omega
  · simp [Value.ownBlock] at e; omega
theorem bytes_take {l : List Int} (h : Bytes l) (k : Nat) : Bytes (l.take k) := by
  intro i
  rw [List.getD_eq_getElem?_getD, List.getElem?_take]
  by_cases hi : i < k
  · rw [if_pos hi, ← List.getD_eq_getElem?_getD]; exact h i
  · rw [if_neg hi]; simp
/-- A row of bytes lies elsewhere than a slice's cell. -/
theorem apart_cell {e : Nat} {w : World} {base g b n cap : Nat} {l : List Int} {A : Option Addr} {m c : Nat} (h : R8 e w base (.slice (some ⟨g, 0, none⟩) n cap) l) (hp : 0 < l.length) (hc : w.cell? ⟨b, 0, none⟩ = some (.slice A m c)) : g ≠ b := by
  obtain rfl : n = l.length := (Kd.R_reads' h).1
  obtain ⟨x0, _⟩ := Kd.R_cell (cap := cap) (0 : Int) (h1 := fun _ => rfl) (enc := Value.int .u8) (xs := l) h 0 (by omega) (by omega)
  rintro rfl
  rw [show ((0 : Int)).toNat = 0 from rfl, hc] at x0
  cases x0
/-- The numbers that one round reckons. -/
theorem round_nums (k n : Nat) (hn : 0 < n) (hn2 : n ≤ 64) (hk : k ≤ 9223372036854775806) :
    IntKind.i64.wrap ((k : Int) + 1) = (k : Int) + 1 ∧ ((k : Int).tmod (n : Int)) = ((k % n : Nat) : Int) ∧ (((k : Int) + 1).tmod (n : Int)) = (((k + 1) % n : Nat) : Int) := by
  refine ⟨IntWalk.i64_in _ (by omega), tmod_nat k n hn, ?_⟩
  rw [← Int.natCast_one, ← Int.natCast_add]
  exact tmod_nat (k + 1) n hn

set_option maxHeartbeats 1600000 in
set_option maxRecDepth 100000 in
theorem msum_calls (As : Option Addr) (cs : Nat) (sub : List Int) (Am : Option Addr) (cm : Nat) (mask : List Int) (A : Option Addr) (c : Nat) (l : List Int) (w : World)
    (hs : C8 w As sub) (hsl : sub.length = 256) (hsB : Bytes sub) (hm : C8 w Am mask) (hm1 : 1 ≤ mask.length) (hm2 : mask.length ≤ 64) (hmB : Bytes mask) (hl : C8 w A l) (hlB : Bytes l) :
    Calls Try.prog 107 #[.agg #[.slice As sub.length cs, .slice Am mask.length cm], .slice A l.length c] w fun e w' => ∃ v, e = .returned v ∧ R8 5 w' w.heap.size v (hashOf sub mask l) ∧ Below w.heap.size w w' := by
  have hmax : l.length ≤ 9223372036854775807 := Kd.C_max hl
  have HS := Aside0.mk hs
  have HM := Aside0.mk hm
  have HL := Aside0.mk hl
  have HB := Aside0.mk (And.intro hsB (And.intro hmB hlB))
  have HN := Aside0.mk (And.intro hm1 (And.intro hm2 hsl))
  clear hs hm hl hsB hmB hlB hm1 hm2 hsl
  go_enter Try.func107, Try.ntmps107
  go_wp2_with (first | ((with_reducible refine gate_dst (N := 15) rfl ?_); refine lit8 w.heap.size 5 (w0 := w) rfl (N := 15) rfl [] ?hr ?hb ?hz (by simp) ?_; (case hr => first | (go_simp; done) | (go_simp; rfl)); (case hb => go_grown); (case hz => (simp; omega)); intro g0 w1 hg0 hgW hlt hR hB hB2; have LT := Aside0.mk hlt; clear hlt; have k0 := pw_cell_below hB2 (a := ⟨w.heap.size + 1, 0, none⟩) (v := .slice As sub.length cs) (by simp [go_sem]); have k1 := pw_cell_below hB2 (a := ⟨w.heap.size + 1, 1, none⟩) (v := .slice Am mask.length cm) (by simp [go_sem]); simp at hgW; have RO := Aside0.mk hR; have BB := Aside0.mk hB; have GW := Aside0.mk hgW; clear hR hB hB2 hg0 hgW) | ((with_reducible refine gate_dst (N := 18) rfl ?_); refine append8 w.heap.size (w0 := w) rfl (.tmp 15) (.tmp 17) 22 5 rfl Try.underlying22 infoB _ _ mask _ _ rfl rfl rfl RO.out (Kd.C_below HM.out BB.out) BB.out (below_size BB.out) ?hl ?_; (case hl => have := HN.out; simp; omega); intro v2 w2 hR hB hG hAt; rw [List.nil_append] at hR; have j0 := cell_grown k0 (by have := GW.out; simp; omega) (show w1.grownBy w2 (some g0) from hG); have j1 := cell_grown k1 (by have := GW.out; simp; omega) (show w1.grownBy w2 (some g0) from hG); clear k0 k1; obtain ⟨g, cap, ev, hg1, hg2, hcells⟩ := Kd.R_form hR (by have := HN.out; omega); subst ev; clear RO BB hcells hAt; have RO := Aside0.mk hR; have BB := Aside0.mk hB; clear hR hB hG))
  have gne := Aside0.mk (apart_cell RO.out (by have := HN.out; omega) j0)
  go_loopw [21] (fun i wr => ∃ k : Nat, k ≤ l.length ∧ i = .int .i64 (k : Int) ∧ Aside0 (R8 5 wr w.heap.size (.slice (some ⟨g, 0, none⟩) mask.length cap) (mixN sub mask.length 0 mask (l.take k))) ∧ Aside0 (Below w.heap.size w wr) ∧ Aside0 (wr.cell? ⟨w.heap.size + 1, 0, none⟩ = some (.slice As sub.length cs))) (fun i _ => l.length - (intOf i).toNat)
  case atStart => exact ⟨0, Nat.zero_le _, rfl, RO, BB, ⟨j0⟩⟩
  case round =>
    clear RO BB j0 j1
    obtain ⟨k, hk, rfl, HR, HBl, HC⟩ := hrel
    by_cases hlt : k < l.length
    · obtain ⟨hm1, hm2, hsub⟩ := HN.out
      have HSUB := Aside0.mk hsub
      obtain ⟨f1, f2, f3⟩ := round_nums k mask.length (by omega) (by omega) (by omega)
      have z1 : ((mask.length : Int) == 0) = false := beq_eq_false_iff_ne.2 (by omega)
      have z2 : ¬ (mask.length : Int) = 0 := by omega
      have z3 : ¬ mask = [] := by rintro rfl; simp at hm1
      have z4 : ¬ mask.length = 0 := by omega
      have hq : k % mask.length < mask.length := Nat.mod_lt _ (by omega)
      have hq1 : (k + 1) % mask.length < mask.length := Nat.mod_lt _ (by omega)
      obtain ⟨q, eq⟩ : ∃ q, k % mask.length = q := ⟨_, rfl⟩
      obtain ⟨q1, eq1⟩ : ∃ q1, (k + 1) % mask.length = q1 := ⟨_, rfl⟩
      obtain ⟨s, es⟩ : ∃ s, mixN sub mask.length 0 mask (l.take k) = s := ⟨_, rfl⟩
      have hsl : s.length = mask.length := by rw [← es]; exact mixN_length ..
      have hst := mixN_take sub mask.length l 0 mask k hlt
      rw [Nat.zero_add, es] at hst
      have hsB : Bytes s := by rw [← es]; exact mixN_bytes HB.out.1 (bytes_take HB.out.2.2 k) 0 HB.out.2.1
      rw [es] at HR
      rw [eq] at f2 hq
      rw [eq1] at f3 hq1
      obtain ⟨x0, x1⟩ := Kd.R_cell (cap := cap) (0 : Int) (h1 := fun _ => rfl) (enc := Value.int .u8) (xs := s) (by rw [hsl]; exact HR.out) (q : Int) (by omega) (by omega)
      obtain ⟨y0, y1⟩ := Kd.R_cell (cap := cap) (0 : Int) (h1 := fun _ => rfl) (enc := Value.int .u8) (xs := s) (by rw [hsl]; exact HR.out) (q1 : Int) (by omega) (by omega)
      have rs : ∀ j : Nat, rdOf 0 s (j : Int) = s.getD j 0 := fun j => by unfold rdOf; rw [Int.toNat_natCast]
      rw [Int.toNat_natCast, rs] at x0 y0
      rw [Int.toNat_natCast] at x1 y1
      obtain ⟨ad, rfl, hx⟩ := Kd.at_int (Kd.C_below HL.out HBl.out) (k : Int) (by omega) (by omega)
      rw [Int.toNat_natCast, rdn] at hx
      have hb := HB.out.2.2 k
      have hsq := hsB q
      have hsq1 := hsB q1
      have ST := Aside0.mk hst
      have SB := Aside0.mk hsB
      clear hst hsB es
      obtain ⟨b, eb⟩ : ∃ b, l.getD k 0 = b := ⟨_, rfl⟩
      obtain ⟨sq, esq⟩ : ∃ sq, s.getD q 0 = sq := ⟨_, rfl⟩
      obtain ⟨sq1, esq1⟩ : ∃ sq1, s.getD q1 0 = sq1 := ⟨_, rfl⟩
      rw [eb] at hx hb
      rw [esq] at x0 hsq
      rw [esq1] at y0 hsq1
      have hxr := xr_range hsq.1 hsq.2 hb.1 hb.2
      obtain ⟨sd, rfl, hz⟩ := Kd.at_int (Kd.C_below HS.out HBl.out) (xr sq b) hxr.1 (by omega)
      obtain ⟨z, ez⟩ : ∃ z, rd sub (xr sq b) = z := ⟨_, rfl⟩
      have EE := Aside0.mk (And.intro ez (And.intro eb (And.intro esq (And.intro esq1 (And.intro eq eq1)))))
      rw [ez] at hz
      have hc := HC.out
      have hxs : xr sq b < (sub.length : Int) := by omega
      clear hsub hsl ez eb esq esq1 eq eq1
      go_wp2
      go_still_tail 25, (by kernel_rfl)
      change wpList _ _ _ _ _ wr.drew
      go_wp2
      clear f1 f2 f3
      go_roundw
      case rel =>
        refine ⟨k + 1, hlt, by go_num, ⟨?_⟩, ⟨(below_drew HBl.out).setCell hg1 _⟩, ⟨?_⟩⟩
        · have := (Kd.R_putg (Kd.R_drew HR.out) (q : Int) (xr z sq1)).1
          rw [Int.toNat_natCast] at this
          obtain ⟨ez, eb, esq, esq1, eq, eq1⟩ := EE.out
          rw [ST.out, stepH, eq, eq1, esq, esq1, eb]
          have ez' : sub.getD (xr sq b).toNat 0 = z := ez
          rw [ez']
          exact this
        · have h1 : (⟨g, q, none⟩ : Addr) ≠ ⟨w.heap.size + 1, 0, none⟩ := fun e => gne.out (by injection e)
          exact (World.cell?_setCell_other wr _ _ (.int .u8 (xr z sq1)) h1).trans HC.out
      case measure => simp [intOf]; omega
    · go_wp2
      go_ret
      obtain rfl : k = l.length := by omega
      rw [List.take_length] at HR
      exact ⟨_, rfl, HR.out, HBl.out⟩
end Go.Proofs.Ytkehjcppgpoobaa.Mix
