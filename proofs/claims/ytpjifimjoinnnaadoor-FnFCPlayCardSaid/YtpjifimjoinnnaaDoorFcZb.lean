/- A script's step keeps its contract. -/
import Derived.Test.YtpjifimjoinnnaaDoorFcZ
import Derived.Test.YtpjifimjoinnnaaDoorFcY
import Derived.Test.YtpjifimjoinnnaaDoorFcF
import Derived.KernelRfl
set_option autoImplicit true
set_option relaxedAutoImplicit true
set_option linter.unusedVariables false
set_option linter.unusedSimpArgs false
set_option maxRecDepth 100000
set_option maxHeartbeats 4000000
namespace Go.Proofs.YtpjifimjoinnnaaDoor
open Go Go.Sy Go.RowKit
variable {E : Env}
theorem prm6_ok (E : Env) (hE : E.fn = fns) : PrmOk E (prm6 Tryd.prog) where
  ct := by
    intro c hc
    simp only [prm6, List.mem_cons, List.not_mem_nil, or_false] at hc
    subst hc; rw [hE]; exact ct4_ok
  mix := by kernel_rfl
  okf := okf_call
  body := okf_body
  mts := by intro x hx; cases hx
  dfr := by intro x hx; cases hx
  dfk := by intro x hx; cases hx
def V6 (E : Env) (k S n off o l c : Int) (fin ok : Bool) : Env := { E with i := fun j => if j = 500 then k else if j = 501 then S else if j = 502 then n else if j = 503 then off else if j = 504 then o else if j = 505 then l else c, b := fun j => if j = 500 then fin else ok }
theorem imp_f {a b : SB} {E : Env} : (SB.and a (.not b)).den E = false ↔ (a.den E = true → b.den E = true) := by
  show (a.den E && !(b.den E)) = false ↔ _
  cases a.den E <;> cases b.den E <;> simp
theorem rX_den {E0 V : Env} {S : Int} (h : (E0.upd xb 7 V).i 501 = S) (hS : 0 ≤ S) (c : Nat) : (rX c).den (E0.upd xb 7 V) = E0.a 0 (12 * S.toNat + c) := by
  unfold rX
  rw [d_rd]
  have e : ((if c = 0 then SE.mul (.v 501) (.c 12) else .add (.mul (.v 501) (.c 12)) (.c c)).den (E0.upd xb 7 V)).toNat = 12 * S.toNat + c := by
    split
    · rename_i h0; subst h0; simp only [d_mul, d_v, d_c, h]; omega
    · simp only [d_add, d_mul, d_v, d_c, h]; omega
  rw [e]; rfl
theorem x6 {E0 E : Env} (hag : AgE 1000 E0 E) {k S n off o l c : Int} {fin ok : Bool} (hk : 0 ≤ k ∧ k ≤ 11) (hS : 0 ≤ S ∧ S < E0.i 41) (hn : 0 ≤ n ∧ n ≤ 260000000) (hoff : 0 ≤ off ∧ off ≤ 1000000)
    (ho : 0 ≤ o ∧ o ≤ 4294967296) (hl : 0 ≤ l ∧ l ≤ 4294967296) (hc : 0 ≤ c ∧ c ≤ 9223372036854775807) (hlc : l ≤ c) (hol : o + l ≤ E0.i 50) (hll : l ≤ E0.i 52) (hlt : 0 < E0.i 52 → l < E0.i 52)
    (h1 : ok = true → (toP (E0.a 0) S.toNat).gone ≠ 0 → 3 < k) (h2 : k = 1 → (toP (E0.a 0) S.toNat).r + n ≤ (toP (E0.a 0) S.toNat).h) (h3 : k = 7 → (toP (E0.a 0) S.toNat).s + n ≤ (toP (E0.a 0) S.toNat).l ∧ E0.i 7 + n ≤ E0.i 8)
    (h4 : k = 11 → 1000000 ≤ n) (h5 : k = 11 → ok = true → E0.b 12 = false) (h6 : k < 11 → n ≤ 1000000) (h7 : off ≤ (toP (E0.a 0) S.toNat).h + 510) :
    ∀ a', ct6.alts[0]? = some a' → Facts (E0.upd xb ct6.nx (V6 E k S n off o l c fin ok)) a'.xf := by
  intro a' ha'
  obtain rfl := Option.some.inj ha'
  have v0 : (E0.upd xb 7 (V6 E k S n off o l c fin ok)).i 500 = k := rfl
  have v1 : (E0.upd xb 7 (V6 E k S n off o l c fin ok)).i 501 = S := rfl
  have v2 : (E0.upd xb 7 (V6 E k S n off o l c fin ok)).i 502 = n := rfl
  have v3 : (E0.upd xb 7 (V6 E k S n off o l c fin ok)).i 503 = off := rfl
  have v4 : (E0.upd xb 7 (V6 E k S n off o l c fin ok)).i 504 = o := rfl
  have v5 : (E0.upd xb 7 (V6 E k S n off o l c fin ok)).i 505 = l := rfl
  have v6 : (E0.upd xb 7 (V6 E k S n off o l c fin ok)).i 506 = c := rfl
  have v7 : (E0.upd xb 7 (V6 E k S n off o l c fin ok)).b 501 = ok := rfl
  have u0 : (E0.upd xb 7 (V6 E k S n off o l c fin ok)).i 41 = E0.i 41 := rfl
  have u1 : (E0.upd xb 7 (V6 E k S n off o l c fin ok)).i 50 = E0.i 50 := rfl
  have u2 : (E0.upd xb 7 (V6 E k S n off o l c fin ok)).i 52 = E0.i 52 := rfl
  have u3 : (E0.upd xb 7 (V6 E k S n off o l c fin ok)).i 7 = E0.i 7 := rfl
  have u4 : (E0.upd xb 7 (V6 E k S n off o l c fin ok)).i 8 = E0.i 8 := rfl
  have u5 : (E0.upd xb 7 (V6 E k S n off o l c fin ok)).b 12 = E0.b 12 := rfl
  have rx := fun c' => rX_den v1 hS.1 c'
  show Facts (E0.upd xb 7 (V6 E k S n off o l c fin ok)) _
  simp only [ct6, codX, bd, imp, List.cons_append, List.nil_append, facts_cons, facts_nil, le_t, lt_t, eq_t, imp_f, and_t, not_t, lt_f, nz, eq_f, d_bv, d_c, d_v, d_add, and_true, v0, v1, v2, v3, v4, v5, v6, v7, u0, u1, u2, u3, u4, u5, rx]
  exact ⟨hk.1, hk.2, hS.1, hS.2, hn.1, hn.2, hoff.1, hoff.2, ho.1, ho.2, hl.1, hl.2, hc.1, hc.2, hlc, hol, hll, hlt, fun h => h1 h.1 h.2, h2, fun h => (h3 h).1, fun h => (h3 h).2, h4, fun h => h5 h.2 h.1, h6, h7⟩
theorem kindT {E : Env} (j : Int) (h : 0 ≤ j ∧ j < 16) : ∃ x, 0 ≤ x ∧ x ≤ 11 ∧ AE.den E ke0 j.toNat = x := by
  obtain ⟨n, rfl⟩ : ∃ n : Nat, j = n := ⟨j.toNat, by omega⟩
  have hn : n < 16 := by omega
  rw [Int.toNat_natCast]
  have : n = 0 ∨ n = 1 ∨ n = 2 ∨ n = 3 ∨ n = 4 ∨ n = 5 ∨ n = 6 ∨ n = 7 ∨ n = 8 ∨ n = 9 ∨ n = 10 ∨ n = 11 ∨ n = 12 ∨ n = 13 ∨ n = 14 ∨ n = 15 := by omega
  rcases this with rfl | rfl | rfl | rfl | rfl | rfl | rfl | rfl | rfl | rfl | rfl | rfl | rfl | rfl | rfl | rfl 
  · exact ⟨0, by decide, by decide, rfl⟩
  · exact ⟨0, by decide, by decide, rfl⟩
  · exact ⟨0, by decide, by decide, rfl⟩
  · exact ⟨1, by decide, by decide, rfl⟩
  · exact ⟨1, by decide, by decide, rfl⟩
  · exact ⟨3, by decide, by decide, rfl⟩
  · exact ⟨4, by decide, by decide, rfl⟩
  · exact ⟨5, by decide, by decide, rfl⟩
  · exact ⟨6, by decide, by decide, rfl⟩
  · exact ⟨7, by decide, by decide, rfl⟩
  · exact ⟨7, by decide, by decide, rfl⟩
  · exact ⟨8, by decide, by decide, rfl⟩
  · exact ⟨9, by decide, by decide, rfl⟩
  · exact ⟨10, by decide, by decide, rfl⟩
  · exact ⟨11, by decide, by decide, rfl⟩
  · exact ⟨2, by decide, by decide, rfl⟩
structure Pre6 (E : Env) : Prop where
  n0 : 0 ≤ E.i 50
  n1 : E.i 50 ≤ 4294967296
  l1 : E.i 52 ≤ 4294967296
  c0 : 0 ≤ E.i 0 ∧ E.i 0 ≤ 1000000
  c2 : 0 ≤ E.i 2 ∧ E.i 2 ≤ 1000000
  c7 : 0 ≤ E.i 7 ∧ E.i 7 ≤ 1000000
  c8 : 0 ≤ E.i 8 ∧ E.i 8 ≤ 1000000
  c78 : E.i 7 ≤ E.i 8
  c02 : E.i 0 ≤ E.i 2
  g : goodA (E.a 0) (E.i 41).toNat
  n : 1 ≤ E.i 41 ∧ E.i 41 ≤ 3
theorem rd_row {E0 E : Env} (hag : AgE 1000 E0 E) {S : SE} {s : Int} (hs : S.den E = s) (h0 : 0 ≤ s) (c : Nat) : (SE.rd (.v 0) (.add (.mul S (.c 12)) (.c c))).den E = (toP (E0.a 0) s.toNat).get c ∨ 12 ≤ c := by
  by_cases hc : c < 12
  · left
    rw [d_rd, d_av, hag.a 0 (by decide), d_add, d_mul, hs, d_c, d_c]
    have e : (s * 12 + (c : Int)).toNat = 12 * s.toNat + c := by omega
    rw [e]
    match c, hc with
    | 0, _ => rfl | 1, _ => rfl | 2, _ => rfl | 3, _ => rfl | 4, _ => rfl | 5, _ => rfl | 6, _ => rfl | 7, _ => rfl | 8, _ => rfl | 9, _ => rfl | 10, _ => rfl | 11, _ => rfl
  · right; omega
theorem rd_row0 {E0 E : Env} (hag : AgE 1000 E0 E) {S : SE} {s : Int} (hs : S.den E = s) (h0 : 0 ≤ s) : (SE.rd (.v 0) (.mul S (.c 12))).den E = (toP (E0.a 0) s.toNat).h := by
  rw [d_rd, d_av, hag.a 0 (by decide), d_mul, hs, d_c]
  have e : (s * 12).toNat = 12 * s.toNat := by omega
  rw [e]; rfl
structure T6 (E0 E : Env) : Prop where
  k : 0 ≤ ke2.den E ∧ ke2.den E ≤ 11
  S : 0 ≤ ke3.den E ∧ ke3.den E < E0.i 41
  p : okP (toP (E0.a 0) (ke3.den E).toNat) ∧ (toP (E0.a 0) (ke3.den E).toNat).h ≤ 500000 ∧ (toP (E0.a 0) (ke3.den E).toNat).r ≤ (toP (E0.a 0) (ke3.den E).toNat).h ∧ (toP (E0.a 0) (ke3.den E).toNat).s ≤ (toP (E0.a 0) (ke3.den E).toNat).l ∧ (0 ≤ (toP (E0.a 0) (ke3.den E).toNat).fin ∧ (toP (E0.a 0) (ke3.den E).toNat).fin ≤ 1) ∧ (0 ≤ (toP (E0.a 0) (ke3.den E).toNat).gone ∧ (toP (E0.a 0) (ke3.den E).toNat).gone ≤ 1)
  r5 : ke5.den E = (toP (E0.a 0) (ke3.den E).toNat).h
  r14 : ke14.den E = (toP (E0.a 0) (ke3.den E).toNat).w
  r23 : ke23.den E = (toP (E0.a 0) (ke3.den E).toNat).gone
  r33 : ke33.den E = (toP (E0.a 0) (ke3.den E).toNat).r
  r39 : ke39.den E = (toP (E0.a 0) (ke3.den E).toNat).l
  r41 : ke41.den E = (toP (E0.a 0) (ke3.den E).toNat).s
theorem t6 {E0 E : Env} (hp : Pre6 E0) (hag : AgE 1000 E0 E) (b0 : 0 ≤ E.i 1000 ∧ E.i 1000 ≤ 255) (b1 : 0 ≤ E.i 1004 ∧ E.i 1004 ≤ 255) : T6 E0 E := by
  have h41 : E.i 41 = E0.i 41 := hag.i 41 (by decide)
  have hS : 0 ≤ ke3.den E ∧ ke3.den E < E0.i 41 := by
    show 0 ≤ (E.i 1004).tmod (E.i 41) ∧ (E.i 1004).tmod (E.i 41) < E0.i 41
    have := hp.n
    rw [h41, Int.tmod_eq_emod_of_nonneg b1.1]
    exact ⟨Int.emod_nonneg _ (by omega), Int.emod_lt_of_pos _ (by omega)⟩
  refine ⟨?_, hS, hp.g _ (by omega), rd_row0 hag rfl hS.1, ?_, ?_, ?_, ?_, ?_⟩
  · obtain ⟨x, h0, h1, hx⟩ := kindT (E := E) ((E.i 1000).tmod 16) (by
      rw [Int.tmod_eq_emod_of_nonneg b0.1]
      exact ⟨Int.emod_nonneg _ (by decide), Int.emod_lt_of_pos _ (by decide)⟩)
    have e : ke2.den E = x := hx
    omega
  · exact (rd_row hag (S := ke3) rfl hS.1 2).resolve_right (by decide)
  · exact (rd_row hag (S := ke3) rfl hS.1 11).resolve_right (by decide)
  · exact (rd_row hag (S := ke3) rfl hS.1 1).resolve_right (by decide)
  · exact (rd_row hag (S := ke3) rfl hS.1 8).resolve_right (by decide)
  · exact (rd_row hag (S := ke3) rfl hS.1 7).resolve_right (by decide)
theorem w_kx0 {E0 E : Env} (hp : Pre6 E0) (hag : AgE 1000 E0 E) : VOkX [] ct6 (fun _ _ _ => True) (fun _ _ _ => 0) none E0 E kx0 := by
  intro hf
  have a1000 : 0 ≤ E.i 1000 := le_t.1 ((fat hf 65 rfl))
  have z1000 : E.i 1000 ≤ 255 := le_t.1 ((fat hf 66 rfl))
  have a1004 : 0 ≤ E.i 1004 := le_t.1 ((fat hf 53 rfl))
  have z1004 : E.i 1004 ≤ 255 := le_t.1 ((fat hf 54 rfl))
  have a1008 : 0 ≤ E.i 1008 := le_t.1 ((fat hf 38 rfl))
  have z1008 : E.i 1008 ≤ 255 := le_t.1 ((fat hf 39 rfl))
  have a1012 : 0 ≤ E.i 1012 := le_t.1 ((fat hf 26 rfl))
  have z1012 : E.i 1012 ≤ 255 := le_t.1 ((fat hf 27 rfl))
  have a1016 : 0 ≤ E.i 1016 := le_t.1 ((fat hf 14 rfl))
  have z1016 : E.i 1016 ≤ 255 := le_t.1 ((fat hf 15 rfl))
  have a1020 : 0 ≤ E.i 1020 := le_t.1 ((fat hf 2 rfl))
  have z1020 : E.i 1020 ≤ 255 := le_t.1 ((fat hf 3 rfl))
  have o0 : 0 ≤ E.i 1021 := le_t.1 ((fat hf 4 rfl))
  have o1 : E.i 1021 ≤ 4294967296 := le_t.1 ((fat hf 5 rfl))
  have l0 : 0 ≤ E.i 1022 := le_t.1 ((fat hf 6 rfl))
  have l1 : E.i 1022 ≤ 4294967296 := le_t.1 ((fat hf 7 rfl))
  have c0 : 0 ≤ E.i 1023 := le_t.1 ((fat hf 8 rfl))
  have c1 : E.i 1023 ≤ 9223372036854775807 := le_t.1 ((fat hf 9 rfl))
  have lc : E.i 1022 ≤ E.i 1023 := le_t.1 ((fat hf 10 rfl))
  have ol : E.i 1021 + E.i 1022 ≤ E.i 50 := le_t.1 ((fat hf 11 rfl))
  have m1002 : E.i 1002 ≤ E.i 52 := le_t.1 ((fat hf 75 rfl))
  have m1006 : E.i 1006 ≤ E.i 1002 := le_t.1 ((fat hf 63 rfl))
  have m1010 : E.i 1010 ≤ E.i 1006 := le_t.1 ((fat hf 48 rfl))
  have m1014 : E.i 1014 ≤ E.i 1010 := le_t.1 ((fat hf 36 rfl))
  have m1018 : E.i 1018 ≤ E.i 1014 := le_t.1 ((fat hf 24 rfl))
  have m1022 : E.i 1022 ≤ E.i 1018 := le_t.1 ((fat hf 12 rfl))
  have st : ¬ (0 < E.i 52 ∧ E.i 52 ≤ E.i 1002) := by
    have := (fat hf 76 rfl)
    simpa only [and_f, lt_t, not_t, lt_f, d_c, d_v] using this
  have tt := t6 hp hag ⟨a1000, z1000⟩ ⟨a1004, z1004⟩
  have e50 : E.i 50 = E0.i 50 := hag.i 50 (by decide)
  have e52 : E.i 52 = E0.i 52 := hag.i 52 (by decide)
  have e0 : E.i 0 = E0.i 0 := hag.i 0 (by decide)
  have e2 : E.i 2 = E0.i 2 := hag.i 2 (by decide)
  have e7 : E.i 7 = E0.i 7 := hag.i 7 (by decide)
  have e8 : E.i 8 = E0.i 8 := hag.i 8 (by decide)
  have e12 : E.b 12 = E0.b 12 := hag.b 12 (by decide)
  have gn : ke23.den E = 0 := eq_t.1 ((fat hf 0 rfl))
  have k0 : ke2.den E = 0 := eq_t.1 ((fat hf 50 rfl))
  obtain ⟨⟨tk0, tk1⟩, ⟨tS0, tS1⟩, ⟨⟨⟨ph0, ph1⟩, ⟨pr0, pr1⟩, ⟨pw0, pw1⟩, _, _, _, _, ⟨ps0, ps1⟩, ⟨pl0, pl1⟩, _⟩, ph, prh, psl, _, ⟨pg0, pg1⟩⟩, r5, r14, r23, r33, r39, r41⟩ := tt
  obtain ⟨n0, n1, xl1, ⟨x0, x0b⟩, ⟨x2, x2b⟩, ⟨x7, x7b⟩, ⟨x8, x8b⟩, x78, x02, _, ⟨xn, xnb⟩⟩ := hp
  have hq : ke9.den E = E.i 1012 / 2 := Int.tdiv_eq_ediv_of_nonneg a1012
  have q8 : ke8.den E = ke5.den E + E.i 1008 * 2 := w64 (n := ke5.den E + E.i 1008 * 2) (by omega)
  have q11 : ke11.den E = ke8.den E - ke9.den E := w64 (n := ke8.den E - ke9.den E) (by omega)
  have q12 : ke12.den E = max (ke11.den E) 0 := imx_max _ _
  have q15 : ke15.den E = min (ke12.den E) (ke14.den E) := imn_min _ _
  have q17 : ke17.den E = ke5.den E + E.i 2 := w64 (n := ke5.den E + E.i 2) (by omega)
  have q19 : ke19.den E = ke17.den E - E.i 0 := w64 (n := ke17.den E - E.i 0) (by omega)
  have q20 : ke20.den E = min (ke15.den E) (ke19.den E) := imn_min _ _
  refine ⟨rfl, V6 E (ke2.den E) (ke3.den E) (0) (ke20.den E) (E.i 1021) (E.i 1022) (E.i 1023) ((SB.eq ke21 (.c 0)).den E) true, ?_, x6 (E0 := E0) hag ?_ ?_ ?_ ?_ ?_ ?_ ?_ ?_ ?_ ?_ ?_ ?_ ?_ ?_ ?_ ?_ ?_ ?_⟩
  · exact List.forall_mem_cons.2 ⟨rfl, List.forall_mem_cons.2 ⟨rfl, List.forall_mem_cons.2 ⟨rfl, List.forall_mem_cons.2 ⟨rfl, List.forall_mem_cons.2 ⟨hag.i 64 (by decide), List.forall_mem_cons.2 ⟨rfl, List.forall_mem_cons.2 ⟨rfl, List.forall_mem_cons.2 ⟨fun j _ => by rw [d_av, d_av]; exact congrFun (hag.a 5 (by decide)) j, List.forall_mem_cons.2 ⟨hag.i 50 (by decide), List.forall_mem_cons.2 ⟨rfl, List.forall_mem_cons.2 ⟨rfl, List.forall_mem_cons.2 ⟨rfl, List.forall_mem_cons.2 ⟨hag.i 0 (by decide), List.forall_mem_cons.2 ⟨hag.i 1 (by decide), List.forall_mem_cons.2 ⟨hag.i 2 (by decide), List.forall_mem_cons.2 ⟨hag.i 3 (by decide), List.forall_mem_cons.2 ⟨hag.i 4 (by decide), List.forall_mem_cons.2 ⟨hag.i 5 (by decide), List.forall_mem_cons.2 ⟨hag.i 6 (by decide), List.forall_mem_cons.2 ⟨hag.i 7 (by decide), List.forall_mem_cons.2 ⟨hag.i 8 (by decide), List.forall_mem_cons.2 ⟨hag.i 9 (by decide), List.forall_mem_cons.2 ⟨hag.b 10 (by decide), List.forall_mem_cons.2 ⟨hag.b 11 (by decide), List.forall_mem_cons.2 ⟨hag.i 40 (by decide), List.forall_mem_cons.2 ⟨hag.b 12 (by decide), List.forall_mem_cons.2 ⟨fun j _ => by rw [d_av, d_av]; exact congrFun (hag.a 0 (by decide)) j, List.forall_mem_cons.2 ⟨hag.i 41 (by decide), fun q hq => by cases hq⟩⟩⟩⟩⟩⟩⟩⟩⟩⟩⟩⟩⟩⟩⟩⟩⟩⟩⟩⟩⟩⟩⟩⟩⟩⟩⟩⟩
  · omega
  · omega
  · omega
  · omega
  · omega
  · omega
  · omega
  · omega
  · omega
  · omega
  · omega
  · intro _ h; exact (h (r23 ▸ gn)).elim
  · intro h; omega
  · intro h; omega
  · intro h; omega
  · intro h; omega
  · intro h; omega
  · omega
theorem w_kx1 {E0 E : Env} (hp : Pre6 E0) (hag : AgE 1000 E0 E) : VOkX [] ct6 (fun _ _ _ => True) (fun _ _ _ => 0) none E0 E kx1 := by
  intro hf
  have a1000 : 0 ≤ E.i 1000 := le_t.1 ((fat hf 65 rfl))
  have z1000 : E.i 1000 ≤ 255 := le_t.1 ((fat hf 66 rfl))
  have a1004 : 0 ≤ E.i 1004 := le_t.1 ((fat hf 53 rfl))
  have z1004 : E.i 1004 ≤ 255 := le_t.1 ((fat hf 54 rfl))
  have a1008 : 0 ≤ E.i 1008 := le_t.1 ((fat hf 38 rfl))
  have z1008 : E.i 1008 ≤ 255 := le_t.1 ((fat hf 39 rfl))
  have a1012 : 0 ≤ E.i 1012 := le_t.1 ((fat hf 26 rfl))
  have z1012 : E.i 1012 ≤ 255 := le_t.1 ((fat hf 27 rfl))
  have a1016 : 0 ≤ E.i 1016 := le_t.1 ((fat hf 14 rfl))
  have z1016 : E.i 1016 ≤ 255 := le_t.1 ((fat hf 15 rfl))
  have a1020 : 0 ≤ E.i 1020 := le_t.1 ((fat hf 2 rfl))
  have z1020 : E.i 1020 ≤ 255 := le_t.1 ((fat hf 3 rfl))
  have o0 : 0 ≤ E.i 1021 := le_t.1 ((fat hf 4 rfl))
  have o1 : E.i 1021 ≤ 4294967296 := le_t.1 ((fat hf 5 rfl))
  have l0 : 0 ≤ E.i 1022 := le_t.1 ((fat hf 6 rfl))
  have l1 : E.i 1022 ≤ 4294967296 := le_t.1 ((fat hf 7 rfl))
  have c0 : 0 ≤ E.i 1023 := le_t.1 ((fat hf 8 rfl))
  have c1 : E.i 1023 ≤ 9223372036854775807 := le_t.1 ((fat hf 9 rfl))
  have lc : E.i 1022 ≤ E.i 1023 := le_t.1 ((fat hf 10 rfl))
  have ol : E.i 1021 + E.i 1022 ≤ E.i 50 := le_t.1 ((fat hf 11 rfl))
  have m1002 : E.i 1002 ≤ E.i 52 := le_t.1 ((fat hf 75 rfl))
  have m1006 : E.i 1006 ≤ E.i 1002 := le_t.1 ((fat hf 63 rfl))
  have m1010 : E.i 1010 ≤ E.i 1006 := le_t.1 ((fat hf 48 rfl))
  have m1014 : E.i 1014 ≤ E.i 1010 := le_t.1 ((fat hf 36 rfl))
  have m1018 : E.i 1018 ≤ E.i 1014 := le_t.1 ((fat hf 24 rfl))
  have m1022 : E.i 1022 ≤ E.i 1018 := le_t.1 ((fat hf 12 rfl))
  have st : ¬ (0 < E.i 52 ∧ E.i 52 ≤ E.i 1002) := by
    have := (fat hf 76 rfl)
    simpa only [and_f, lt_t, not_t, lt_f, d_c, d_v] using this
  have tt := t6 hp hag ⟨a1000, z1000⟩ ⟨a1004, z1004⟩
  have e50 : E.i 50 = E0.i 50 := hag.i 50 (by decide)
  have e52 : E.i 52 = E0.i 52 := hag.i 52 (by decide)
  have e0 : E.i 0 = E0.i 0 := hag.i 0 (by decide)
  have e2 : E.i 2 = E0.i 2 := hag.i 2 (by decide)
  have e7 : E.i 7 = E0.i 7 := hag.i 7 (by decide)
  have e8 : E.i 8 = E0.i 8 := hag.i 8 (by decide)
  have e12 : E.b 12 = E0.b 12 := hag.b 12 (by decide)
  have gn : ke23.den E ≠ 0 := eq_f.1 ((fat hf 0 rfl))
  have k0 : ke2.den E = 0 := eq_t.1 ((fat hf 50 rfl))
  obtain ⟨⟨tk0, tk1⟩, ⟨tS0, tS1⟩, ⟨⟨⟨ph0, ph1⟩, ⟨pr0, pr1⟩, ⟨pw0, pw1⟩, _, _, _, _, ⟨ps0, ps1⟩, ⟨pl0, pl1⟩, _⟩, ph, prh, psl, _, ⟨pg0, pg1⟩⟩, r5, r14, r23, r33, r39, r41⟩ := tt
  obtain ⟨n0, n1, xl1, ⟨x0, x0b⟩, ⟨x2, x2b⟩, ⟨x7, x7b⟩, ⟨x8, x8b⟩, x78, x02, _, ⟨xn, xnb⟩⟩ := hp
  have hq : ke9.den E = E.i 1012 / 2 := Int.tdiv_eq_ediv_of_nonneg a1012
  have q8 : ke8.den E = ke5.den E + E.i 1008 * 2 := w64 (n := ke5.den E + E.i 1008 * 2) (by omega)
  have q11 : ke11.den E = ke8.den E - ke9.den E := w64 (n := ke8.den E - ke9.den E) (by omega)
  have q12 : ke12.den E = max (ke11.den E) 0 := imx_max _ _
  have q15 : ke15.den E = min (ke12.den E) (ke14.den E) := imn_min _ _
  have q17 : ke17.den E = ke5.den E + E.i 2 := w64 (n := ke5.den E + E.i 2) (by omega)
  have q19 : ke19.den E = ke17.den E - E.i 0 := w64 (n := ke17.den E - E.i 0) (by omega)
  have q20 : ke20.den E = min (ke15.den E) (ke19.den E) := imn_min _ _
  refine ⟨rfl, V6 E (ke2.den E) (ke3.den E) (0) (ke20.den E) (E.i 1021) (E.i 1022) (E.i 1023) ((SB.eq ke21 (.c 0)).den E) false, ?_, x6 (E0 := E0) hag ?_ ?_ ?_ ?_ ?_ ?_ ?_ ?_ ?_ ?_ ?_ ?_ ?_ ?_ ?_ ?_ ?_ ?_⟩
  · exact List.forall_mem_cons.2 ⟨rfl, List.forall_mem_cons.2 ⟨rfl, List.forall_mem_cons.2 ⟨rfl, List.forall_mem_cons.2 ⟨rfl, List.forall_mem_cons.2 ⟨hag.i 64 (by decide), List.forall_mem_cons.2 ⟨rfl, List.forall_mem_cons.2 ⟨rfl, List.forall_mem_cons.2 ⟨fun j _ => by rw [d_av, d_av]; exact congrFun (hag.a 5 (by decide)) j, List.forall_mem_cons.2 ⟨hag.i 50 (by decide), List.forall_mem_cons.2 ⟨rfl, List.forall_mem_cons.2 ⟨rfl, List.forall_mem_cons.2 ⟨rfl, List.forall_mem_cons.2 ⟨hag.i 0 (by decide), List.forall_mem_cons.2 ⟨hag.i 1 (by decide), List.forall_mem_cons.2 ⟨hag.i 2 (by decide), List.forall_mem_cons.2 ⟨hag.i 3 (by decide), List.forall_mem_cons.2 ⟨hag.i 4 (by decide), List.forall_mem_cons.2 ⟨hag.i 5 (by decide), List.forall_mem_cons.2 ⟨hag.i 6 (by decide), List.forall_mem_cons.2 ⟨hag.i 7 (by decide), List.forall_mem_cons.2 ⟨hag.i 8 (by decide), List.forall_mem_cons.2 ⟨hag.i 9 (by decide), List.forall_mem_cons.2 ⟨hag.b 10 (by decide), List.forall_mem_cons.2 ⟨hag.b 11 (by decide), List.forall_mem_cons.2 ⟨hag.i 40 (by decide), List.forall_mem_cons.2 ⟨hag.b 12 (by decide), List.forall_mem_cons.2 ⟨fun j _ => by rw [d_av, d_av]; exact congrFun (hag.a 0 (by decide)) j, List.forall_mem_cons.2 ⟨hag.i 41 (by decide), fun q hq => by cases hq⟩⟩⟩⟩⟩⟩⟩⟩⟩⟩⟩⟩⟩⟩⟩⟩⟩⟩⟩⟩⟩⟩⟩⟩⟩⟩⟩⟩
  · omega
  · omega
  · omega
  · omega
  · omega
  · omega
  · omega
  · omega
  · omega
  · omega
  · omega
  · intro h; cases h
  · intro h; omega
  · intro h; omega
  · intro h; omega
  · intro h; omega
  · intro h; omega
  · omega
theorem w_kx2 {E0 E : Env} (hp : Pre6 E0) (hag : AgE 1000 E0 E) : VOkX [] ct6 (fun _ _ _ => True) (fun _ _ _ => 0) none E0 E kx2 := by
  intro hf
  have a1000 : 0 ≤ E.i 1000 := le_t.1 ((fat hf 65 rfl))
  have z1000 : E.i 1000 ≤ 255 := le_t.1 ((fat hf 66 rfl))
  have a1004 : 0 ≤ E.i 1004 := le_t.1 ((fat hf 53 rfl))
  have z1004 : E.i 1004 ≤ 255 := le_t.1 ((fat hf 54 rfl))
  have a1008 : 0 ≤ E.i 1008 := le_t.1 ((fat hf 38 rfl))
  have z1008 : E.i 1008 ≤ 255 := le_t.1 ((fat hf 39 rfl))
  have a1012 : 0 ≤ E.i 1012 := le_t.1 ((fat hf 26 rfl))
  have z1012 : E.i 1012 ≤ 255 := le_t.1 ((fat hf 27 rfl))
  have a1016 : 0 ≤ E.i 1016 := le_t.1 ((fat hf 14 rfl))
  have z1016 : E.i 1016 ≤ 255 := le_t.1 ((fat hf 15 rfl))
  have a1020 : 0 ≤ E.i 1020 := le_t.1 ((fat hf 2 rfl))
  have z1020 : E.i 1020 ≤ 255 := le_t.1 ((fat hf 3 rfl))
  have o0 : 0 ≤ E.i 1021 := le_t.1 ((fat hf 4 rfl))
  have o1 : E.i 1021 ≤ 4294967296 := le_t.1 ((fat hf 5 rfl))
  have l0 : 0 ≤ E.i 1022 := le_t.1 ((fat hf 6 rfl))
  have l1 : E.i 1022 ≤ 4294967296 := le_t.1 ((fat hf 7 rfl))
  have c0 : 0 ≤ E.i 1023 := le_t.1 ((fat hf 8 rfl))
  have c1 : E.i 1023 ≤ 9223372036854775807 := le_t.1 ((fat hf 9 rfl))
  have lc : E.i 1022 ≤ E.i 1023 := le_t.1 ((fat hf 10 rfl))
  have ol : E.i 1021 + E.i 1022 ≤ E.i 50 := le_t.1 ((fat hf 11 rfl))
  have m1002 : E.i 1002 ≤ E.i 52 := le_t.1 ((fat hf 75 rfl))
  have m1006 : E.i 1006 ≤ E.i 1002 := le_t.1 ((fat hf 63 rfl))
  have m1010 : E.i 1010 ≤ E.i 1006 := le_t.1 ((fat hf 48 rfl))
  have m1014 : E.i 1014 ≤ E.i 1010 := le_t.1 ((fat hf 36 rfl))
  have m1018 : E.i 1018 ≤ E.i 1014 := le_t.1 ((fat hf 24 rfl))
  have m1022 : E.i 1022 ≤ E.i 1018 := le_t.1 ((fat hf 12 rfl))
  have st : ¬ (0 < E.i 52 ∧ E.i 52 ≤ E.i 1002) := by
    have := (fat hf 76 rfl)
    simpa only [and_f, lt_t, not_t, lt_f, d_c, d_v] using this
  have tt := t6 hp hag ⟨a1000, z1000⟩ ⟨a1004, z1004⟩
  have e50 : E.i 50 = E0.i 50 := hag.i 50 (by decide)
  have e52 : E.i 52 = E0.i 52 := hag.i 52 (by decide)
  have e0 : E.i 0 = E0.i 0 := hag.i 0 (by decide)
  have e2 : E.i 2 = E0.i 2 := hag.i 2 (by decide)
  have e7 : E.i 7 = E0.i 7 := hag.i 7 (by decide)
  have e8 : E.i 8 = E0.i 8 := hag.i 8 (by decide)
  have e12 : E.b 12 = E0.b 12 := hag.b 12 (by decide)
  have gn : ke23.den E = 0 := eq_t.1 ((fat hf 0 rfl))
  have k0 : ke2.den E = 0 := eq_t.1 ((fat hf 50 rfl))
  obtain ⟨⟨tk0, tk1⟩, ⟨tS0, tS1⟩, ⟨⟨⟨ph0, ph1⟩, ⟨pr0, pr1⟩, ⟨pw0, pw1⟩, _, _, _, _, ⟨ps0, ps1⟩, ⟨pl0, pl1⟩, _⟩, ph, prh, psl, _, ⟨pg0, pg1⟩⟩, r5, r14, r23, r33, r39, r41⟩ := tt
  obtain ⟨n0, n1, xl1, ⟨x0, x0b⟩, ⟨x2, x2b⟩, ⟨x7, x7b⟩, ⟨x8, x8b⟩, x78, x02, _, ⟨xn, xnb⟩⟩ := hp
  have hq : ke9.den E = E.i 1012 / 2 := Int.tdiv_eq_ediv_of_nonneg a1012
  have q8 : ke8.den E = ke5.den E + E.i 1008 * 2 := w64 (n := ke5.den E + E.i 1008 * 2) (by omega)
  have q11 : ke11.den E = ke8.den E - ke9.den E := w64 (n := ke8.den E - ke9.den E) (by omega)
  have q12 : ke12.den E = max (ke11.den E) 0 := imx_max _ _
  refine ⟨rfl, V6 E (ke2.den E) (ke3.den E) (0) (ke12.den E) (E.i 1021) (E.i 1022) (E.i 1023) ((SB.eq ke21 (.c 0)).den E) true, ?_, x6 (E0 := E0) hag ?_ ?_ ?_ ?_ ?_ ?_ ?_ ?_ ?_ ?_ ?_ ?_ ?_ ?_ ?_ ?_ ?_ ?_⟩
  · exact List.forall_mem_cons.2 ⟨rfl, List.forall_mem_cons.2 ⟨rfl, List.forall_mem_cons.2 ⟨rfl, List.forall_mem_cons.2 ⟨rfl, List.forall_mem_cons.2 ⟨hag.i 64 (by decide), List.forall_mem_cons.2 ⟨rfl, List.forall_mem_cons.2 ⟨rfl, List.forall_mem_cons.2 ⟨fun j _ => by rw [d_av, d_av]; exact congrFun (hag.a 5 (by decide)) j, List.forall_mem_cons.2 ⟨hag.i 50 (by decide), List.forall_mem_cons.2 ⟨rfl, List.forall_mem_cons.2 ⟨rfl, List.forall_mem_cons.2 ⟨rfl, List.forall_mem_cons.2 ⟨hag.i 0 (by decide), List.forall_mem_cons.2 ⟨hag.i 1 (by decide), List.forall_mem_cons.2 ⟨hag.i 2 (by decide), List.forall_mem_cons.2 ⟨hag.i 3 (by decide), List.forall_mem_cons.2 ⟨hag.i 4 (by decide), List.forall_mem_cons.2 ⟨hag.i 5 (by decide), List.forall_mem_cons.2 ⟨hag.i 6 (by decide), List.forall_mem_cons.2 ⟨hag.i 7 (by decide), List.forall_mem_cons.2 ⟨hag.i 8 (by decide), List.forall_mem_cons.2 ⟨hag.i 9 (by decide), List.forall_mem_cons.2 ⟨hag.b 10 (by decide), List.forall_mem_cons.2 ⟨hag.b 11 (by decide), List.forall_mem_cons.2 ⟨hag.i 40 (by decide), List.forall_mem_cons.2 ⟨hag.b 12 (by decide), List.forall_mem_cons.2 ⟨fun j _ => by rw [d_av, d_av]; exact congrFun (hag.a 0 (by decide)) j, List.forall_mem_cons.2 ⟨hag.i 41 (by decide), fun q hq => by cases hq⟩⟩⟩⟩⟩⟩⟩⟩⟩⟩⟩⟩⟩⟩⟩⟩⟩⟩⟩⟩⟩⟩⟩⟩⟩⟩⟩⟩
  · omega
  · omega
  · omega
  · omega
  · omega
  · omega
  · omega
  · omega
  · omega
  · omega
  · omega
  · intro _ h; exact (h (r23 ▸ gn)).elim
  · intro h; omega
  · intro h; omega
  · intro h; omega
  · intro h; omega
  · intro h; omega
  · omega
theorem w_kx3 {E0 E : Env} (hp : Pre6 E0) (hag : AgE 1000 E0 E) : VOkX [] ct6 (fun _ _ _ => True) (fun _ _ _ => 0) none E0 E kx3 := by
  intro hf
  have a1000 : 0 ≤ E.i 1000 := le_t.1 ((fat hf 65 rfl))
  have z1000 : E.i 1000 ≤ 255 := le_t.1 ((fat hf 66 rfl))
  have a1004 : 0 ≤ E.i 1004 := le_t.1 ((fat hf 53 rfl))
  have z1004 : E.i 1004 ≤ 255 := le_t.1 ((fat hf 54 rfl))
  have a1008 : 0 ≤ E.i 1008 := le_t.1 ((fat hf 38 rfl))
  have z1008 : E.i 1008 ≤ 255 := le_t.1 ((fat hf 39 rfl))
  have a1012 : 0 ≤ E.i 1012 := le_t.1 ((fat hf 26 rfl))
  have z1012 : E.i 1012 ≤ 255 := le_t.1 ((fat hf 27 rfl))
  have a1016 : 0 ≤ E.i 1016 := le_t.1 ((fat hf 14 rfl))
  have z1016 : E.i 1016 ≤ 255 := le_t.1 ((fat hf 15 rfl))
  have a1020 : 0 ≤ E.i 1020 := le_t.1 ((fat hf 2 rfl))
  have z1020 : E.i 1020 ≤ 255 := le_t.1 ((fat hf 3 rfl))
  have o0 : 0 ≤ E.i 1021 := le_t.1 ((fat hf 4 rfl))
  have o1 : E.i 1021 ≤ 4294967296 := le_t.1 ((fat hf 5 rfl))
  have l0 : 0 ≤ E.i 1022 := le_t.1 ((fat hf 6 rfl))
  have l1 : E.i 1022 ≤ 4294967296 := le_t.1 ((fat hf 7 rfl))
  have c0 : 0 ≤ E.i 1023 := le_t.1 ((fat hf 8 rfl))
  have c1 : E.i 1023 ≤ 9223372036854775807 := le_t.1 ((fat hf 9 rfl))
  have lc : E.i 1022 ≤ E.i 1023 := le_t.1 ((fat hf 10 rfl))
  have ol : E.i 1021 + E.i 1022 ≤ E.i 50 := le_t.1 ((fat hf 11 rfl))
  have m1002 : E.i 1002 ≤ E.i 52 := le_t.1 ((fat hf 75 rfl))
  have m1006 : E.i 1006 ≤ E.i 1002 := le_t.1 ((fat hf 63 rfl))
  have m1010 : E.i 1010 ≤ E.i 1006 := le_t.1 ((fat hf 48 rfl))
  have m1014 : E.i 1014 ≤ E.i 1010 := le_t.1 ((fat hf 36 rfl))
  have m1018 : E.i 1018 ≤ E.i 1014 := le_t.1 ((fat hf 24 rfl))
  have m1022 : E.i 1022 ≤ E.i 1018 := le_t.1 ((fat hf 12 rfl))
  have st : ¬ (0 < E.i 52 ∧ E.i 52 ≤ E.i 1002) := by
    have := (fat hf 76 rfl)
    simpa only [and_f, lt_t, not_t, lt_f, d_c, d_v] using this
  have tt := t6 hp hag ⟨a1000, z1000⟩ ⟨a1004, z1004⟩
  have e50 : E.i 50 = E0.i 50 := hag.i 50 (by decide)
  have e52 : E.i 52 = E0.i 52 := hag.i 52 (by decide)
  have e0 : E.i 0 = E0.i 0 := hag.i 0 (by decide)
  have e2 : E.i 2 = E0.i 2 := hag.i 2 (by decide)
  have e7 : E.i 7 = E0.i 7 := hag.i 7 (by decide)
  have e8 : E.i 8 = E0.i 8 := hag.i 8 (by decide)
  have e12 : E.b 12 = E0.b 12 := hag.b 12 (by decide)
  have gn : ke23.den E ≠ 0 := eq_f.1 ((fat hf 0 rfl))
  have k0 : ke2.den E = 0 := eq_t.1 ((fat hf 50 rfl))
  obtain ⟨⟨tk0, tk1⟩, ⟨tS0, tS1⟩, ⟨⟨⟨ph0, ph1⟩, ⟨pr0, pr1⟩, ⟨pw0, pw1⟩, _, _, _, _, ⟨ps0, ps1⟩, ⟨pl0, pl1⟩, _⟩, ph, prh, psl, _, ⟨pg0, pg1⟩⟩, r5, r14, r23, r33, r39, r41⟩ := tt
  obtain ⟨n0, n1, xl1, ⟨x0, x0b⟩, ⟨x2, x2b⟩, ⟨x7, x7b⟩, ⟨x8, x8b⟩, x78, x02, _, ⟨xn, xnb⟩⟩ := hp
  have hq : ke9.den E = E.i 1012 / 2 := Int.tdiv_eq_ediv_of_nonneg a1012
  have q8 : ke8.den E = ke5.den E + E.i 1008 * 2 := w64 (n := ke5.den E + E.i 1008 * 2) (by omega)
  have q11 : ke11.den E = ke8.den E - ke9.den E := w64 (n := ke8.den E - ke9.den E) (by omega)
  have q12 : ke12.den E = max (ke11.den E) 0 := imx_max _ _
  refine ⟨rfl, V6 E (ke2.den E) (ke3.den E) (0) (ke12.den E) (E.i 1021) (E.i 1022) (E.i 1023) ((SB.eq ke21 (.c 0)).den E) false, ?_, x6 (E0 := E0) hag ?_ ?_ ?_ ?_ ?_ ?_ ?_ ?_ ?_ ?_ ?_ ?_ ?_ ?_ ?_ ?_ ?_ ?_⟩
  · exact List.forall_mem_cons.2 ⟨rfl, List.forall_mem_cons.2 ⟨rfl, List.forall_mem_cons.2 ⟨rfl, List.forall_mem_cons.2 ⟨rfl, List.forall_mem_cons.2 ⟨hag.i 64 (by decide), List.forall_mem_cons.2 ⟨rfl, List.forall_mem_cons.2 ⟨rfl, List.forall_mem_cons.2 ⟨fun j _ => by rw [d_av, d_av]; exact congrFun (hag.a 5 (by decide)) j, List.forall_mem_cons.2 ⟨hag.i 50 (by decide), List.forall_mem_cons.2 ⟨rfl, List.forall_mem_cons.2 ⟨rfl, List.forall_mem_cons.2 ⟨rfl, List.forall_mem_cons.2 ⟨hag.i 0 (by decide), List.forall_mem_cons.2 ⟨hag.i 1 (by decide), List.forall_mem_cons.2 ⟨hag.i 2 (by decide), List.forall_mem_cons.2 ⟨hag.i 3 (by decide), List.forall_mem_cons.2 ⟨hag.i 4 (by decide), List.forall_mem_cons.2 ⟨hag.i 5 (by decide), List.forall_mem_cons.2 ⟨hag.i 6 (by decide), List.forall_mem_cons.2 ⟨hag.i 7 (by decide), List.forall_mem_cons.2 ⟨hag.i 8 (by decide), List.forall_mem_cons.2 ⟨hag.i 9 (by decide), List.forall_mem_cons.2 ⟨hag.b 10 (by decide), List.forall_mem_cons.2 ⟨hag.b 11 (by decide), List.forall_mem_cons.2 ⟨hag.i 40 (by decide), List.forall_mem_cons.2 ⟨hag.b 12 (by decide), List.forall_mem_cons.2 ⟨fun j _ => by rw [d_av, d_av]; exact congrFun (hag.a 0 (by decide)) j, List.forall_mem_cons.2 ⟨hag.i 41 (by decide), fun q hq => by cases hq⟩⟩⟩⟩⟩⟩⟩⟩⟩⟩⟩⟩⟩⟩⟩⟩⟩⟩⟩⟩⟩⟩⟩⟩⟩⟩⟩⟩
  · omega
  · omega
  · omega
  · omega
  · omega
  · omega
  · omega
  · omega
  · omega
  · omega
  · omega
  · intro h; cases h
  · intro h; omega
  · intro h; omega
  · intro h; omega
  · intro h; omega
  · intro h; omega
  · omega
theorem w_kx4 {E0 E : Env} (hp : Pre6 E0) (hag : AgE 1000 E0 E) : VOkX [] ct6 (fun _ _ _ => True) (fun _ _ _ => 0) none E0 E kx4 := by
  intro hf
  have a1000 : 0 ≤ E.i 1000 := le_t.1 ((fat hf 29 rfl))
  have z1000 : E.i 1000 ≤ 255 := le_t.1 ((fat hf 30 rfl))
  have a1004 : 0 ≤ E.i 1004 := le_t.1 ((fat hf 17 rfl))
  have z1004 : E.i 1004 ≤ 255 := le_t.1 ((fat hf 18 rfl))
  have a1008 : 0 ≤ E.i 1008 := le_t.1 ((fat hf 1 rfl))
  have z1008 : E.i 1008 ≤ 255 := le_t.1 ((fat hf 2 rfl))
  have o0 : 0 ≤ E.i 1009 := le_t.1 ((fat hf 3 rfl))
  have o1 : E.i 1009 ≤ 4294967296 := le_t.1 ((fat hf 4 rfl))
  have l0 : 0 ≤ E.i 1010 := le_t.1 ((fat hf 5 rfl))
  have l1 : E.i 1010 ≤ 4294967296 := le_t.1 ((fat hf 6 rfl))
  have c0 : 0 ≤ E.i 1011 := le_t.1 ((fat hf 7 rfl))
  have c1 : E.i 1011 ≤ 9223372036854775807 := le_t.1 ((fat hf 8 rfl))
  have lc : E.i 1010 ≤ E.i 1011 := le_t.1 ((fat hf 9 rfl))
  have ol : E.i 1009 + E.i 1010 ≤ E.i 50 := le_t.1 ((fat hf 10 rfl))
  have m1002 : E.i 1002 ≤ E.i 52 := le_t.1 ((fat hf 39 rfl))
  have m1006 : E.i 1006 ≤ E.i 1002 := le_t.1 ((fat hf 27 rfl))
  have m1010 : E.i 1010 ≤ E.i 1006 := le_t.1 ((fat hf 11 rfl))
  have st : ¬ (0 < E.i 52 ∧ E.i 52 ≤ E.i 1002) := by
    have := (fat hf 40 rfl)
    simpa only [and_f, lt_t, not_t, lt_f, d_c, d_v] using this
  have tt := t6 hp hag ⟨a1000, z1000⟩ ⟨a1004, z1004⟩
  have e50 : E.i 50 = E0.i 50 := hag.i 50 (by decide)
  have e52 : E.i 52 = E0.i 52 := hag.i 52 (by decide)
  have e0 : E.i 0 = E0.i 0 := hag.i 0 (by decide)
  have e2 : E.i 2 = E0.i 2 := hag.i 2 (by decide)
  have e7 : E.i 7 = E0.i 7 := hag.i 7 (by decide)
  have e8 : E.i 8 = E0.i 8 := hag.i 8 (by decide)
  have e12 : E.b 12 = E0.b 12 := hag.b 12 (by decide)
  have gn : ke23.den E = 0 := eq_t.1 ((fat hf 0 rfl))
  have k0 : ke2.den E = 1 := eq_t.1 ((fat hf 13 rfl))
  have k1 : ke2.den E ≠ 0 := eq_f.1 ((fat hf 14 rfl))
  obtain ⟨⟨tk0, tk1⟩, ⟨tS0, tS1⟩, ⟨⟨⟨ph0, ph1⟩, ⟨pr0, pr1⟩, ⟨pw0, pw1⟩, _, _, _, _, ⟨ps0, ps1⟩, ⟨pl0, pl1⟩, _⟩, ph, prh, psl, _, ⟨pg0, pg1⟩⟩, r5, r14, r23, r33, r39, r41⟩ := tt
  obtain ⟨n0, n1, xl1, ⟨x0, x0b⟩, ⟨x2, x2b⟩, ⟨x7, x7b⟩, ⟨x8, x8b⟩, x78, x02, _, ⟨xn, xnb⟩⟩ := hp
  have q35 : ke35.den E = ke5.den E - ke33.den E := w64 (n := ke5.den E - ke33.den E) (by omega)
  have q6 : ke6.den E = E.i 1008 * 2 := rfl
  have q36 : ke36.den E = min (ke35.den E) (ke6.den E) := imn_min _ _
  refine ⟨rfl, V6 E (ke2.den E) (ke3.den E) (ke36.den E) (0) (E.i 1009) (E.i 1010) (E.i 1011) false true, ?_, x6 (E0 := E0) hag ?_ ?_ ?_ ?_ ?_ ?_ ?_ ?_ ?_ ?_ ?_ ?_ ?_ ?_ ?_ ?_ ?_ ?_⟩
  · exact List.forall_mem_cons.2 ⟨rfl, List.forall_mem_cons.2 ⟨rfl, List.forall_mem_cons.2 ⟨rfl, List.forall_mem_cons.2 ⟨rfl, List.forall_mem_cons.2 ⟨hag.i 64 (by decide), List.forall_mem_cons.2 ⟨rfl, List.forall_mem_cons.2 ⟨rfl, List.forall_mem_cons.2 ⟨fun j _ => by rw [d_av, d_av]; exact congrFun (hag.a 5 (by decide)) j, List.forall_mem_cons.2 ⟨hag.i 50 (by decide), List.forall_mem_cons.2 ⟨rfl, List.forall_mem_cons.2 ⟨rfl, List.forall_mem_cons.2 ⟨rfl, List.forall_mem_cons.2 ⟨hag.i 0 (by decide), List.forall_mem_cons.2 ⟨hag.i 1 (by decide), List.forall_mem_cons.2 ⟨hag.i 2 (by decide), List.forall_mem_cons.2 ⟨hag.i 3 (by decide), List.forall_mem_cons.2 ⟨hag.i 4 (by decide), List.forall_mem_cons.2 ⟨hag.i 5 (by decide), List.forall_mem_cons.2 ⟨hag.i 6 (by decide), List.forall_mem_cons.2 ⟨hag.i 7 (by decide), List.forall_mem_cons.2 ⟨hag.i 8 (by decide), List.forall_mem_cons.2 ⟨hag.i 9 (by decide), List.forall_mem_cons.2 ⟨hag.b 10 (by decide), List.forall_mem_cons.2 ⟨hag.b 11 (by decide), List.forall_mem_cons.2 ⟨hag.i 40 (by decide), List.forall_mem_cons.2 ⟨hag.b 12 (by decide), List.forall_mem_cons.2 ⟨fun j _ => by rw [d_av, d_av]; exact congrFun (hag.a 0 (by decide)) j, List.forall_mem_cons.2 ⟨hag.i 41 (by decide), fun q hq => by cases hq⟩⟩⟩⟩⟩⟩⟩⟩⟩⟩⟩⟩⟩⟩⟩⟩⟩⟩⟩⟩⟩⟩⟩⟩⟩⟩⟩⟩
  · omega
  · omega
  · omega
  · omega
  · omega
  · omega
  · omega
  · omega
  · omega
  · omega
  · omega
  · intro _ h; exact (h (r23 ▸ gn)).elim
  · intro h; omega
  · intro h; omega
  · intro h; omega
  · intro h; omega
  · intro h; omega
  · omega
theorem w_kx5 {E0 E : Env} (hp : Pre6 E0) (hag : AgE 1000 E0 E) : VOkX [] ct6 (fun _ _ _ => True) (fun _ _ _ => 0) none E0 E kx5 := by
  intro hf
  have a1000 : 0 ≤ E.i 1000 := le_t.1 ((fat hf 29 rfl))
  have z1000 : E.i 1000 ≤ 255 := le_t.1 ((fat hf 30 rfl))
  have a1004 : 0 ≤ E.i 1004 := le_t.1 ((fat hf 17 rfl))
  have z1004 : E.i 1004 ≤ 255 := le_t.1 ((fat hf 18 rfl))
  have a1008 : 0 ≤ E.i 1008 := le_t.1 ((fat hf 1 rfl))
  have z1008 : E.i 1008 ≤ 255 := le_t.1 ((fat hf 2 rfl))
  have o0 : 0 ≤ E.i 1009 := le_t.1 ((fat hf 3 rfl))
  have o1 : E.i 1009 ≤ 4294967296 := le_t.1 ((fat hf 4 rfl))
  have l0 : 0 ≤ E.i 1010 := le_t.1 ((fat hf 5 rfl))
  have l1 : E.i 1010 ≤ 4294967296 := le_t.1 ((fat hf 6 rfl))
  have c0 : 0 ≤ E.i 1011 := le_t.1 ((fat hf 7 rfl))
  have c1 : E.i 1011 ≤ 9223372036854775807 := le_t.1 ((fat hf 8 rfl))
  have lc : E.i 1010 ≤ E.i 1011 := le_t.1 ((fat hf 9 rfl))
  have ol : E.i 1009 + E.i 1010 ≤ E.i 50 := le_t.1 ((fat hf 10 rfl))
  have m1002 : E.i 1002 ≤ E.i 52 := le_t.1 ((fat hf 39 rfl))
  have m1006 : E.i 1006 ≤ E.i 1002 := le_t.1 ((fat hf 27 rfl))
  have m1010 : E.i 1010 ≤ E.i 1006 := le_t.1 ((fat hf 11 rfl))
  have st : ¬ (0 < E.i 52 ∧ E.i 52 ≤ E.i 1002) := by
    have := (fat hf 40 rfl)
    simpa only [and_f, lt_t, not_t, lt_f, d_c, d_v] using this
  have tt := t6 hp hag ⟨a1000, z1000⟩ ⟨a1004, z1004⟩
  have e50 : E.i 50 = E0.i 50 := hag.i 50 (by decide)
  have e52 : E.i 52 = E0.i 52 := hag.i 52 (by decide)
  have e0 : E.i 0 = E0.i 0 := hag.i 0 (by decide)
  have e2 : E.i 2 = E0.i 2 := hag.i 2 (by decide)
  have e7 : E.i 7 = E0.i 7 := hag.i 7 (by decide)
  have e8 : E.i 8 = E0.i 8 := hag.i 8 (by decide)
  have e12 : E.b 12 = E0.b 12 := hag.b 12 (by decide)
  have gn : ke23.den E ≠ 0 := eq_f.1 ((fat hf 0 rfl))
  have k0 : ke2.den E = 1 := eq_t.1 ((fat hf 13 rfl))
  have k1 : ke2.den E ≠ 0 := eq_f.1 ((fat hf 14 rfl))
  obtain ⟨⟨tk0, tk1⟩, ⟨tS0, tS1⟩, ⟨⟨⟨ph0, ph1⟩, ⟨pr0, pr1⟩, ⟨pw0, pw1⟩, _, _, _, _, ⟨ps0, ps1⟩, ⟨pl0, pl1⟩, _⟩, ph, prh, psl, _, ⟨pg0, pg1⟩⟩, r5, r14, r23, r33, r39, r41⟩ := tt
  obtain ⟨n0, n1, xl1, ⟨x0, x0b⟩, ⟨x2, x2b⟩, ⟨x7, x7b⟩, ⟨x8, x8b⟩, x78, x02, _, ⟨xn, xnb⟩⟩ := hp
  have q35 : ke35.den E = ke5.den E - ke33.den E := w64 (n := ke5.den E - ke33.den E) (by omega)
  have q6 : ke6.den E = E.i 1008 * 2 := rfl
  have q36 : ke36.den E = min (ke35.den E) (ke6.den E) := imn_min _ _
  refine ⟨rfl, V6 E (ke2.den E) (ke3.den E) (ke36.den E) (0) (E.i 1009) (E.i 1010) (E.i 1011) false false, ?_, x6 (E0 := E0) hag ?_ ?_ ?_ ?_ ?_ ?_ ?_ ?_ ?_ ?_ ?_ ?_ ?_ ?_ ?_ ?_ ?_ ?_⟩
  · exact List.forall_mem_cons.2 ⟨rfl, List.forall_mem_cons.2 ⟨rfl, List.forall_mem_cons.2 ⟨rfl, List.forall_mem_cons.2 ⟨rfl, List.forall_mem_cons.2 ⟨hag.i 64 (by decide), List.forall_mem_cons.2 ⟨rfl, List.forall_mem_cons.2 ⟨rfl, List.forall_mem_cons.2 ⟨fun j _ => by rw [d_av, d_av]; exact congrFun (hag.a 5 (by decide)) j, List.forall_mem_cons.2 ⟨hag.i 50 (by decide), List.forall_mem_cons.2 ⟨rfl, List.forall_mem_cons.2 ⟨rfl, List.forall_mem_cons.2 ⟨rfl, List.forall_mem_cons.2 ⟨hag.i 0 (by decide), List.forall_mem_cons.2 ⟨hag.i 1 (by decide), List.forall_mem_cons.2 ⟨hag.i 2 (by decide), List.forall_mem_cons.2 ⟨hag.i 3 (by decide), List.forall_mem_cons.2 ⟨hag.i 4 (by decide), List.forall_mem_cons.2 ⟨hag.i 5 (by decide), List.forall_mem_cons.2 ⟨hag.i 6 (by decide), List.forall_mem_cons.2 ⟨hag.i 7 (by decide), List.forall_mem_cons.2 ⟨hag.i 8 (by decide), List.forall_mem_cons.2 ⟨hag.i 9 (by decide), List.forall_mem_cons.2 ⟨hag.b 10 (by decide), List.forall_mem_cons.2 ⟨hag.b 11 (by decide), List.forall_mem_cons.2 ⟨hag.i 40 (by decide), List.forall_mem_cons.2 ⟨hag.b 12 (by decide), List.forall_mem_cons.2 ⟨fun j _ => by rw [d_av, d_av]; exact congrFun (hag.a 0 (by decide)) j, List.forall_mem_cons.2 ⟨hag.i 41 (by decide), fun q hq => by cases hq⟩⟩⟩⟩⟩⟩⟩⟩⟩⟩⟩⟩⟩⟩⟩⟩⟩⟩⟩⟩⟩⟩⟩⟩⟩⟩⟩⟩
  · omega
  · omega
  · omega
  · omega
  · omega
  · omega
  · omega
  · omega
  · omega
  · omega
  · omega
  · intro h; cases h
  · intro h; omega
  · intro h; omega
  · intro h; omega
  · intro h; omega
  · intro h; omega
  · omega
theorem w_kx6 {E0 E : Env} (hp : Pre6 E0) (hag : AgE 1000 E0 E) : VOkX [] ct6 (fun _ _ _ => True) (fun _ _ _ => 0) none E0 E kx6 := by
  intro hf
  have a1000 : 0 ≤ E.i 1000 := le_t.1 ((fat hf 30 rfl))
  have z1000 : E.i 1000 ≤ 255 := le_t.1 ((fat hf 31 rfl))
  have a1004 : 0 ≤ E.i 1004 := le_t.1 ((fat hf 18 rfl))
  have z1004 : E.i 1004 ≤ 255 := le_t.1 ((fat hf 19 rfl))
  have a1008 : 0 ≤ E.i 1008 := le_t.1 ((fat hf 1 rfl))
  have z1008 : E.i 1008 ≤ 255 := le_t.1 ((fat hf 2 rfl))
  have o0 : 0 ≤ E.i 1009 := le_t.1 ((fat hf 3 rfl))
  have o1 : E.i 1009 ≤ 4294967296 := le_t.1 ((fat hf 4 rfl))
  have l0 : 0 ≤ E.i 1010 := le_t.1 ((fat hf 5 rfl))
  have l1 : E.i 1010 ≤ 4294967296 := le_t.1 ((fat hf 6 rfl))
  have c0 : 0 ≤ E.i 1011 := le_t.1 ((fat hf 7 rfl))
  have c1 : E.i 1011 ≤ 9223372036854775807 := le_t.1 ((fat hf 8 rfl))
  have lc : E.i 1010 ≤ E.i 1011 := le_t.1 ((fat hf 9 rfl))
  have ol : E.i 1009 + E.i 1010 ≤ E.i 50 := le_t.1 ((fat hf 10 rfl))
  have m1002 : E.i 1002 ≤ E.i 52 := le_t.1 ((fat hf 40 rfl))
  have m1006 : E.i 1006 ≤ E.i 1002 := le_t.1 ((fat hf 28 rfl))
  have m1010 : E.i 1010 ≤ E.i 1006 := le_t.1 ((fat hf 11 rfl))
  have st : ¬ (0 < E.i 52 ∧ E.i 52 ≤ E.i 1002) := by
    have := (fat hf 41 rfl)
    simpa only [and_f, lt_t, not_t, lt_f, d_c, d_v] using this
  have tt := t6 hp hag ⟨a1000, z1000⟩ ⟨a1004, z1004⟩
  have e50 : E.i 50 = E0.i 50 := hag.i 50 (by decide)
  have e52 : E.i 52 = E0.i 52 := hag.i 52 (by decide)
  have e0 : E.i 0 = E0.i 0 := hag.i 0 (by decide)
  have e2 : E.i 2 = E0.i 2 := hag.i 2 (by decide)
  have e7 : E.i 7 = E0.i 7 := hag.i 7 (by decide)
  have e8 : E.i 8 = E0.i 8 := hag.i 8 (by decide)
  have e12 : E.b 12 = E0.b 12 := hag.b 12 (by decide)
  have gn : ke23.den E = 0 := eq_t.1 ((fat hf 0 rfl))
  have k0 : ke2.den E = 5 := eq_t.1 ((fat hf 13 rfl))
  have k1 : ke2.den E ≠ 1 := eq_f.1 ((fat hf 14 rfl))
  have k2 : ke2.den E ≠ 0 := eq_f.1 ((fat hf 15 rfl))
  obtain ⟨⟨tk0, tk1⟩, ⟨tS0, tS1⟩, ⟨⟨⟨ph0, ph1⟩, ⟨pr0, pr1⟩, ⟨pw0, pw1⟩, _, _, _, _, ⟨ps0, ps1⟩, ⟨pl0, pl1⟩, _⟩, ph, prh, psl, _, ⟨pg0, pg1⟩⟩, r5, r14, r23, r33, r39, r41⟩ := tt
  obtain ⟨n0, n1, xl1, ⟨x0, x0b⟩, ⟨x2, x2b⟩, ⟨x7, x7b⟩, ⟨x8, x8b⟩, x78, x02, _, ⟨xn, xnb⟩⟩ := hp
  have q37 : ke37.den E = E.i 1008 * 8 := rfl
  refine ⟨rfl, V6 E (ke2.den E) (ke3.den E) (ke37.den E) (0) (E.i 1009) (E.i 1010) (E.i 1011) false true, ?_, x6 (E0 := E0) hag ?_ ?_ ?_ ?_ ?_ ?_ ?_ ?_ ?_ ?_ ?_ ?_ ?_ ?_ ?_ ?_ ?_ ?_⟩
  · exact List.forall_mem_cons.2 ⟨rfl, List.forall_mem_cons.2 ⟨rfl, List.forall_mem_cons.2 ⟨rfl, List.forall_mem_cons.2 ⟨rfl, List.forall_mem_cons.2 ⟨hag.i 64 (by decide), List.forall_mem_cons.2 ⟨rfl, List.forall_mem_cons.2 ⟨rfl, List.forall_mem_cons.2 ⟨fun j _ => by rw [d_av, d_av]; exact congrFun (hag.a 5 (by decide)) j, List.forall_mem_cons.2 ⟨hag.i 50 (by decide), List.forall_mem_cons.2 ⟨rfl, List.forall_mem_cons.2 ⟨rfl, List.forall_mem_cons.2 ⟨rfl, List.forall_mem_cons.2 ⟨hag.i 0 (by decide), List.forall_mem_cons.2 ⟨hag.i 1 (by decide), List.forall_mem_cons.2 ⟨hag.i 2 (by decide), List.forall_mem_cons.2 ⟨hag.i 3 (by decide), List.forall_mem_cons.2 ⟨hag.i 4 (by decide), List.forall_mem_cons.2 ⟨hag.i 5 (by decide), List.forall_mem_cons.2 ⟨hag.i 6 (by decide), List.forall_mem_cons.2 ⟨hag.i 7 (by decide), List.forall_mem_cons.2 ⟨hag.i 8 (by decide), List.forall_mem_cons.2 ⟨hag.i 9 (by decide), List.forall_mem_cons.2 ⟨hag.b 10 (by decide), List.forall_mem_cons.2 ⟨hag.b 11 (by decide), List.forall_mem_cons.2 ⟨hag.i 40 (by decide), List.forall_mem_cons.2 ⟨hag.b 12 (by decide), List.forall_mem_cons.2 ⟨fun j _ => by rw [d_av, d_av]; exact congrFun (hag.a 0 (by decide)) j, List.forall_mem_cons.2 ⟨hag.i 41 (by decide), fun q hq => by cases hq⟩⟩⟩⟩⟩⟩⟩⟩⟩⟩⟩⟩⟩⟩⟩⟩⟩⟩⟩⟩⟩⟩⟩⟩⟩⟩⟩⟩
  · omega
  · omega
  · omega
  · omega
  · omega
  · omega
  · omega
  · omega
  · omega
  · omega
  · omega
  · intro _ h; exact (h (r23 ▸ gn)).elim
  · intro h; omega
  · intro h; omega
  · intro h; omega
  · intro h; omega
  · intro h; omega
  · omega
theorem w_kx7 {E0 E : Env} (hp : Pre6 E0) (hag : AgE 1000 E0 E) : VOkX [] ct6 (fun _ _ _ => True) (fun _ _ _ => 0) none E0 E kx7 := by
  intro hf
  have a1000 : 0 ≤ E.i 1000 := le_t.1 ((fat hf 30 rfl))
  have z1000 : E.i 1000 ≤ 255 := le_t.1 ((fat hf 31 rfl))
  have a1004 : 0 ≤ E.i 1004 := le_t.1 ((fat hf 18 rfl))
  have z1004 : E.i 1004 ≤ 255 := le_t.1 ((fat hf 19 rfl))
  have a1008 : 0 ≤ E.i 1008 := le_t.1 ((fat hf 1 rfl))
  have z1008 : E.i 1008 ≤ 255 := le_t.1 ((fat hf 2 rfl))
  have o0 : 0 ≤ E.i 1009 := le_t.1 ((fat hf 3 rfl))
  have o1 : E.i 1009 ≤ 4294967296 := le_t.1 ((fat hf 4 rfl))
  have l0 : 0 ≤ E.i 1010 := le_t.1 ((fat hf 5 rfl))
  have l1 : E.i 1010 ≤ 4294967296 := le_t.1 ((fat hf 6 rfl))
  have c0 : 0 ≤ E.i 1011 := le_t.1 ((fat hf 7 rfl))
  have c1 : E.i 1011 ≤ 9223372036854775807 := le_t.1 ((fat hf 8 rfl))
  have lc : E.i 1010 ≤ E.i 1011 := le_t.1 ((fat hf 9 rfl))
  have ol : E.i 1009 + E.i 1010 ≤ E.i 50 := le_t.1 ((fat hf 10 rfl))
  have m1002 : E.i 1002 ≤ E.i 52 := le_t.1 ((fat hf 40 rfl))
  have m1006 : E.i 1006 ≤ E.i 1002 := le_t.1 ((fat hf 28 rfl))
  have m1010 : E.i 1010 ≤ E.i 1006 := le_t.1 ((fat hf 11 rfl))
  have st : ¬ (0 < E.i 52 ∧ E.i 52 ≤ E.i 1002) := by
    have := (fat hf 41 rfl)
    simpa only [and_f, lt_t, not_t, lt_f, d_c, d_v] using this
  have tt := t6 hp hag ⟨a1000, z1000⟩ ⟨a1004, z1004⟩
  have e50 : E.i 50 = E0.i 50 := hag.i 50 (by decide)
  have e52 : E.i 52 = E0.i 52 := hag.i 52 (by decide)
  have e0 : E.i 0 = E0.i 0 := hag.i 0 (by decide)
  have e2 : E.i 2 = E0.i 2 := hag.i 2 (by decide)
  have e7 : E.i 7 = E0.i 7 := hag.i 7 (by decide)
  have e8 : E.i 8 = E0.i 8 := hag.i 8 (by decide)
  have e12 : E.b 12 = E0.b 12 := hag.b 12 (by decide)
  have gn : ke23.den E ≠ 0 := eq_f.1 ((fat hf 0 rfl))
  have k0 : ke2.den E = 5 := eq_t.1 ((fat hf 13 rfl))
  have k1 : ke2.den E ≠ 1 := eq_f.1 ((fat hf 14 rfl))
  have k2 : ke2.den E ≠ 0 := eq_f.1 ((fat hf 15 rfl))
  obtain ⟨⟨tk0, tk1⟩, ⟨tS0, tS1⟩, ⟨⟨⟨ph0, ph1⟩, ⟨pr0, pr1⟩, ⟨pw0, pw1⟩, _, _, _, _, ⟨ps0, ps1⟩, ⟨pl0, pl1⟩, _⟩, ph, prh, psl, _, ⟨pg0, pg1⟩⟩, r5, r14, r23, r33, r39, r41⟩ := tt
  obtain ⟨n0, n1, xl1, ⟨x0, x0b⟩, ⟨x2, x2b⟩, ⟨x7, x7b⟩, ⟨x8, x8b⟩, x78, x02, _, ⟨xn, xnb⟩⟩ := hp
  have q37 : ke37.den E = E.i 1008 * 8 := rfl
  refine ⟨rfl, V6 E (ke2.den E) (ke3.den E) (ke37.den E) (0) (E.i 1009) (E.i 1010) (E.i 1011) false true, ?_, x6 (E0 := E0) hag ?_ ?_ ?_ ?_ ?_ ?_ ?_ ?_ ?_ ?_ ?_ ?_ ?_ ?_ ?_ ?_ ?_ ?_⟩
  · exact List.forall_mem_cons.2 ⟨rfl, List.forall_mem_cons.2 ⟨rfl, List.forall_mem_cons.2 ⟨rfl, List.forall_mem_cons.2 ⟨rfl, List.forall_mem_cons.2 ⟨hag.i 64 (by decide), List.forall_mem_cons.2 ⟨rfl, List.forall_mem_cons.2 ⟨rfl, List.forall_mem_cons.2 ⟨fun j _ => by rw [d_av, d_av]; exact congrFun (hag.a 5 (by decide)) j, List.forall_mem_cons.2 ⟨hag.i 50 (by decide), List.forall_mem_cons.2 ⟨rfl, List.forall_mem_cons.2 ⟨rfl, List.forall_mem_cons.2 ⟨rfl, List.forall_mem_cons.2 ⟨hag.i 0 (by decide), List.forall_mem_cons.2 ⟨hag.i 1 (by decide), List.forall_mem_cons.2 ⟨hag.i 2 (by decide), List.forall_mem_cons.2 ⟨hag.i 3 (by decide), List.forall_mem_cons.2 ⟨hag.i 4 (by decide), List.forall_mem_cons.2 ⟨hag.i 5 (by decide), List.forall_mem_cons.2 ⟨hag.i 6 (by decide), List.forall_mem_cons.2 ⟨hag.i 7 (by decide), List.forall_mem_cons.2 ⟨hag.i 8 (by decide), List.forall_mem_cons.2 ⟨hag.i 9 (by decide), List.forall_mem_cons.2 ⟨hag.b 10 (by decide), List.forall_mem_cons.2 ⟨hag.b 11 (by decide), List.forall_mem_cons.2 ⟨hag.i 40 (by decide), List.forall_mem_cons.2 ⟨hag.b 12 (by decide), List.forall_mem_cons.2 ⟨fun j _ => by rw [d_av, d_av]; exact congrFun (hag.a 0 (by decide)) j, List.forall_mem_cons.2 ⟨hag.i 41 (by decide), fun q hq => by cases hq⟩⟩⟩⟩⟩⟩⟩⟩⟩⟩⟩⟩⟩⟩⟩⟩⟩⟩⟩⟩⟩⟩⟩⟩⟩⟩⟩⟩
  · omega
  · omega
  · omega
  · omega
  · omega
  · omega
  · omega
  · omega
  · omega
  · omega
  · omega
  · intro _ _; omega
  · intro h; omega
  · intro h; omega
  · intro h; omega
  · intro h; omega
  · intro h; omega
  · omega
theorem w_kx8 {E0 E : Env} (hp : Pre6 E0) (hag : AgE 1000 E0 E) : VOkX [] ct6 (fun _ _ _ => True) (fun _ _ _ => 0) none E0 E kx8 := by
  intro hf
  have a1000 : 0 ≤ E.i 1000 := le_t.1 ((fat hf 31 rfl))
  have z1000 : E.i 1000 ≤ 255 := le_t.1 ((fat hf 32 rfl))
  have a1004 : 0 ≤ E.i 1004 := le_t.1 ((fat hf 19 rfl))
  have z1004 : E.i 1004 ≤ 255 := le_t.1 ((fat hf 20 rfl))
  have a1008 : 0 ≤ E.i 1008 := le_t.1 ((fat hf 1 rfl))
  have z1008 : E.i 1008 ≤ 255 := le_t.1 ((fat hf 2 rfl))
  have o0 : 0 ≤ E.i 1009 := le_t.1 ((fat hf 3 rfl))
  have o1 : E.i 1009 ≤ 4294967296 := le_t.1 ((fat hf 4 rfl))
  have l0 : 0 ≤ E.i 1010 := le_t.1 ((fat hf 5 rfl))
  have l1 : E.i 1010 ≤ 4294967296 := le_t.1 ((fat hf 6 rfl))
  have c0 : 0 ≤ E.i 1011 := le_t.1 ((fat hf 7 rfl))
  have c1 : E.i 1011 ≤ 9223372036854775807 := le_t.1 ((fat hf 8 rfl))
  have lc : E.i 1010 ≤ E.i 1011 := le_t.1 ((fat hf 9 rfl))
  have ol : E.i 1009 + E.i 1010 ≤ E.i 50 := le_t.1 ((fat hf 10 rfl))
  have m1002 : E.i 1002 ≤ E.i 52 := le_t.1 ((fat hf 41 rfl))
  have m1006 : E.i 1006 ≤ E.i 1002 := le_t.1 ((fat hf 29 rfl))
  have m1010 : E.i 1010 ≤ E.i 1006 := le_t.1 ((fat hf 11 rfl))
  have st : ¬ (0 < E.i 52 ∧ E.i 52 ≤ E.i 1002) := by
    have := (fat hf 42 rfl)
    simpa only [and_f, lt_t, not_t, lt_f, d_c, d_v] using this
  have tt := t6 hp hag ⟨a1000, z1000⟩ ⟨a1004, z1004⟩
  have e50 : E.i 50 = E0.i 50 := hag.i 50 (by decide)
  have e52 : E.i 52 = E0.i 52 := hag.i 52 (by decide)
  have e0 : E.i 0 = E0.i 0 := hag.i 0 (by decide)
  have e2 : E.i 2 = E0.i 2 := hag.i 2 (by decide)
  have e7 : E.i 7 = E0.i 7 := hag.i 7 (by decide)
  have e8 : E.i 8 = E0.i 8 := hag.i 8 (by decide)
  have e12 : E.b 12 = E0.b 12 := hag.b 12 (by decide)
  have gn : ke23.den E = 0 := eq_t.1 ((fat hf 0 rfl))
  have k0 : ke2.den E = 6 := eq_t.1 ((fat hf 13 rfl))
  have k1 : ke2.den E ≠ 5 := eq_f.1 ((fat hf 14 rfl))
  have k2 : ke2.den E ≠ 1 := eq_f.1 ((fat hf 15 rfl))
  have k3 : ke2.den E ≠ 0 := eq_f.1 ((fat hf 16 rfl))
  obtain ⟨⟨tk0, tk1⟩, ⟨tS0, tS1⟩, ⟨⟨⟨ph0, ph1⟩, ⟨pr0, pr1⟩, ⟨pw0, pw1⟩, _, _, _, _, ⟨ps0, ps1⟩, ⟨pl0, pl1⟩, _⟩, ph, prh, psl, _, ⟨pg0, pg1⟩⟩, r5, r14, r23, r33, r39, r41⟩ := tt
  obtain ⟨n0, n1, xl1, ⟨x0, x0b⟩, ⟨x2, x2b⟩, ⟨x7, x7b⟩, ⟨x8, x8b⟩, x78, x02, _, ⟨xn, xnb⟩⟩ := hp
  have q37 : ke37.den E = E.i 1008 * 8 := rfl
  refine ⟨rfl, V6 E (ke2.den E) (ke3.den E) (ke37.den E) (0) (E.i 1009) (E.i 1010) (E.i 1011) false true, ?_, x6 (E0 := E0) hag ?_ ?_ ?_ ?_ ?_ ?_ ?_ ?_ ?_ ?_ ?_ ?_ ?_ ?_ ?_ ?_ ?_ ?_⟩
  · exact List.forall_mem_cons.2 ⟨rfl, List.forall_mem_cons.2 ⟨rfl, List.forall_mem_cons.2 ⟨rfl, List.forall_mem_cons.2 ⟨rfl, List.forall_mem_cons.2 ⟨hag.i 64 (by decide), List.forall_mem_cons.2 ⟨rfl, List.forall_mem_cons.2 ⟨rfl, List.forall_mem_cons.2 ⟨fun j _ => by rw [d_av, d_av]; exact congrFun (hag.a 5 (by decide)) j, List.forall_mem_cons.2 ⟨hag.i 50 (by decide), List.forall_mem_cons.2 ⟨rfl, List.forall_mem_cons.2 ⟨rfl, List.forall_mem_cons.2 ⟨rfl, List.forall_mem_cons.2 ⟨hag.i 0 (by decide), List.forall_mem_cons.2 ⟨hag.i 1 (by decide), List.forall_mem_cons.2 ⟨hag.i 2 (by decide), List.forall_mem_cons.2 ⟨hag.i 3 (by decide), List.forall_mem_cons.2 ⟨hag.i 4 (by decide), List.forall_mem_cons.2 ⟨hag.i 5 (by decide), List.forall_mem_cons.2 ⟨hag.i 6 (by decide), List.forall_mem_cons.2 ⟨hag.i 7 (by decide), List.forall_mem_cons.2 ⟨hag.i 8 (by decide), List.forall_mem_cons.2 ⟨hag.i 9 (by decide), List.forall_mem_cons.2 ⟨hag.b 10 (by decide), List.forall_mem_cons.2 ⟨hag.b 11 (by decide), List.forall_mem_cons.2 ⟨hag.i 40 (by decide), List.forall_mem_cons.2 ⟨hag.b 12 (by decide), List.forall_mem_cons.2 ⟨fun j _ => by rw [d_av, d_av]; exact congrFun (hag.a 0 (by decide)) j, List.forall_mem_cons.2 ⟨hag.i 41 (by decide), fun q hq => by cases hq⟩⟩⟩⟩⟩⟩⟩⟩⟩⟩⟩⟩⟩⟩⟩⟩⟩⟩⟩⟩⟩⟩⟩⟩⟩⟩⟩⟩
  · omega
  · omega
  · omega
  · omega
  · omega
  · omega
  · omega
  · omega
  · omega
  · omega
  · omega
  · intro _ h; exact (h (r23 ▸ gn)).elim
  · intro h; omega
  · intro h; omega
  · intro h; omega
  · intro h; omega
  · intro h; omega
  · omega
theorem w_kx9 {E0 E : Env} (hp : Pre6 E0) (hag : AgE 1000 E0 E) : VOkX [] ct6 (fun _ _ _ => True) (fun _ _ _ => 0) none E0 E kx9 := by
  intro hf
  have a1000 : 0 ≤ E.i 1000 := le_t.1 ((fat hf 31 rfl))
  have z1000 : E.i 1000 ≤ 255 := le_t.1 ((fat hf 32 rfl))
  have a1004 : 0 ≤ E.i 1004 := le_t.1 ((fat hf 19 rfl))
  have z1004 : E.i 1004 ≤ 255 := le_t.1 ((fat hf 20 rfl))
  have a1008 : 0 ≤ E.i 1008 := le_t.1 ((fat hf 1 rfl))
  have z1008 : E.i 1008 ≤ 255 := le_t.1 ((fat hf 2 rfl))
  have o0 : 0 ≤ E.i 1009 := le_t.1 ((fat hf 3 rfl))
  have o1 : E.i 1009 ≤ 4294967296 := le_t.1 ((fat hf 4 rfl))
  have l0 : 0 ≤ E.i 1010 := le_t.1 ((fat hf 5 rfl))
  have l1 : E.i 1010 ≤ 4294967296 := le_t.1 ((fat hf 6 rfl))
  have c0 : 0 ≤ E.i 1011 := le_t.1 ((fat hf 7 rfl))
  have c1 : E.i 1011 ≤ 9223372036854775807 := le_t.1 ((fat hf 8 rfl))
  have lc : E.i 1010 ≤ E.i 1011 := le_t.1 ((fat hf 9 rfl))
  have ol : E.i 1009 + E.i 1010 ≤ E.i 50 := le_t.1 ((fat hf 10 rfl))
  have m1002 : E.i 1002 ≤ E.i 52 := le_t.1 ((fat hf 41 rfl))
  have m1006 : E.i 1006 ≤ E.i 1002 := le_t.1 ((fat hf 29 rfl))
  have m1010 : E.i 1010 ≤ E.i 1006 := le_t.1 ((fat hf 11 rfl))
  have st : ¬ (0 < E.i 52 ∧ E.i 52 ≤ E.i 1002) := by
    have := (fat hf 42 rfl)
    simpa only [and_f, lt_t, not_t, lt_f, d_c, d_v] using this
  have tt := t6 hp hag ⟨a1000, z1000⟩ ⟨a1004, z1004⟩
  have e50 : E.i 50 = E0.i 50 := hag.i 50 (by decide)
  have e52 : E.i 52 = E0.i 52 := hag.i 52 (by decide)
  have e0 : E.i 0 = E0.i 0 := hag.i 0 (by decide)
  have e2 : E.i 2 = E0.i 2 := hag.i 2 (by decide)
  have e7 : E.i 7 = E0.i 7 := hag.i 7 (by decide)
  have e8 : E.i 8 = E0.i 8 := hag.i 8 (by decide)
  have e12 : E.b 12 = E0.b 12 := hag.b 12 (by decide)
  have gn : ke23.den E ≠ 0 := eq_f.1 ((fat hf 0 rfl))
  have k0 : ke2.den E = 6 := eq_t.1 ((fat hf 13 rfl))
  have k1 : ke2.den E ≠ 5 := eq_f.1 ((fat hf 14 rfl))
  have k2 : ke2.den E ≠ 1 := eq_f.1 ((fat hf 15 rfl))
  have k3 : ke2.den E ≠ 0 := eq_f.1 ((fat hf 16 rfl))
  obtain ⟨⟨tk0, tk1⟩, ⟨tS0, tS1⟩, ⟨⟨⟨ph0, ph1⟩, ⟨pr0, pr1⟩, ⟨pw0, pw1⟩, _, _, _, _, ⟨ps0, ps1⟩, ⟨pl0, pl1⟩, _⟩, ph, prh, psl, _, ⟨pg0, pg1⟩⟩, r5, r14, r23, r33, r39, r41⟩ := tt
  obtain ⟨n0, n1, xl1, ⟨x0, x0b⟩, ⟨x2, x2b⟩, ⟨x7, x7b⟩, ⟨x8, x8b⟩, x78, x02, _, ⟨xn, xnb⟩⟩ := hp
  have q37 : ke37.den E = E.i 1008 * 8 := rfl
  refine ⟨rfl, V6 E (ke2.den E) (ke3.den E) (ke37.den E) (0) (E.i 1009) (E.i 1010) (E.i 1011) false true, ?_, x6 (E0 := E0) hag ?_ ?_ ?_ ?_ ?_ ?_ ?_ ?_ ?_ ?_ ?_ ?_ ?_ ?_ ?_ ?_ ?_ ?_⟩
  · exact List.forall_mem_cons.2 ⟨rfl, List.forall_mem_cons.2 ⟨rfl, List.forall_mem_cons.2 ⟨rfl, List.forall_mem_cons.2 ⟨rfl, List.forall_mem_cons.2 ⟨hag.i 64 (by decide), List.forall_mem_cons.2 ⟨rfl, List.forall_mem_cons.2 ⟨rfl, List.forall_mem_cons.2 ⟨fun j _ => by rw [d_av, d_av]; exact congrFun (hag.a 5 (by decide)) j, List.forall_mem_cons.2 ⟨hag.i 50 (by decide), List.forall_mem_cons.2 ⟨rfl, List.forall_mem_cons.2 ⟨rfl, List.forall_mem_cons.2 ⟨rfl, List.forall_mem_cons.2 ⟨hag.i 0 (by decide), List.forall_mem_cons.2 ⟨hag.i 1 (by decide), List.forall_mem_cons.2 ⟨hag.i 2 (by decide), List.forall_mem_cons.2 ⟨hag.i 3 (by decide), List.forall_mem_cons.2 ⟨hag.i 4 (by decide), List.forall_mem_cons.2 ⟨hag.i 5 (by decide), List.forall_mem_cons.2 ⟨hag.i 6 (by decide), List.forall_mem_cons.2 ⟨hag.i 7 (by decide), List.forall_mem_cons.2 ⟨hag.i 8 (by decide), List.forall_mem_cons.2 ⟨hag.i 9 (by decide), List.forall_mem_cons.2 ⟨hag.b 10 (by decide), List.forall_mem_cons.2 ⟨hag.b 11 (by decide), List.forall_mem_cons.2 ⟨hag.i 40 (by decide), List.forall_mem_cons.2 ⟨hag.b 12 (by decide), List.forall_mem_cons.2 ⟨fun j _ => by rw [d_av, d_av]; exact congrFun (hag.a 0 (by decide)) j, List.forall_mem_cons.2 ⟨hag.i 41 (by decide), fun q hq => by cases hq⟩⟩⟩⟩⟩⟩⟩⟩⟩⟩⟩⟩⟩⟩⟩⟩⟩⟩⟩⟩⟩⟩⟩⟩⟩⟩⟩⟩
  · omega
  · omega
  · omega
  · omega
  · omega
  · omega
  · omega
  · omega
  · omega
  · omega
  · omega
  · intro _ _; omega
  · intro h; omega
  · intro h; omega
  · intro h; omega
  · intro h; omega
  · intro h; omega
  · omega
theorem w_kx10 {E0 E : Env} (hp : Pre6 E0) (hag : AgE 1000 E0 E) : VOkX [] ct6 (fun _ _ _ => True) (fun _ _ _ => 0) none E0 E kx10 := by
  intro hf
  have a1000 : 0 ≤ E.i 1000 := le_t.1 ((fat hf 32 rfl))
  have z1000 : E.i 1000 ≤ 255 := le_t.1 ((fat hf 33 rfl))
  have a1004 : 0 ≤ E.i 1004 := le_t.1 ((fat hf 20 rfl))
  have z1004 : E.i 1004 ≤ 255 := le_t.1 ((fat hf 21 rfl))
  have a1008 : 0 ≤ E.i 1008 := le_t.1 ((fat hf 1 rfl))
  have z1008 : E.i 1008 ≤ 255 := le_t.1 ((fat hf 2 rfl))
  have o0 : 0 ≤ E.i 1009 := le_t.1 ((fat hf 3 rfl))
  have o1 : E.i 1009 ≤ 4294967296 := le_t.1 ((fat hf 4 rfl))
  have l0 : 0 ≤ E.i 1010 := le_t.1 ((fat hf 5 rfl))
  have l1 : E.i 1010 ≤ 4294967296 := le_t.1 ((fat hf 6 rfl))
  have c0 : 0 ≤ E.i 1011 := le_t.1 ((fat hf 7 rfl))
  have c1 : E.i 1011 ≤ 9223372036854775807 := le_t.1 ((fat hf 8 rfl))
  have lc : E.i 1010 ≤ E.i 1011 := le_t.1 ((fat hf 9 rfl))
  have ol : E.i 1009 + E.i 1010 ≤ E.i 50 := le_t.1 ((fat hf 10 rfl))
  have m1002 : E.i 1002 ≤ E.i 52 := le_t.1 ((fat hf 42 rfl))
  have m1006 : E.i 1006 ≤ E.i 1002 := le_t.1 ((fat hf 30 rfl))
  have m1010 : E.i 1010 ≤ E.i 1006 := le_t.1 ((fat hf 11 rfl))
  have st : ¬ (0 < E.i 52 ∧ E.i 52 ≤ E.i 1002) := by
    have := (fat hf 43 rfl)
    simpa only [and_f, lt_t, not_t, lt_f, d_c, d_v] using this
  have tt := t6 hp hag ⟨a1000, z1000⟩ ⟨a1004, z1004⟩
  have e50 : E.i 50 = E0.i 50 := hag.i 50 (by decide)
  have e52 : E.i 52 = E0.i 52 := hag.i 52 (by decide)
  have e0 : E.i 0 = E0.i 0 := hag.i 0 (by decide)
  have e2 : E.i 2 = E0.i 2 := hag.i 2 (by decide)
  have e7 : E.i 7 = E0.i 7 := hag.i 7 (by decide)
  have e8 : E.i 8 = E0.i 8 := hag.i 8 (by decide)
  have e12 : E.b 12 = E0.b 12 := hag.b 12 (by decide)
  have gn : ke23.den E = 0 := eq_t.1 ((fat hf 0 rfl))
  have k0 : ke2.den E = 7 := eq_t.1 ((fat hf 13 rfl))
  have k1 : ke2.den E ≠ 6 := eq_f.1 ((fat hf 14 rfl))
  have k2 : ke2.den E ≠ 5 := eq_f.1 ((fat hf 15 rfl))
  have k3 : ke2.den E ≠ 1 := eq_f.1 ((fat hf 16 rfl))
  have k4 : ke2.den E ≠ 0 := eq_f.1 ((fat hf 17 rfl))
  obtain ⟨⟨tk0, tk1⟩, ⟨tS0, tS1⟩, ⟨⟨⟨ph0, ph1⟩, ⟨pr0, pr1⟩, ⟨pw0, pw1⟩, _, _, _, _, ⟨ps0, ps1⟩, ⟨pl0, pl1⟩, _⟩, ph, prh, psl, _, ⟨pg0, pg1⟩⟩, r5, r14, r23, r33, r39, r41⟩ := tt
  obtain ⟨n0, n1, xl1, ⟨x0, x0b⟩, ⟨x2, x2b⟩, ⟨x7, x7b⟩, ⟨x8, x8b⟩, x78, x02, _, ⟨xn, xnb⟩⟩ := hp
  have q43 : ke43.den E = ke39.den E - ke41.den E := w64 (n := ke39.den E - ke41.den E) (by omega)
  have q44 : ke44.den E = E.i 8 - E.i 7 := rfl
  have q45 : ke45.den E = min (ke43.den E) (ke44.den E) := imn_min _ _
  have q46 : ke46.den E = max 0 (ke45.den E) := imx_max _ _
  have q6 : ke6.den E = E.i 1008 * 2 := rfl
  have q47 : ke47.den E = min (ke46.den E) (ke6.den E) := imn_min _ _
  refine ⟨rfl, V6 E (ke2.den E) (ke3.den E) (ke47.den E) (0) (E.i 1009) (E.i 1010) (E.i 1011) false true, ?_, x6 (E0 := E0) hag ?_ ?_ ?_ ?_ ?_ ?_ ?_ ?_ ?_ ?_ ?_ ?_ ?_ ?_ ?_ ?_ ?_ ?_⟩
  · exact List.forall_mem_cons.2 ⟨rfl, List.forall_mem_cons.2 ⟨rfl, List.forall_mem_cons.2 ⟨rfl, List.forall_mem_cons.2 ⟨rfl, List.forall_mem_cons.2 ⟨hag.i 64 (by decide), List.forall_mem_cons.2 ⟨rfl, List.forall_mem_cons.2 ⟨rfl, List.forall_mem_cons.2 ⟨fun j _ => by rw [d_av, d_av]; exact congrFun (hag.a 5 (by decide)) j, List.forall_mem_cons.2 ⟨hag.i 50 (by decide), List.forall_mem_cons.2 ⟨rfl, List.forall_mem_cons.2 ⟨rfl, List.forall_mem_cons.2 ⟨rfl, List.forall_mem_cons.2 ⟨hag.i 0 (by decide), List.forall_mem_cons.2 ⟨hag.i 1 (by decide), List.forall_mem_cons.2 ⟨hag.i 2 (by decide), List.forall_mem_cons.2 ⟨hag.i 3 (by decide), List.forall_mem_cons.2 ⟨hag.i 4 (by decide), List.forall_mem_cons.2 ⟨hag.i 5 (by decide), List.forall_mem_cons.2 ⟨hag.i 6 (by decide), List.forall_mem_cons.2 ⟨hag.i 7 (by decide), List.forall_mem_cons.2 ⟨hag.i 8 (by decide), List.forall_mem_cons.2 ⟨hag.i 9 (by decide), List.forall_mem_cons.2 ⟨hag.b 10 (by decide), List.forall_mem_cons.2 ⟨hag.b 11 (by decide), List.forall_mem_cons.2 ⟨hag.i 40 (by decide), List.forall_mem_cons.2 ⟨hag.b 12 (by decide), List.forall_mem_cons.2 ⟨fun j _ => by rw [d_av, d_av]; exact congrFun (hag.a 0 (by decide)) j, List.forall_mem_cons.2 ⟨hag.i 41 (by decide), fun q hq => by cases hq⟩⟩⟩⟩⟩⟩⟩⟩⟩⟩⟩⟩⟩⟩⟩⟩⟩⟩⟩⟩⟩⟩⟩⟩⟩⟩⟩⟩
  · omega
  · omega
  · omega
  · omega
  · omega
  · omega
  · omega
  · omega
  · omega
  · omega
  · omega
  · intro _ h; exact (h (r23 ▸ gn)).elim
  · intro h; omega
  · intro h; omega
  · intro h; omega
  · intro h; omega
  · intro h; omega
  · omega
theorem w_kx11 {E0 E : Env} (hp : Pre6 E0) (hag : AgE 1000 E0 E) : VOkX [] ct6 (fun _ _ _ => True) (fun _ _ _ => 0) none E0 E kx11 := by
  intro hf
  have a1000 : 0 ≤ E.i 1000 := le_t.1 ((fat hf 32 rfl))
  have z1000 : E.i 1000 ≤ 255 := le_t.1 ((fat hf 33 rfl))
  have a1004 : 0 ≤ E.i 1004 := le_t.1 ((fat hf 20 rfl))
  have z1004 : E.i 1004 ≤ 255 := le_t.1 ((fat hf 21 rfl))
  have a1008 : 0 ≤ E.i 1008 := le_t.1 ((fat hf 1 rfl))
  have z1008 : E.i 1008 ≤ 255 := le_t.1 ((fat hf 2 rfl))
  have o0 : 0 ≤ E.i 1009 := le_t.1 ((fat hf 3 rfl))
  have o1 : E.i 1009 ≤ 4294967296 := le_t.1 ((fat hf 4 rfl))
  have l0 : 0 ≤ E.i 1010 := le_t.1 ((fat hf 5 rfl))
  have l1 : E.i 1010 ≤ 4294967296 := le_t.1 ((fat hf 6 rfl))
  have c0 : 0 ≤ E.i 1011 := le_t.1 ((fat hf 7 rfl))
  have c1 : E.i 1011 ≤ 9223372036854775807 := le_t.1 ((fat hf 8 rfl))
  have lc : E.i 1010 ≤ E.i 1011 := le_t.1 ((fat hf 9 rfl))
  have ol : E.i 1009 + E.i 1010 ≤ E.i 50 := le_t.1 ((fat hf 10 rfl))
  have m1002 : E.i 1002 ≤ E.i 52 := le_t.1 ((fat hf 42 rfl))
  have m1006 : E.i 1006 ≤ E.i 1002 := le_t.1 ((fat hf 30 rfl))
  have m1010 : E.i 1010 ≤ E.i 1006 := le_t.1 ((fat hf 11 rfl))
  have st : ¬ (0 < E.i 52 ∧ E.i 52 ≤ E.i 1002) := by
    have := (fat hf 43 rfl)
    simpa only [and_f, lt_t, not_t, lt_f, d_c, d_v] using this
  have tt := t6 hp hag ⟨a1000, z1000⟩ ⟨a1004, z1004⟩
  have e50 : E.i 50 = E0.i 50 := hag.i 50 (by decide)
  have e52 : E.i 52 = E0.i 52 := hag.i 52 (by decide)
  have e0 : E.i 0 = E0.i 0 := hag.i 0 (by decide)
  have e2 : E.i 2 = E0.i 2 := hag.i 2 (by decide)
  have e7 : E.i 7 = E0.i 7 := hag.i 7 (by decide)
  have e8 : E.i 8 = E0.i 8 := hag.i 8 (by decide)
  have e12 : E.b 12 = E0.b 12 := hag.b 12 (by decide)
  have gn : ke23.den E ≠ 0 := eq_f.1 ((fat hf 0 rfl))
  have k0 : ke2.den E = 7 := eq_t.1 ((fat hf 13 rfl))
  have k1 : ke2.den E ≠ 6 := eq_f.1 ((fat hf 14 rfl))
  have k2 : ke2.den E ≠ 5 := eq_f.1 ((fat hf 15 rfl))
  have k3 : ke2.den E ≠ 1 := eq_f.1 ((fat hf 16 rfl))
  have k4 : ke2.den E ≠ 0 := eq_f.1 ((fat hf 17 rfl))
  obtain ⟨⟨tk0, tk1⟩, ⟨tS0, tS1⟩, ⟨⟨⟨ph0, ph1⟩, ⟨pr0, pr1⟩, ⟨pw0, pw1⟩, _, _, _, _, ⟨ps0, ps1⟩, ⟨pl0, pl1⟩, _⟩, ph, prh, psl, _, ⟨pg0, pg1⟩⟩, r5, r14, r23, r33, r39, r41⟩ := tt
  obtain ⟨n0, n1, xl1, ⟨x0, x0b⟩, ⟨x2, x2b⟩, ⟨x7, x7b⟩, ⟨x8, x8b⟩, x78, x02, _, ⟨xn, xnb⟩⟩ := hp
  have q43 : ke43.den E = ke39.den E - ke41.den E := w64 (n := ke39.den E - ke41.den E) (by omega)
  have q44 : ke44.den E = E.i 8 - E.i 7 := rfl
  have q45 : ke45.den E = min (ke43.den E) (ke44.den E) := imn_min _ _
  have q46 : ke46.den E = max 0 (ke45.den E) := imx_max _ _
  have q6 : ke6.den E = E.i 1008 * 2 := rfl
  have q47 : ke47.den E = min (ke46.den E) (ke6.den E) := imn_min _ _
  refine ⟨rfl, V6 E (ke2.den E) (ke3.den E) (ke47.den E) (0) (E.i 1009) (E.i 1010) (E.i 1011) false true, ?_, x6 (E0 := E0) hag ?_ ?_ ?_ ?_ ?_ ?_ ?_ ?_ ?_ ?_ ?_ ?_ ?_ ?_ ?_ ?_ ?_ ?_⟩
  · exact List.forall_mem_cons.2 ⟨rfl, List.forall_mem_cons.2 ⟨rfl, List.forall_mem_cons.2 ⟨rfl, List.forall_mem_cons.2 ⟨rfl, List.forall_mem_cons.2 ⟨hag.i 64 (by decide), List.forall_mem_cons.2 ⟨rfl, List.forall_mem_cons.2 ⟨rfl, List.forall_mem_cons.2 ⟨fun j _ => by rw [d_av, d_av]; exact congrFun (hag.a 5 (by decide)) j, List.forall_mem_cons.2 ⟨hag.i 50 (by decide), List.forall_mem_cons.2 ⟨rfl, List.forall_mem_cons.2 ⟨rfl, List.forall_mem_cons.2 ⟨rfl, List.forall_mem_cons.2 ⟨hag.i 0 (by decide), List.forall_mem_cons.2 ⟨hag.i 1 (by decide), List.forall_mem_cons.2 ⟨hag.i 2 (by decide), List.forall_mem_cons.2 ⟨hag.i 3 (by decide), List.forall_mem_cons.2 ⟨hag.i 4 (by decide), List.forall_mem_cons.2 ⟨hag.i 5 (by decide), List.forall_mem_cons.2 ⟨hag.i 6 (by decide), List.forall_mem_cons.2 ⟨hag.i 7 (by decide), List.forall_mem_cons.2 ⟨hag.i 8 (by decide), List.forall_mem_cons.2 ⟨hag.i 9 (by decide), List.forall_mem_cons.2 ⟨hag.b 10 (by decide), List.forall_mem_cons.2 ⟨hag.b 11 (by decide), List.forall_mem_cons.2 ⟨hag.i 40 (by decide), List.forall_mem_cons.2 ⟨hag.b 12 (by decide), List.forall_mem_cons.2 ⟨fun j _ => by rw [d_av, d_av]; exact congrFun (hag.a 0 (by decide)) j, List.forall_mem_cons.2 ⟨hag.i 41 (by decide), fun q hq => by cases hq⟩⟩⟩⟩⟩⟩⟩⟩⟩⟩⟩⟩⟩⟩⟩⟩⟩⟩⟩⟩⟩⟩⟩⟩⟩⟩⟩⟩
  · omega
  · omega
  · omega
  · omega
  · omega
  · omega
  · omega
  · omega
  · omega
  · omega
  · omega
  · intro _ _; omega
  · intro h; omega
  · intro h; omega
  · intro h; omega
  · intro h; omega
  · intro h; omega
  · omega
theorem w_kx12 {E0 E : Env} (hp : Pre6 E0) (hag : AgE 1000 E0 E) : VOkX [] ct6 (fun _ _ _ => True) (fun _ _ _ => 0) none E0 E kx12 := by
  intro hf
  have a1000 : 0 ≤ E.i 1000 := le_t.1 ((fat hf 33 rfl))
  have z1000 : E.i 1000 ≤ 255 := le_t.1 ((fat hf 34 rfl))
  have a1004 : 0 ≤ E.i 1004 := le_t.1 ((fat hf 21 rfl))
  have z1004 : E.i 1004 ≤ 255 := le_t.1 ((fat hf 22 rfl))
  have a1008 : 0 ≤ E.i 1008 := le_t.1 ((fat hf 1 rfl))
  have z1008 : E.i 1008 ≤ 255 := le_t.1 ((fat hf 2 rfl))
  have o0 : 0 ≤ E.i 1009 := le_t.1 ((fat hf 3 rfl))
  have o1 : E.i 1009 ≤ 4294967296 := le_t.1 ((fat hf 4 rfl))
  have l0 : 0 ≤ E.i 1010 := le_t.1 ((fat hf 5 rfl))
  have l1 : E.i 1010 ≤ 4294967296 := le_t.1 ((fat hf 6 rfl))
  have c0 : 0 ≤ E.i 1011 := le_t.1 ((fat hf 7 rfl))
  have c1 : E.i 1011 ≤ 9223372036854775807 := le_t.1 ((fat hf 8 rfl))
  have lc : E.i 1010 ≤ E.i 1011 := le_t.1 ((fat hf 9 rfl))
  have ol : E.i 1009 + E.i 1010 ≤ E.i 50 := le_t.1 ((fat hf 10 rfl))
  have m1002 : E.i 1002 ≤ E.i 52 := le_t.1 ((fat hf 43 rfl))
  have m1006 : E.i 1006 ≤ E.i 1002 := le_t.1 ((fat hf 31 rfl))
  have m1010 : E.i 1010 ≤ E.i 1006 := le_t.1 ((fat hf 11 rfl))
  have st : ¬ (0 < E.i 52 ∧ E.i 52 ≤ E.i 1002) := by
    have := (fat hf 44 rfl)
    simpa only [and_f, lt_t, not_t, lt_f, d_c, d_v] using this
  have tt := t6 hp hag ⟨a1000, z1000⟩ ⟨a1004, z1004⟩
  have e50 : E.i 50 = E0.i 50 := hag.i 50 (by decide)
  have e52 : E.i 52 = E0.i 52 := hag.i 52 (by decide)
  have e0 : E.i 0 = E0.i 0 := hag.i 0 (by decide)
  have e2 : E.i 2 = E0.i 2 := hag.i 2 (by decide)
  have e7 : E.i 7 = E0.i 7 := hag.i 7 (by decide)
  have e8 : E.i 8 = E0.i 8 := hag.i 8 (by decide)
  have e12 : E.b 12 = E0.b 12 := hag.b 12 (by decide)
  have gn : ke23.den E = 0 := eq_t.1 ((fat hf 0 rfl))
  have k0 : ke2.den E = 11 := eq_t.1 ((fat hf 13 rfl))
  have k1 : ke2.den E ≠ 7 := eq_f.1 ((fat hf 14 rfl))
  have k2 : ke2.den E ≠ 6 := eq_f.1 ((fat hf 15 rfl))
  have k3 : ke2.den E ≠ 5 := eq_f.1 ((fat hf 16 rfl))
  have k4 : ke2.den E ≠ 1 := eq_f.1 ((fat hf 17 rfl))
  have k5 : ke2.den E ≠ 0 := eq_f.1 ((fat hf 18 rfl))
  obtain ⟨⟨tk0, tk1⟩, ⟨tS0, tS1⟩, ⟨⟨⟨ph0, ph1⟩, ⟨pr0, pr1⟩, ⟨pw0, pw1⟩, _, _, _, _, ⟨ps0, ps1⟩, ⟨pl0, pl1⟩, _⟩, ph, prh, psl, _, ⟨pg0, pg1⟩⟩, r5, r14, r23, r33, r39, r41⟩ := tt
  obtain ⟨n0, n1, xl1, ⟨x0, x0b⟩, ⟨x2, x2b⟩, ⟨x7, x7b⟩, ⟨x8, x8b⟩, x78, x02, _, ⟨xn, xnb⟩⟩ := hp
  have q49 : ke49.den E = (1 + E.i 1008) * 1000000 := rfl
  refine ⟨rfl, V6 E (ke2.den E) (ke3.den E) (ke49.den E) (0) (E.i 1009) (E.i 1010) (E.i 1011) false (!E.b 12), ?_, x6 (E0 := E0) hag ?_ ?_ ?_ ?_ ?_ ?_ ?_ ?_ ?_ ?_ ?_ ?_ ?_ ?_ ?_ ?_ ?_ ?_⟩
  · exact List.forall_mem_cons.2 ⟨rfl, List.forall_mem_cons.2 ⟨rfl, List.forall_mem_cons.2 ⟨rfl, List.forall_mem_cons.2 ⟨rfl, List.forall_mem_cons.2 ⟨hag.i 64 (by decide), List.forall_mem_cons.2 ⟨rfl, List.forall_mem_cons.2 ⟨rfl, List.forall_mem_cons.2 ⟨fun j _ => by rw [d_av, d_av]; exact congrFun (hag.a 5 (by decide)) j, List.forall_mem_cons.2 ⟨hag.i 50 (by decide), List.forall_mem_cons.2 ⟨rfl, List.forall_mem_cons.2 ⟨rfl, List.forall_mem_cons.2 ⟨rfl, List.forall_mem_cons.2 ⟨hag.i 0 (by decide), List.forall_mem_cons.2 ⟨hag.i 1 (by decide), List.forall_mem_cons.2 ⟨hag.i 2 (by decide), List.forall_mem_cons.2 ⟨hag.i 3 (by decide), List.forall_mem_cons.2 ⟨hag.i 4 (by decide), List.forall_mem_cons.2 ⟨hag.i 5 (by decide), List.forall_mem_cons.2 ⟨hag.i 6 (by decide), List.forall_mem_cons.2 ⟨hag.i 7 (by decide), List.forall_mem_cons.2 ⟨hag.i 8 (by decide), List.forall_mem_cons.2 ⟨hag.i 9 (by decide), List.forall_mem_cons.2 ⟨hag.b 10 (by decide), List.forall_mem_cons.2 ⟨hag.b 11 (by decide), List.forall_mem_cons.2 ⟨hag.i 40 (by decide), List.forall_mem_cons.2 ⟨hag.b 12 (by decide), List.forall_mem_cons.2 ⟨fun j _ => by rw [d_av, d_av]; exact congrFun (hag.a 0 (by decide)) j, List.forall_mem_cons.2 ⟨hag.i 41 (by decide), fun q hq => by cases hq⟩⟩⟩⟩⟩⟩⟩⟩⟩⟩⟩⟩⟩⟩⟩⟩⟩⟩⟩⟩⟩⟩⟩⟩⟩⟩⟩⟩
  · omega
  · omega
  · omega
  · omega
  · omega
  · omega
  · omega
  · omega
  · omega
  · omega
  · omega
  · intro _ _; omega
  · intro h; omega
  · intro h; omega
  · intro h; omega
  · intro _ h; rw [← e12]; cases hb : E.b 12 with
    | true => rw [hb] at h; cases h
    | false => rfl
  · intro h; omega
  · omega
theorem w_kx13 {E0 E : Env} (hp : Pre6 E0) (hag : AgE 1000 E0 E) : VOkX [] ct6 (fun _ _ _ => True) (fun _ _ _ => 0) none E0 E kx13 := by
  intro hf
  have a1000 : 0 ≤ E.i 1000 := le_t.1 ((fat hf 33 rfl))
  have z1000 : E.i 1000 ≤ 255 := le_t.1 ((fat hf 34 rfl))
  have a1004 : 0 ≤ E.i 1004 := le_t.1 ((fat hf 21 rfl))
  have z1004 : E.i 1004 ≤ 255 := le_t.1 ((fat hf 22 rfl))
  have a1008 : 0 ≤ E.i 1008 := le_t.1 ((fat hf 1 rfl))
  have z1008 : E.i 1008 ≤ 255 := le_t.1 ((fat hf 2 rfl))
  have o0 : 0 ≤ E.i 1009 := le_t.1 ((fat hf 3 rfl))
  have o1 : E.i 1009 ≤ 4294967296 := le_t.1 ((fat hf 4 rfl))
  have l0 : 0 ≤ E.i 1010 := le_t.1 ((fat hf 5 rfl))
  have l1 : E.i 1010 ≤ 4294967296 := le_t.1 ((fat hf 6 rfl))
  have c0 : 0 ≤ E.i 1011 := le_t.1 ((fat hf 7 rfl))
  have c1 : E.i 1011 ≤ 9223372036854775807 := le_t.1 ((fat hf 8 rfl))
  have lc : E.i 1010 ≤ E.i 1011 := le_t.1 ((fat hf 9 rfl))
  have ol : E.i 1009 + E.i 1010 ≤ E.i 50 := le_t.1 ((fat hf 10 rfl))
  have m1002 : E.i 1002 ≤ E.i 52 := le_t.1 ((fat hf 43 rfl))
  have m1006 : E.i 1006 ≤ E.i 1002 := le_t.1 ((fat hf 31 rfl))
  have m1010 : E.i 1010 ≤ E.i 1006 := le_t.1 ((fat hf 11 rfl))
  have st : ¬ (0 < E.i 52 ∧ E.i 52 ≤ E.i 1002) := by
    have := (fat hf 44 rfl)
    simpa only [and_f, lt_t, not_t, lt_f, d_c, d_v] using this
  have tt := t6 hp hag ⟨a1000, z1000⟩ ⟨a1004, z1004⟩
  have e50 : E.i 50 = E0.i 50 := hag.i 50 (by decide)
  have e52 : E.i 52 = E0.i 52 := hag.i 52 (by decide)
  have e0 : E.i 0 = E0.i 0 := hag.i 0 (by decide)
  have e2 : E.i 2 = E0.i 2 := hag.i 2 (by decide)
  have e7 : E.i 7 = E0.i 7 := hag.i 7 (by decide)
  have e8 : E.i 8 = E0.i 8 := hag.i 8 (by decide)
  have e12 : E.b 12 = E0.b 12 := hag.b 12 (by decide)
  have gn : ke23.den E ≠ 0 := eq_f.1 ((fat hf 0 rfl))
  have k0 : ke2.den E = 11 := eq_t.1 ((fat hf 13 rfl))
  have k1 : ke2.den E ≠ 7 := eq_f.1 ((fat hf 14 rfl))
  have k2 : ke2.den E ≠ 6 := eq_f.1 ((fat hf 15 rfl))
  have k3 : ke2.den E ≠ 5 := eq_f.1 ((fat hf 16 rfl))
  have k4 : ke2.den E ≠ 1 := eq_f.1 ((fat hf 17 rfl))
  have k5 : ke2.den E ≠ 0 := eq_f.1 ((fat hf 18 rfl))
  obtain ⟨⟨tk0, tk1⟩, ⟨tS0, tS1⟩, ⟨⟨⟨ph0, ph1⟩, ⟨pr0, pr1⟩, ⟨pw0, pw1⟩, _, _, _, _, ⟨ps0, ps1⟩, ⟨pl0, pl1⟩, _⟩, ph, prh, psl, _, ⟨pg0, pg1⟩⟩, r5, r14, r23, r33, r39, r41⟩ := tt
  obtain ⟨n0, n1, xl1, ⟨x0, x0b⟩, ⟨x2, x2b⟩, ⟨x7, x7b⟩, ⟨x8, x8b⟩, x78, x02, _, ⟨xn, xnb⟩⟩ := hp
  have q49 : ke49.den E = (1 + E.i 1008) * 1000000 := rfl
  refine ⟨rfl, V6 E (ke2.den E) (ke3.den E) (ke49.den E) (0) (E.i 1009) (E.i 1010) (E.i 1011) false (!E.b 12), ?_, x6 (E0 := E0) hag ?_ ?_ ?_ ?_ ?_ ?_ ?_ ?_ ?_ ?_ ?_ ?_ ?_ ?_ ?_ ?_ ?_ ?_⟩
  · exact List.forall_mem_cons.2 ⟨rfl, List.forall_mem_cons.2 ⟨rfl, List.forall_mem_cons.2 ⟨rfl, List.forall_mem_cons.2 ⟨rfl, List.forall_mem_cons.2 ⟨hag.i 64 (by decide), List.forall_mem_cons.2 ⟨rfl, List.forall_mem_cons.2 ⟨rfl, List.forall_mem_cons.2 ⟨fun j _ => by rw [d_av, d_av]; exact congrFun (hag.a 5 (by decide)) j, List.forall_mem_cons.2 ⟨hag.i 50 (by decide), List.forall_mem_cons.2 ⟨rfl, List.forall_mem_cons.2 ⟨rfl, List.forall_mem_cons.2 ⟨rfl, List.forall_mem_cons.2 ⟨hag.i 0 (by decide), List.forall_mem_cons.2 ⟨hag.i 1 (by decide), List.forall_mem_cons.2 ⟨hag.i 2 (by decide), List.forall_mem_cons.2 ⟨hag.i 3 (by decide), List.forall_mem_cons.2 ⟨hag.i 4 (by decide), List.forall_mem_cons.2 ⟨hag.i 5 (by decide), List.forall_mem_cons.2 ⟨hag.i 6 (by decide), List.forall_mem_cons.2 ⟨hag.i 7 (by decide), List.forall_mem_cons.2 ⟨hag.i 8 (by decide), List.forall_mem_cons.2 ⟨hag.i 9 (by decide), List.forall_mem_cons.2 ⟨hag.b 10 (by decide), List.forall_mem_cons.2 ⟨hag.b 11 (by decide), List.forall_mem_cons.2 ⟨hag.i 40 (by decide), List.forall_mem_cons.2 ⟨hag.b 12 (by decide), List.forall_mem_cons.2 ⟨fun j _ => by rw [d_av, d_av]; exact congrFun (hag.a 0 (by decide)) j, List.forall_mem_cons.2 ⟨hag.i 41 (by decide), fun q hq => by cases hq⟩⟩⟩⟩⟩⟩⟩⟩⟩⟩⟩⟩⟩⟩⟩⟩⟩⟩⟩⟩⟩⟩⟩⟩⟩⟩⟩⟩
  · omega
  · omega
  · omega
  · omega
  · omega
  · omega
  · omega
  · omega
  · omega
  · omega
  · omega
  · intro _ _; omega
  · intro h; omega
  · intro h; omega
  · intro h; omega
  · intro _ h; rw [← e12]; cases hb : E.b 12 with
    | true => rw [hb] at h; cases h
    | false => rfl
  · intro h; omega
  · omega
theorem w_kx14 {E0 E : Env} (hp : Pre6 E0) (hag : AgE 1000 E0 E) : VOkX [] ct6 (fun _ _ _ => True) (fun _ _ _ => 0) none E0 E kx14 := by
  intro hf
  have a1000 : 0 ≤ E.i 1000 := le_t.1 ((fat hf 21 rfl))
  have z1000 : E.i 1000 ≤ 255 := le_t.1 ((fat hf 22 rfl))
  have a1004 : 0 ≤ E.i 1004 := le_t.1 ((fat hf 9 rfl))
  have z1004 : E.i 1004 ≤ 255 := le_t.1 ((fat hf 10 rfl))
  have o0 : 0 ≤ E.i 1005 := le_t.1 ((fat hf 11 rfl))
  have o1 : E.i 1005 ≤ 4294967296 := le_t.1 ((fat hf 12 rfl))
  have l0 : 0 ≤ E.i 1006 := le_t.1 ((fat hf 13 rfl))
  have l1 : E.i 1006 ≤ 4294967296 := le_t.1 ((fat hf 14 rfl))
  have c0 : 0 ≤ E.i 1007 := le_t.1 ((fat hf 15 rfl))
  have c1 : E.i 1007 ≤ 9223372036854775807 := le_t.1 ((fat hf 16 rfl))
  have lc : E.i 1006 ≤ E.i 1007 := le_t.1 ((fat hf 17 rfl))
  have ol : E.i 1005 + E.i 1006 ≤ E.i 50 := le_t.1 ((fat hf 18 rfl))
  have m1002 : E.i 1002 ≤ E.i 52 := le_t.1 ((fat hf 31 rfl))
  have m1006 : E.i 1006 ≤ E.i 1002 := le_t.1 ((fat hf 19 rfl))
  have st : ¬ (0 < E.i 52 ∧ E.i 52 ≤ E.i 1002) := by
    have := (fat hf 32 rfl)
    simpa only [and_f, lt_t, not_t, lt_f, d_c, d_v] using this
  have tt := t6 hp hag ⟨a1000, z1000⟩ ⟨a1004, z1004⟩
  have e50 : E.i 50 = E0.i 50 := hag.i 50 (by decide)
  have e52 : E.i 52 = E0.i 52 := hag.i 52 (by decide)
  have e0 : E.i 0 = E0.i 0 := hag.i 0 (by decide)
  have e2 : E.i 2 = E0.i 2 := hag.i 2 (by decide)
  have e7 : E.i 7 = E0.i 7 := hag.i 7 (by decide)
  have e8 : E.i 8 = E0.i 8 := hag.i 8 (by decide)
  have e12 : E.b 12 = E0.b 12 := hag.b 12 (by decide)
  have gn : ke23.den E = 0 := eq_t.1 ((fat hf 0 rfl))
  have k0 : ke2.den E ≠ 11 := eq_f.1 ((fat hf 1 rfl))
  have k1 : ke2.den E ≠ 7 := eq_f.1 ((fat hf 2 rfl))
  have k2 : ke2.den E ≠ 6 := eq_f.1 ((fat hf 3 rfl))
  have k3 : ke2.den E ≠ 5 := eq_f.1 ((fat hf 4 rfl))
  have k4 : ke2.den E ≠ 1 := eq_f.1 ((fat hf 5 rfl))
  have k5 : ke2.den E ≠ 0 := eq_f.1 ((fat hf 6 rfl))
  obtain ⟨⟨tk0, tk1⟩, ⟨tS0, tS1⟩, ⟨⟨⟨ph0, ph1⟩, ⟨pr0, pr1⟩, ⟨pw0, pw1⟩, _, _, _, _, ⟨ps0, ps1⟩, ⟨pl0, pl1⟩, _⟩, ph, prh, psl, _, ⟨pg0, pg1⟩⟩, r5, r14, r23, r33, r39, r41⟩ := tt
  obtain ⟨n0, n1, xl1, ⟨x0, x0b⟩, ⟨x2, x2b⟩, ⟨x7, x7b⟩, ⟨x8, x8b⟩, x78, x02, _, ⟨xn, xnb⟩⟩ := hp
  refine ⟨rfl, V6 E (ke2.den E) (ke3.den E) (0) (0) (E.i 1005) (E.i 1006) (E.i 1007) false true, ?_, x6 (E0 := E0) hag ?_ ?_ ?_ ?_ ?_ ?_ ?_ ?_ ?_ ?_ ?_ ?_ ?_ ?_ ?_ ?_ ?_ ?_⟩
  · exact List.forall_mem_cons.2 ⟨rfl, List.forall_mem_cons.2 ⟨rfl, List.forall_mem_cons.2 ⟨rfl, List.forall_mem_cons.2 ⟨rfl, List.forall_mem_cons.2 ⟨hag.i 64 (by decide), List.forall_mem_cons.2 ⟨rfl, List.forall_mem_cons.2 ⟨rfl, List.forall_mem_cons.2 ⟨fun j _ => by rw [d_av, d_av]; exact congrFun (hag.a 5 (by decide)) j, List.forall_mem_cons.2 ⟨hag.i 50 (by decide), List.forall_mem_cons.2 ⟨rfl, List.forall_mem_cons.2 ⟨rfl, List.forall_mem_cons.2 ⟨rfl, List.forall_mem_cons.2 ⟨hag.i 0 (by decide), List.forall_mem_cons.2 ⟨hag.i 1 (by decide), List.forall_mem_cons.2 ⟨hag.i 2 (by decide), List.forall_mem_cons.2 ⟨hag.i 3 (by decide), List.forall_mem_cons.2 ⟨hag.i 4 (by decide), List.forall_mem_cons.2 ⟨hag.i 5 (by decide), List.forall_mem_cons.2 ⟨hag.i 6 (by decide), List.forall_mem_cons.2 ⟨hag.i 7 (by decide), List.forall_mem_cons.2 ⟨hag.i 8 (by decide), List.forall_mem_cons.2 ⟨hag.i 9 (by decide), List.forall_mem_cons.2 ⟨hag.b 10 (by decide), List.forall_mem_cons.2 ⟨hag.b 11 (by decide), List.forall_mem_cons.2 ⟨hag.i 40 (by decide), List.forall_mem_cons.2 ⟨hag.b 12 (by decide), List.forall_mem_cons.2 ⟨fun j _ => by rw [d_av, d_av]; exact congrFun (hag.a 0 (by decide)) j, List.forall_mem_cons.2 ⟨hag.i 41 (by decide), fun q hq => by cases hq⟩⟩⟩⟩⟩⟩⟩⟩⟩⟩⟩⟩⟩⟩⟩⟩⟩⟩⟩⟩⟩⟩⟩⟩⟩⟩⟩⟩
  · omega
  · omega
  · omega
  · omega
  · omega
  · omega
  · omega
  · omega
  · omega
  · omega
  · omega
  · intro _ h; exact (h (r23 ▸ gn)).elim
  · intro h; omega
  · intro h; omega
  · intro h; omega
  · intro h; omega
  · intro h; omega
  · omega
theorem w_kx15 {E0 E : Env} (hp : Pre6 E0) (hag : AgE 1000 E0 E) : VOkX [] ct6 (fun _ _ _ => True) (fun _ _ _ => 0) none E0 E kx15 := by
  intro hf
  have a1000 : 0 ≤ E.i 1000 := le_t.1 ((fat hf 22 rfl))
  have z1000 : E.i 1000 ≤ 255 := le_t.1 ((fat hf 23 rfl))
  have a1004 : 0 ≤ E.i 1004 := le_t.1 ((fat hf 10 rfl))
  have z1004 : E.i 1004 ≤ 255 := le_t.1 ((fat hf 11 rfl))
  have o0 : 0 ≤ E.i 1005 := le_t.1 ((fat hf 12 rfl))
  have o1 : E.i 1005 ≤ 4294967296 := le_t.1 ((fat hf 13 rfl))
  have l0 : 0 ≤ E.i 1006 := le_t.1 ((fat hf 14 rfl))
  have l1 : E.i 1006 ≤ 4294967296 := le_t.1 ((fat hf 15 rfl))
  have c0 : 0 ≤ E.i 1007 := le_t.1 ((fat hf 16 rfl))
  have c1 : E.i 1007 ≤ 9223372036854775807 := le_t.1 ((fat hf 17 rfl))
  have lc : E.i 1006 ≤ E.i 1007 := le_t.1 ((fat hf 18 rfl))
  have ol : E.i 1005 + E.i 1006 ≤ E.i 50 := le_t.1 ((fat hf 19 rfl))
  have m1002 : E.i 1002 ≤ E.i 52 := le_t.1 ((fat hf 32 rfl))
  have m1006 : E.i 1006 ≤ E.i 1002 := le_t.1 ((fat hf 20 rfl))
  have st : ¬ (0 < E.i 52 ∧ E.i 52 ≤ E.i 1002) := by
    have := (fat hf 33 rfl)
    simpa only [and_f, lt_t, not_t, lt_f, d_c, d_v] using this
  have tt := t6 hp hag ⟨a1000, z1000⟩ ⟨a1004, z1004⟩
  have e50 : E.i 50 = E0.i 50 := hag.i 50 (by decide)
  have e52 : E.i 52 = E0.i 52 := hag.i 52 (by decide)
  have e0 : E.i 0 = E0.i 0 := hag.i 0 (by decide)
  have e2 : E.i 2 = E0.i 2 := hag.i 2 (by decide)
  have e7 : E.i 7 = E0.i 7 := hag.i 7 (by decide)
  have e8 : E.i 8 = E0.i 8 := hag.i 8 (by decide)
  have e12 : E.b 12 = E0.b 12 := hag.b 12 (by decide)
  have k3 : 3 < ke2.den E := lt_t.1 ((fat hf 0 rfl))
  have gn : ke23.den E ≠ 0 := eq_f.1 ((fat hf 1 rfl))
  have k0 : ke2.den E ≠ 11 := eq_f.1 ((fat hf 2 rfl))
  have k1 : ke2.den E ≠ 7 := eq_f.1 ((fat hf 3 rfl))
  have k2 : ke2.den E ≠ 6 := eq_f.1 ((fat hf 4 rfl))
  have k3 : ke2.den E ≠ 5 := eq_f.1 ((fat hf 5 rfl))
  have k4 : ke2.den E ≠ 1 := eq_f.1 ((fat hf 6 rfl))
  have k5 : ke2.den E ≠ 0 := eq_f.1 ((fat hf 7 rfl))
  obtain ⟨⟨tk0, tk1⟩, ⟨tS0, tS1⟩, ⟨⟨⟨ph0, ph1⟩, ⟨pr0, pr1⟩, ⟨pw0, pw1⟩, _, _, _, _, ⟨ps0, ps1⟩, ⟨pl0, pl1⟩, _⟩, ph, prh, psl, _, ⟨pg0, pg1⟩⟩, r5, r14, r23, r33, r39, r41⟩ := tt
  obtain ⟨n0, n1, xl1, ⟨x0, x0b⟩, ⟨x2, x2b⟩, ⟨x7, x7b⟩, ⟨x8, x8b⟩, x78, x02, _, ⟨xn, xnb⟩⟩ := hp
  refine ⟨rfl, V6 E (ke2.den E) (ke3.den E) (0) (0) (E.i 1005) (E.i 1006) (E.i 1007) false true, ?_, x6 (E0 := E0) hag ?_ ?_ ?_ ?_ ?_ ?_ ?_ ?_ ?_ ?_ ?_ ?_ ?_ ?_ ?_ ?_ ?_ ?_⟩
  · exact List.forall_mem_cons.2 ⟨rfl, List.forall_mem_cons.2 ⟨rfl, List.forall_mem_cons.2 ⟨rfl, List.forall_mem_cons.2 ⟨rfl, List.forall_mem_cons.2 ⟨hag.i 64 (by decide), List.forall_mem_cons.2 ⟨rfl, List.forall_mem_cons.2 ⟨rfl, List.forall_mem_cons.2 ⟨fun j _ => by rw [d_av, d_av]; exact congrFun (hag.a 5 (by decide)) j, List.forall_mem_cons.2 ⟨hag.i 50 (by decide), List.forall_mem_cons.2 ⟨rfl, List.forall_mem_cons.2 ⟨rfl, List.forall_mem_cons.2 ⟨rfl, List.forall_mem_cons.2 ⟨hag.i 0 (by decide), List.forall_mem_cons.2 ⟨hag.i 1 (by decide), List.forall_mem_cons.2 ⟨hag.i 2 (by decide), List.forall_mem_cons.2 ⟨hag.i 3 (by decide), List.forall_mem_cons.2 ⟨hag.i 4 (by decide), List.forall_mem_cons.2 ⟨hag.i 5 (by decide), List.forall_mem_cons.2 ⟨hag.i 6 (by decide), List.forall_mem_cons.2 ⟨hag.i 7 (by decide), List.forall_mem_cons.2 ⟨hag.i 8 (by decide), List.forall_mem_cons.2 ⟨hag.i 9 (by decide), List.forall_mem_cons.2 ⟨hag.b 10 (by decide), List.forall_mem_cons.2 ⟨hag.b 11 (by decide), List.forall_mem_cons.2 ⟨hag.i 40 (by decide), List.forall_mem_cons.2 ⟨hag.b 12 (by decide), List.forall_mem_cons.2 ⟨fun j _ => by rw [d_av, d_av]; exact congrFun (hag.a 0 (by decide)) j, List.forall_mem_cons.2 ⟨hag.i 41 (by decide), fun q hq => by cases hq⟩⟩⟩⟩⟩⟩⟩⟩⟩⟩⟩⟩⟩⟩⟩⟩⟩⟩⟩⟩⟩⟩⟩⟩⟩⟩⟩⟩
  · omega
  · omega
  · omega
  · omega
  · omega
  · omega
  · omega
  · omega
  · omega
  · omega
  · omega
  · intro _ _; omega
  · intro h; omega
  · intro h; omega
  · intro h; omega
  · intro h; omega
  · intro h; omega
  · omega
theorem w_kx16 {E0 E : Env} (hp : Pre6 E0) (hag : AgE 1000 E0 E) : VOkX [] ct6 (fun _ _ _ => True) (fun _ _ _ => 0) none E0 E kx16 := by
  intro hf
  have a1000 : 0 ≤ E.i 1000 := le_t.1 ((fat hf 22 rfl))
  have z1000 : E.i 1000 ≤ 255 := le_t.1 ((fat hf 23 rfl))
  have a1004 : 0 ≤ E.i 1004 := le_t.1 ((fat hf 10 rfl))
  have z1004 : E.i 1004 ≤ 255 := le_t.1 ((fat hf 11 rfl))
  have o0 : 0 ≤ E.i 1005 := le_t.1 ((fat hf 12 rfl))
  have o1 : E.i 1005 ≤ 4294967296 := le_t.1 ((fat hf 13 rfl))
  have l0 : 0 ≤ E.i 1006 := le_t.1 ((fat hf 14 rfl))
  have l1 : E.i 1006 ≤ 4294967296 := le_t.1 ((fat hf 15 rfl))
  have c0 : 0 ≤ E.i 1007 := le_t.1 ((fat hf 16 rfl))
  have c1 : E.i 1007 ≤ 9223372036854775807 := le_t.1 ((fat hf 17 rfl))
  have lc : E.i 1006 ≤ E.i 1007 := le_t.1 ((fat hf 18 rfl))
  have ol : E.i 1005 + E.i 1006 ≤ E.i 50 := le_t.1 ((fat hf 19 rfl))
  have m1002 : E.i 1002 ≤ E.i 52 := le_t.1 ((fat hf 32 rfl))
  have m1006 : E.i 1006 ≤ E.i 1002 := le_t.1 ((fat hf 20 rfl))
  have st : ¬ (0 < E.i 52 ∧ E.i 52 ≤ E.i 1002) := by
    have := (fat hf 33 rfl)
    simpa only [and_f, lt_t, not_t, lt_f, d_c, d_v] using this
  have tt := t6 hp hag ⟨a1000, z1000⟩ ⟨a1004, z1004⟩
  have e50 : E.i 50 = E0.i 50 := hag.i 50 (by decide)
  have e52 : E.i 52 = E0.i 52 := hag.i 52 (by decide)
  have e0 : E.i 0 = E0.i 0 := hag.i 0 (by decide)
  have e2 : E.i 2 = E0.i 2 := hag.i 2 (by decide)
  have e7 : E.i 7 = E0.i 7 := hag.i 7 (by decide)
  have e8 : E.i 8 = E0.i 8 := hag.i 8 (by decide)
  have e12 : E.b 12 = E0.b 12 := hag.b 12 (by decide)
  have k3 : ke2.den E ≤ 3 := lt_f.1 ((fat hf 0 rfl))
  have gn : ke23.den E ≠ 0 := eq_f.1 ((fat hf 1 rfl))
  have k0 : ke2.den E ≠ 11 := eq_f.1 ((fat hf 2 rfl))
  have k1 : ke2.den E ≠ 7 := eq_f.1 ((fat hf 3 rfl))
  have k2 : ke2.den E ≠ 6 := eq_f.1 ((fat hf 4 rfl))
  have k3 : ke2.den E ≠ 5 := eq_f.1 ((fat hf 5 rfl))
  have k4 : ke2.den E ≠ 1 := eq_f.1 ((fat hf 6 rfl))
  have k5 : ke2.den E ≠ 0 := eq_f.1 ((fat hf 7 rfl))
  obtain ⟨⟨tk0, tk1⟩, ⟨tS0, tS1⟩, ⟨⟨⟨ph0, ph1⟩, ⟨pr0, pr1⟩, ⟨pw0, pw1⟩, _, _, _, _, ⟨ps0, ps1⟩, ⟨pl0, pl1⟩, _⟩, ph, prh, psl, _, ⟨pg0, pg1⟩⟩, r5, r14, r23, r33, r39, r41⟩ := tt
  obtain ⟨n0, n1, xl1, ⟨x0, x0b⟩, ⟨x2, x2b⟩, ⟨x7, x7b⟩, ⟨x8, x8b⟩, x78, x02, _, ⟨xn, xnb⟩⟩ := hp
  refine ⟨rfl, V6 E (ke2.den E) (ke3.den E) (0) (0) (E.i 1005) (E.i 1006) (E.i 1007) false false, ?_, x6 (E0 := E0) hag ?_ ?_ ?_ ?_ ?_ ?_ ?_ ?_ ?_ ?_ ?_ ?_ ?_ ?_ ?_ ?_ ?_ ?_⟩
  · exact List.forall_mem_cons.2 ⟨rfl, List.forall_mem_cons.2 ⟨rfl, List.forall_mem_cons.2 ⟨rfl, List.forall_mem_cons.2 ⟨rfl, List.forall_mem_cons.2 ⟨hag.i 64 (by decide), List.forall_mem_cons.2 ⟨rfl, List.forall_mem_cons.2 ⟨rfl, List.forall_mem_cons.2 ⟨fun j _ => by rw [d_av, d_av]; exact congrFun (hag.a 5 (by decide)) j, List.forall_mem_cons.2 ⟨hag.i 50 (by decide), List.forall_mem_cons.2 ⟨rfl, List.forall_mem_cons.2 ⟨rfl, List.forall_mem_cons.2 ⟨rfl, List.forall_mem_cons.2 ⟨hag.i 0 (by decide), List.forall_mem_cons.2 ⟨hag.i 1 (by decide), List.forall_mem_cons.2 ⟨hag.i 2 (by decide), List.forall_mem_cons.2 ⟨hag.i 3 (by decide), List.forall_mem_cons.2 ⟨hag.i 4 (by decide), List.forall_mem_cons.2 ⟨hag.i 5 (by decide), List.forall_mem_cons.2 ⟨hag.i 6 (by decide), List.forall_mem_cons.2 ⟨hag.i 7 (by decide), List.forall_mem_cons.2 ⟨hag.i 8 (by decide), List.forall_mem_cons.2 ⟨hag.i 9 (by decide), List.forall_mem_cons.2 ⟨hag.b 10 (by decide), List.forall_mem_cons.2 ⟨hag.b 11 (by decide), List.forall_mem_cons.2 ⟨hag.i 40 (by decide), List.forall_mem_cons.2 ⟨hag.b 12 (by decide), List.forall_mem_cons.2 ⟨fun j _ => by rw [d_av, d_av]; exact congrFun (hag.a 0 (by decide)) j, List.forall_mem_cons.2 ⟨hag.i 41 (by decide), fun q hq => by cases hq⟩⟩⟩⟩⟩⟩⟩⟩⟩⟩⟩⟩⟩⟩⟩⟩⟩⟩⟩⟩⟩⟩⟩⟩⟩⟩⟩⟩
  · omega
  · omega
  · omega
  · omega
  · omega
  · omega
  · omega
  · omega
  · omega
  · omega
  · omega
  · intro h; cases h
  · intro h; omega
  · intro h; omega
  · intro h; omega
  · intro h; omega
  · intro h; omega
  · omega
theorem w_kx17 {E0 E : Env} (hp : Pre6 E0) (hag : AgE 1000 E0 E) : VOkX [] ct6 (fun _ _ _ => True) (fun _ _ _ => 0) none E0 E kx17 := by
  intro hf
  have a1000 : 0 ≤ E.i 1000 := le_t.1 ((fat hf 14 rfl))
  have z1000 : E.i 1000 ≤ 255 := le_t.1 ((fat hf 15 rfl))
  have a1004 : 0 ≤ E.i 1004 := le_t.1 ((fat hf 2 rfl))
  have z1004 : E.i 1004 ≤ 255 := le_t.1 ((fat hf 3 rfl))
  have tt := t6 hp hag ⟨a1000, z1000⟩ ⟨a1004, z1004⟩
  have h := (fat hf 0 rfl)
  rw [lt_f, d_v] at h
  have e41 : E.i 41 = E0.i 41 := hag.i 41 (by decide)
  have := tt.S.2
  omega
theorem w_kx18 {E0 E : Env} (hp : Pre6 E0) (hag : AgE 1000 E0 E) : VOkX [] ct6 (fun _ _ _ => True) (fun _ _ _ => 0) none E0 E kx18 := by
  intro hf
  have a1000 : 0 ≤ E.i 1000 := le_t.1 ((fat hf 13 rfl))
  have z1000 : E.i 1000 ≤ 255 := le_t.1 ((fat hf 14 rfl))
  have a1004 : 0 ≤ E.i 1004 := le_t.1 ((fat hf 1 rfl))
  have z1004 : E.i 1004 ≤ 255 := le_t.1 ((fat hf 2 rfl))
  have tt := t6 hp hag ⟨a1000, z1000⟩ ⟨a1004, z1004⟩
  have h := (fat hf 0 rfl)
  rw [le_f, d_c] at h
  have := tt.S.1
  omega
noncomputable abbrev wl : List Vl := [kx0, kx1, kx2, kx3, kx4, kx5, kx6, kx7, kx8, kx9, kx10, kx11, kx12, kx13, kx14, kx15, kx16, kx17, kx18]
theorem Mw0 : kx0 ∈ wl := List.Mem.head _
theorem Mw1 : kx1 ∈ wl := List.Mem.tail _ (List.Mem.head _)
theorem Mw2 : kx2 ∈ wl := List.Mem.tail _ (List.Mem.tail _ (List.Mem.head _))
theorem Mw3 : kx3 ∈ wl := List.Mem.tail _ (List.Mem.tail _ (List.Mem.tail _ (List.Mem.head _)))
theorem Mw4 : kx4 ∈ wl := List.Mem.tail _ (List.Mem.tail _ (List.Mem.tail _ (List.Mem.tail _ (List.Mem.head _))))
theorem Mw5 : kx5 ∈ wl := List.Mem.tail _ (List.Mem.tail _ (List.Mem.tail _ (List.Mem.tail _ (List.Mem.tail _ (List.Mem.head _)))))
theorem Mw6 : kx6 ∈ wl := List.Mem.tail _ (List.Mem.tail _ (List.Mem.tail _ (List.Mem.tail _ (List.Mem.tail _ (List.Mem.tail _ (List.Mem.head _))))))
theorem Mw7 : kx7 ∈ wl := List.Mem.tail _ (List.Mem.tail _ (List.Mem.tail _ (List.Mem.tail _ (List.Mem.tail _ (List.Mem.tail _ (List.Mem.tail _ (List.Mem.head _)))))))
theorem Mw8 : kx8 ∈ wl := List.Mem.tail _ (List.Mem.tail _ (List.Mem.tail _ (List.Mem.tail _ (List.Mem.tail _ (List.Mem.tail _ (List.Mem.tail _ (List.Mem.tail _ (List.Mem.head _))))))))
theorem Mw9 : kx9 ∈ wl := List.Mem.tail _ (List.Mem.tail _ (List.Mem.tail _ (List.Mem.tail _ (List.Mem.tail _ (List.Mem.tail _ (List.Mem.tail _ (List.Mem.tail _ (List.Mem.tail _ (List.Mem.head _)))))))))
theorem Mw10 : kx10 ∈ wl := List.Mem.tail _ (List.Mem.tail _ (List.Mem.tail _ (List.Mem.tail _ (List.Mem.tail _ (List.Mem.tail _ (List.Mem.tail _ (List.Mem.tail _ (List.Mem.tail _ (List.Mem.tail _ (List.Mem.head _))))))))))
theorem Mw11 : kx11 ∈ wl := List.Mem.tail _ (List.Mem.tail _ (List.Mem.tail _ (List.Mem.tail _ (List.Mem.tail _ (List.Mem.tail _ (List.Mem.tail _ (List.Mem.tail _ (List.Mem.tail _ (List.Mem.tail _ (List.Mem.tail _ (List.Mem.head _)))))))))))
theorem Mw12 : kx12 ∈ wl := List.Mem.tail _ (List.Mem.tail _ (List.Mem.tail _ (List.Mem.tail _ (List.Mem.tail _ (List.Mem.tail _ (List.Mem.tail _ (List.Mem.tail _ (List.Mem.tail _ (List.Mem.tail _ (List.Mem.tail _ (List.Mem.tail _ (List.Mem.head _))))))))))))
theorem Mw13 : kx13 ∈ wl := List.Mem.tail _ (List.Mem.tail _ (List.Mem.tail _ (List.Mem.tail _ (List.Mem.tail _ (List.Mem.tail _ (List.Mem.tail _ (List.Mem.tail _ (List.Mem.tail _ (List.Mem.tail _ (List.Mem.tail _ (List.Mem.tail _ (List.Mem.tail _ (List.Mem.head _)))))))))))))
theorem Mw14 : kx14 ∈ wl := List.Mem.tail _ (List.Mem.tail _ (List.Mem.tail _ (List.Mem.tail _ (List.Mem.tail _ (List.Mem.tail _ (List.Mem.tail _ (List.Mem.tail _ (List.Mem.tail _ (List.Mem.tail _ (List.Mem.tail _ (List.Mem.tail _ (List.Mem.tail _ (List.Mem.tail _ (List.Mem.head _))))))))))))))
theorem Mw15 : kx15 ∈ wl := List.Mem.tail _ (List.Mem.tail _ (List.Mem.tail _ (List.Mem.tail _ (List.Mem.tail _ (List.Mem.tail _ (List.Mem.tail _ (List.Mem.tail _ (List.Mem.tail _ (List.Mem.tail _ (List.Mem.tail _ (List.Mem.tail _ (List.Mem.tail _ (List.Mem.tail _ (List.Mem.tail _ (List.Mem.head _)))))))))))))))
theorem Mw16 : kx16 ∈ wl := List.Mem.tail _ (List.Mem.tail _ (List.Mem.tail _ (List.Mem.tail _ (List.Mem.tail _ (List.Mem.tail _ (List.Mem.tail _ (List.Mem.tail _ (List.Mem.tail _ (List.Mem.tail _ (List.Mem.tail _ (List.Mem.tail _ (List.Mem.tail _ (List.Mem.tail _ (List.Mem.tail _ (List.Mem.tail _ (List.Mem.head _))))))))))))))))
theorem Mw17 : kx17 ∈ wl := List.Mem.tail _ (List.Mem.tail _ (List.Mem.tail _ (List.Mem.tail _ (List.Mem.tail _ (List.Mem.tail _ (List.Mem.tail _ (List.Mem.tail _ (List.Mem.tail _ (List.Mem.tail _ (List.Mem.tail _ (List.Mem.tail _ (List.Mem.tail _ (List.Mem.tail _ (List.Mem.tail _ (List.Mem.tail _ (List.Mem.tail _ (List.Mem.head _)))))))))))))))))
theorem Mw18 : kx18 ∈ wl := List.Mem.tail _ (List.Mem.tail _ (List.Mem.tail _ (List.Mem.tail _ (List.Mem.tail _ (List.Mem.tail _ (List.Mem.tail _ (List.Mem.tail _ (List.Mem.tail _ (List.Mem.tail _ (List.Mem.tail _ (List.Mem.tail _ (List.Mem.tail _ (List.Mem.tail _ (List.Mem.tail _ (List.Mem.tail _ (List.Mem.tail _ (List.Mem.tail _ (List.Mem.head _))))))))))))))))))
theorem kls_sub {x : Vl} (hx : x ∈ kls) : x ∈ wl := by
  have h : ∀ x ∈ kls, x ∈ wl := List.forall_mem_cons.2 ⟨Mw0, List.forall_mem_cons.2 ⟨Mw1, List.forall_mem_cons.2 ⟨Mw2, List.forall_mem_cons.2 ⟨Mw3, List.forall_mem_cons.2 ⟨Mw4, List.forall_mem_cons.2 ⟨Mw5, List.forall_mem_cons.2 ⟨Mw6, List.forall_mem_cons.2 ⟨Mw7, List.forall_mem_cons.2 ⟨Mw8, List.forall_mem_cons.2 ⟨Mw9, List.forall_mem_cons.2 ⟨Mw10, List.forall_mem_cons.2 ⟨Mw11, List.forall_mem_cons.2 ⟨Mw12, List.forall_mem_cons.2 ⟨Mw13, List.forall_mem_cons.2 ⟨Mw14, List.forall_mem_cons.2 ⟨Mw15, List.forall_mem_cons.2 ⟨Mw16, List.forall_mem_cons.2 ⟨Mw17, List.forall_mem_cons.2 ⟨Mw18, List.forall_mem_cons.2 ⟨Mw0, List.forall_mem_cons.2 ⟨Mw1, List.forall_mem_cons.2 ⟨Mw2, List.forall_mem_cons.2 ⟨Mw3, List.forall_mem_cons.2 ⟨Mw4, List.forall_mem_cons.2 ⟨Mw5, List.forall_mem_cons.2 ⟨Mw6, List.forall_mem_cons.2 ⟨Mw7, List.forall_mem_cons.2 ⟨Mw8, List.forall_mem_cons.2 ⟨Mw9, List.forall_mem_cons.2 ⟨Mw10, List.forall_mem_cons.2 ⟨Mw11, List.forall_mem_cons.2 ⟨Mw12, List.forall_mem_cons.2 ⟨Mw13, List.forall_mem_cons.2 ⟨Mw14, List.forall_mem_cons.2 ⟨Mw15, List.forall_mem_cons.2 ⟨Mw16, List.forall_mem_cons.2 ⟨Mw17, List.forall_mem_cons.2 ⟨Mw18, List.forall_mem_cons.2 ⟨Mw0, List.forall_mem_cons.2 ⟨Mw1, List.forall_mem_cons.2 ⟨Mw2, List.forall_mem_cons.2 ⟨Mw3, List.forall_mem_cons.2 ⟨Mw4, List.forall_mem_cons.2 ⟨Mw5, List.forall_mem_cons.2 ⟨Mw6, List.forall_mem_cons.2 ⟨Mw7, List.forall_mem_cons.2 ⟨Mw8, List.forall_mem_cons.2 ⟨Mw9, List.forall_mem_cons.2 ⟨Mw10, List.forall_mem_cons.2 ⟨Mw11, List.forall_mem_cons.2 ⟨Mw12, List.forall_mem_cons.2 ⟨Mw13, List.forall_mem_cons.2 ⟨Mw14, List.forall_mem_cons.2 ⟨Mw15, List.forall_mem_cons.2 ⟨Mw16, List.forall_mem_cons.2 ⟨Mw17, List.forall_mem_cons.2 ⟨Mw18, List.forall_mem_cons.2 ⟨Mw0, List.forall_mem_cons.2 ⟨Mw1, List.forall_mem_cons.2 ⟨Mw2, List.forall_mem_cons.2 ⟨Mw3, List.forall_mem_cons.2 ⟨Mw4, List.forall_mem_cons.2 ⟨Mw5, List.forall_mem_cons.2 ⟨Mw6, List.forall_mem_cons.2 ⟨Mw7, List.forall_mem_cons.2 ⟨Mw8, List.forall_mem_cons.2 ⟨Mw9, List.forall_mem_cons.2 ⟨Mw10, List.forall_mem_cons.2 ⟨Mw11, List.forall_mem_cons.2 ⟨Mw12, List.forall_mem_cons.2 ⟨Mw13, List.forall_mem_cons.2 ⟨Mw14, List.forall_mem_cons.2 ⟨Mw15, List.forall_mem_cons.2 ⟨Mw16, List.forall_mem_cons.2 ⟨Mw17, List.forall_mem_cons.2 ⟨Mw18, List.forall_mem_cons.2 ⟨Mw0, List.forall_mem_cons.2 ⟨Mw1, List.forall_mem_cons.2 ⟨Mw2, List.forall_mem_cons.2 ⟨Mw3, List.forall_mem_cons.2 ⟨Mw4, List.forall_mem_cons.2 ⟨Mw5, List.forall_mem_cons.2 ⟨Mw6, List.forall_mem_cons.2 ⟨Mw7, List.forall_mem_cons.2 ⟨Mw8, List.forall_mem_cons.2 ⟨Mw9, List.forall_mem_cons.2 ⟨Mw10, List.forall_mem_cons.2 ⟨Mw11, List.forall_mem_cons.2 ⟨Mw12, List.forall_mem_cons.2 ⟨Mw13, List.forall_mem_cons.2 ⟨Mw14, List.forall_mem_cons.2 ⟨Mw15, List.forall_mem_cons.2 ⟨Mw16, List.forall_mem_cons.2 ⟨Mw17, List.forall_mem_cons.2 ⟨Mw18, List.forall_mem_cons.2 ⟨Mw0, List.forall_mem_cons.2 ⟨Mw1, List.forall_mem_cons.2 ⟨Mw2, List.forall_mem_cons.2 ⟨Mw3, List.forall_mem_cons.2 ⟨Mw4, List.forall_mem_cons.2 ⟨Mw5, List.forall_mem_cons.2 ⟨Mw6, List.forall_mem_cons.2 ⟨Mw7, List.forall_mem_cons.2 ⟨Mw8, List.forall_mem_cons.2 ⟨Mw9, List.forall_mem_cons.2 ⟨Mw10, List.forall_mem_cons.2 ⟨Mw11, List.forall_mem_cons.2 ⟨Mw12, List.forall_mem_cons.2 ⟨Mw13, List.forall_mem_cons.2 ⟨Mw14, List.forall_mem_cons.2 ⟨Mw15, List.forall_mem_cons.2 ⟨Mw16, List.forall_mem_cons.2 ⟨Mw17, List.forall_mem_cons.2 ⟨Mw18, List.forall_mem_cons.2 ⟨Mw0, List.forall_mem_cons.2 ⟨Mw1, List.forall_mem_cons.2 ⟨Mw2, List.forall_mem_cons.2 ⟨Mw3, List.forall_mem_cons.2 ⟨Mw4, List.forall_mem_cons.2 ⟨Mw5, List.forall_mem_cons.2 ⟨Mw6, List.forall_mem_cons.2 ⟨Mw7, List.forall_mem_cons.2 ⟨Mw8, List.forall_mem_cons.2 ⟨Mw9, List.forall_mem_cons.2 ⟨Mw10, List.forall_mem_cons.2 ⟨Mw11, List.forall_mem_cons.2 ⟨Mw12, List.forall_mem_cons.2 ⟨Mw13, List.forall_mem_cons.2 ⟨Mw14, List.forall_mem_cons.2 ⟨Mw15, List.forall_mem_cons.2 ⟨Mw16, List.forall_mem_cons.2 ⟨Mw17, List.forall_mem_cons.2 ⟨Mw18, List.forall_mem_cons.2 ⟨Mw0, List.forall_mem_cons.2 ⟨Mw1, List.forall_mem_cons.2 ⟨Mw2, List.forall_mem_cons.2 ⟨Mw3, List.forall_mem_cons.2 ⟨Mw4, List.forall_mem_cons.2 ⟨Mw5, List.forall_mem_cons.2 ⟨Mw6, List.forall_mem_cons.2 ⟨Mw7, List.forall_mem_cons.2 ⟨Mw8, List.forall_mem_cons.2 ⟨Mw9, List.forall_mem_cons.2 ⟨Mw10, List.forall_mem_cons.2 ⟨Mw11, List.forall_mem_cons.2 ⟨Mw12, List.forall_mem_cons.2 ⟨Mw13, List.forall_mem_cons.2 ⟨Mw14, List.forall_mem_cons.2 ⟨Mw15, List.forall_mem_cons.2 ⟨Mw16, List.forall_mem_cons.2 ⟨Mw17, List.forall_mem_cons.2 ⟨Mw18, List.forall_mem_cons.2 ⟨Mw0, List.forall_mem_cons.2 ⟨Mw1, List.forall_mem_cons.2 ⟨Mw2, List.forall_mem_cons.2 ⟨Mw3, List.forall_mem_cons.2 ⟨Mw4, List.forall_mem_cons.2 ⟨Mw5, List.forall_mem_cons.2 ⟨Mw6, List.forall_mem_cons.2 ⟨Mw7, List.forall_mem_cons.2 ⟨Mw8, List.forall_mem_cons.2 ⟨Mw9, List.forall_mem_cons.2 ⟨Mw10, List.forall_mem_cons.2 ⟨Mw11, List.forall_mem_cons.2 ⟨Mw12, List.forall_mem_cons.2 ⟨Mw13, List.forall_mem_cons.2 ⟨Mw14, List.forall_mem_cons.2 ⟨Mw15, List.forall_mem_cons.2 ⟨Mw16, List.forall_mem_cons.2 ⟨Mw17, List.forall_mem_cons.2 ⟨Mw18, List.forall_mem_cons.2 ⟨Mw0, List.forall_mem_cons.2 ⟨Mw1, List.forall_mem_cons.2 ⟨Mw2, List.forall_mem_cons.2 ⟨Mw3, List.forall_mem_cons.2 ⟨Mw4, List.forall_mem_cons.2 ⟨Mw5, List.forall_mem_cons.2 ⟨Mw6, List.forall_mem_cons.2 ⟨Mw7, List.forall_mem_cons.2 ⟨Mw8, List.forall_mem_cons.2 ⟨Mw9, List.forall_mem_cons.2 ⟨Mw10, List.forall_mem_cons.2 ⟨Mw11, List.forall_mem_cons.2 ⟨Mw12, List.forall_mem_cons.2 ⟨Mw13, List.forall_mem_cons.2 ⟨Mw14, List.forall_mem_cons.2 ⟨Mw15, List.forall_mem_cons.2 ⟨Mw16, List.forall_mem_cons.2 ⟨Mw17, List.forall_mem_cons.2 ⟨Mw18, List.forall_mem_cons.2 ⟨Mw0, List.forall_mem_cons.2 ⟨Mw1, List.forall_mem_cons.2 ⟨Mw2, List.forall_mem_cons.2 ⟨Mw3, List.forall_mem_cons.2 ⟨Mw4, List.forall_mem_cons.2 ⟨Mw5, List.forall_mem_cons.2 ⟨Mw6, List.forall_mem_cons.2 ⟨Mw7, List.forall_mem_cons.2 ⟨Mw8, List.forall_mem_cons.2 ⟨Mw9, List.forall_mem_cons.2 ⟨Mw10, List.forall_mem_cons.2 ⟨Mw11, List.forall_mem_cons.2 ⟨Mw12, List.forall_mem_cons.2 ⟨Mw13, List.forall_mem_cons.2 ⟨Mw14, List.forall_mem_cons.2 ⟨Mw15, List.forall_mem_cons.2 ⟨Mw16, List.forall_mem_cons.2 ⟨Mw17, List.forall_mem_cons.2 ⟨Mw18, List.forall_mem_cons.2 ⟨Mw0, List.forall_mem_cons.2 ⟨Mw1, List.forall_mem_cons.2 ⟨Mw2, List.forall_mem_cons.2 ⟨Mw3, List.forall_mem_cons.2 ⟨Mw4, List.forall_mem_cons.2 ⟨Mw5, List.forall_mem_cons.2 ⟨Mw6, List.forall_mem_cons.2 ⟨Mw7, List.forall_mem_cons.2 ⟨Mw8, List.forall_mem_cons.2 ⟨Mw9, List.forall_mem_cons.2 ⟨Mw10, List.forall_mem_cons.2 ⟨Mw11, List.forall_mem_cons.2 ⟨Mw12, List.forall_mem_cons.2 ⟨Mw13, List.forall_mem_cons.2 ⟨Mw14, List.forall_mem_cons.2 ⟨Mw15, List.forall_mem_cons.2 ⟨Mw16, List.forall_mem_cons.2 ⟨Mw17, List.forall_mem_cons.2 ⟨Mw18, fun q hq => by cases hq⟩⟩⟩⟩⟩⟩⟩⟩⟩⟩⟩⟩⟩⟩⟩⟩⟩⟩⟩⟩⟩⟩⟩⟩⟩⟩⟩⟩⟩⟩⟩⟩⟩⟩⟩⟩⟩⟩⟩⟩⟩⟩⟩⟩⟩⟩⟩⟩⟩⟩⟩⟩⟩⟩⟩⟩⟩⟩⟩⟩⟩⟩⟩⟩⟩⟩⟩⟩⟩⟩⟩⟩⟩⟩⟩⟩⟩⟩⟩⟩⟩⟩⟩⟩⟩⟩⟩⟩⟩⟩⟩⟩⟩⟩⟩⟩⟩⟩⟩⟩⟩⟩⟩⟩⟩⟩⟩⟩⟩⟩⟩⟩⟩⟩⟩⟩⟩⟩⟩⟩⟩⟩⟩⟩⟩⟩⟩⟩⟩⟩⟩⟩⟩⟩⟩⟩⟩⟩⟩⟩⟩⟩⟩⟩⟩⟩⟩⟩⟩⟩⟩⟩⟩⟩⟩⟩⟩⟩⟩⟩⟩⟩⟩⟩⟩⟩⟩⟩⟩⟩⟩⟩⟩⟩⟩⟩⟩⟩⟩⟩⟩⟩⟩⟩⟩⟩⟩⟩⟩⟩⟩⟩⟩⟩⟩⟩⟩⟩⟩⟩⟩⟩⟩⟩⟩⟩⟩⟩⟩⟩⟩⟩⟩⟩⟩⟩⟩⟩⟩⟩⟩⟩⟩⟩⟩⟩⟩⟩
  exact h x hx
theorem g2_den6 {E : Env} (hE : E.fn = fns) : (SB.ap 2 (.a (.v 0) (.i (.v 41) .nil))).den E = true ↔ goodA (E.a 0) (E.i 41).toNat := by
  show E.fn.g 2 [.a ((AE.v 0).den E), .i (E.i 41)] = true ↔ _
  rw [hE]
  exact @decide_eq_true_iff _ (Classical.propDecidable _)
theorem ct6_ok : CtOk Tryd.prog fns ct6 := by
  refine ct_of_ptsX (p := prm6 Tryd.prog) (pts := []) (n := 900) (c0 := enterD (prm6 Tryd.prog) ct6) (fun E hE => prm6_ok E hE) rfl (by intro q hq; cases hq) Tryd.func6 (by kernel_rfl) (by intro t ht; cases ht) (fun _ _ _ => True) (fun _ _ _ => 0) kls krun ?_ (by intro i t ht; simp at ht)
  intro E0 hE hF
  simp only [ct6, codF, bd, List.cons_append, List.nil_append, facts_cons, facts_nil, le_t, d_c, d_v, d_add, and_true, g1_den hE, g2_den6 hE] at hF
  obtain ⟨n0, n1, o0, o1, l0, l1, c0, c1, lc, ol, hr, x0, x0b, x2, x2b, x7, x7b, x8, x8b, x78, x02, hg, xn, xnb⟩ := hF
  have hp : Pre6 E0 := ⟨n0, n1, l1, ⟨x0, x0b⟩, ⟨x2, x2b⟩, ⟨x7, x7b⟩, ⟨x8, x8b⟩, x78, x02, hg, ⟨xn, xnb⟩⟩
  refine ⟨noFacts (by simp [ct6]), fun E' hag _ x hx => ?_⟩
  have all : ∀ y ∈ ([kx0, kx1, kx2, kx3, kx4, kx5, kx6, kx7, kx8, kx9, kx10, kx11, kx12, kx13, kx14, kx15, kx16, kx17, kx18] : List Vl), VOkX [] ct6 (fun _ _ _ => True) (fun _ _ _ => 0) none E0 E' y := by
    intro y hy
    simp only [List.mem_cons, List.not_mem_nil, or_false] at hy
    rcases hy with rfl | rfl | rfl | rfl | rfl | rfl | rfl | rfl | rfl | rfl | rfl | rfl | rfl | rfl | rfl | rfl | rfl | rfl | rfl
    · exact w_kx0 hp hag
    · exact w_kx1 hp hag
    · exact w_kx2 hp hag
    · exact w_kx3 hp hag
    · exact w_kx4 hp hag
    · exact w_kx5 hp hag
    · exact w_kx6 hp hag
    · exact w_kx7 hp hag
    · exact w_kx8 hp hag
    · exact w_kx9 hp hag
    · exact w_kx10 hp hag
    · exact w_kx11 hp hag
    · exact w_kx12 hp hag
    · exact w_kx13 hp hag
    · exact w_kx14 hp hag
    · exact w_kx15 hp hag
    · exact w_kx16 hp hag
    · exact w_kx17 hp hag
    · exact w_kx18 hp hag
  exact all x (kls_sub hx)
end Go.Proofs.YtpjifimjoinnnaaDoor
