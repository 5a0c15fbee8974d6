import PyProof.Rows.All
import Wide.All
import OpenK.AllK
import Wide.FinOn
import PySem.Challenge.RW_ah0021_01
set_option Elab.async false

section
open PySem PySem.W PyProof.Rows
set_option maxRecDepth 100000
set_option maxHeartbeats 0
namespace Mine
open_top hd for PySem.Challenge.rw_ah0021_01
end Mine
end

section
open PySem PySem.W PyProof.Rows PySem.Calls
set_option maxRecDepth 100000
set_option maxHeartbeats 0
namespace Mine
local macro_rules | `(tactic| k_room) => `(tactic| ((try simp only [depth_mark, depth_under_make, depth_under_kw, depth_in1, depth_deeper, depth_caller]); (try dsimp only [ktrTop]); omega))
local macro_rules | `(tactic| k_units) => `(tactic| (have hcL9 := cLine_is; (try simp only [units_in1, units_deeper, Around.mark_units, units_caller]); (try dsimp only [ktrTop]); omega))
section
variable {w : World} {p : Program} {loose : List Str} {mean : ExcName → Option Value} {mg mb : Str → Option Value}
  {dp un : Nat} {gd : Option (List Code)} {cn : Str} {cs : Scope} {a : Addr} {ccd : Value} {cl : List (Str × Addr)} {outer : List Env} {A₀ : Around} {base h₀ : Heap} {L : Addr} {m : Str → Option Value} {news : List (Addr × Obj)} {s : Shared} {Q E : Value → Shared → Prop}
theorem midnight_spec {jd : Int} {tk : Tok}
    (B : Below A₀ base outer h₀) (F : Fr h₀ L s.heap m) (X : (hd.heap_39 w.params).In h₀) (N : News h₀ L s.heap news) (T : Top p loose mean mg mb h₀) (hk : cs.kind = .function) (hd : dp + 5 < recursionLimit) (hu : un + 20 < cLine)
    (h0 : 584283 ≤ jd) (h1 : jd ≤ 30000000000)
    (hret : ∀ (t : Tok) (h' : Heap) (tk' : Nat), Fr h₀ L h' m → News h₀ L h' news → Q (.int jd t) { s with heap := h', toks := tk' }) :
    wpAny (model PySem.Challenge.rw_ah0021_01.row.prog w) (ktrTop dp un gd cn cs L a ccd cl outer) (call (.ref 21) [.int jd tk]) Q E s := by
  revert X; k_fill; intro X
  refine wpAny_call ?_
  k_dflt cell_enter
  k_steps
  all_goals exact hret _ _ _ (by assumption) (by assumption)
theorem amod_zero {x y : Int} (h0 : 0 < y) (h : x % y = 0) : (x - 1) % y + 1 = y := by
  obtain ⟨k, rfl⟩ := Int.dvd_of_emod_eq_zero h
  have e : y * k - 1 = (y - 1) + y * (k - 1) := by rw [Int.mul_sub]; omega
  rw [e, Int.add_mul_emod_self_left, Int.emod_eq_of_lt (by omega) (by omega)]; omega
theorem amod_pos {x y : Int} (h0 : 0 < y) (h : x % y ≠ 0) : (x - 1) % y + 1 = x % y := by
  have h1 := Int.emod_nonneg x (Int.ne_of_gt h0)
  have h2 := Int.emod_lt_of_pos x h0
  have e := Int.emod_add_mul_ediv x y
  have e2 : x - 1 = (x % y - 1) + y * (x / y) := by omega
  rw [e2, Int.add_mul_emod_self_left, Int.emod_eq_of_lt (by omega) (by omega)]; omega
theorem amod_spec {x y : Int} {tk tk2 : Tok}
    (B : Below A₀ base outer h₀) (F : Fr h₀ L s.heap m) (X : (hd.heap_39 w.params).In h₀) (N : News h₀ L s.heap news) (T : Top p loose mean mg mb h₀) (hk : cs.kind = .function) (hd : dp + 5 < recursionLimit) (hu : un + 20 < cLine)
    (h0 : 0 < y) (h1 : y ≤ 100) (h2 : 0 ≤ x) (h3 : x ≤ 100000000000)
    (hret : ∀ (t : Tok) (h' : Heap) (tk' : Nat), Fr h₀ L h' m → News h₀ L h' news → Q (.int ((x - 1) % y + 1) t) { s with heap := h', toks := tk' }) :
    wpAny (model PySem.Challenge.rw_ah0021_01.row.prog w) (ktrTop dp un gd cn cs L a ccd cl outer) (call (.ref 28) [.int x tk, .int y tk2]) Q E s := by
  revert X; k_fill; intro X
  have e : x.fmod y = x % y := Int.fmod_eq_emod_of_nonneg _ (by omega)
  refine wpAny_call ?_
  k_dflt cell_enter
  k_steps
  · have e1 : (x - 1) % y + 1 = y := amod_zero h0 (by omega)
    rw [e1] at hret
    exact hret _ _ _ (by assumption) (by assumption)
  · have e1 : (x - 1) % y + 1 = x.fmod y := by rw [e]; exact amod_pos h0 (by omega)
    rw [e1] at hret
    exact hret _ _ _ (by assumption) (by assumption)
end
end Mine
end

section
open PySem PySem.W PyProof.Rows PySem.Calls
set_option maxRecDepth 100000
set_option maxHeartbeats 0
set_option linter.unusedVariables false
namespace Mine
local macro_rules | `(tactic| k_room) => `(tactic| ((try simp only [depth_mark, depth_under_make, depth_under_kw, depth_in1, depth_deeper, depth_caller]); (try dsimp only [ktrTop]); omega))
local macro_rules | `(tactic| k_units) => `(tactic| (have hcL9 := cLine_is; (try simp only [units_in1, units_deeper, Around.mark_units, units_caller]); (try dsimp only [ktrTop]); omega))
local macro_rules | `(tactic| walk_at "call ref") => `(tactic| (k_here; (with_reducible show wpAny _ _ (call (Value.ref 21) [Value.int _ _]) _ _ _); k_dflt (refine' midnight_spec ?k1 ?k2 ?k3 ?k4 ?k5 ?k6 ?k7 ?k8 ?k9 ?k10 ?_; (case k1 => k_asm); (case k2 => k_asm); (case k3 => k_asm); (case k4 => k_asm); (case k5 => k_asm); (case k6 => first | assumption | rfl); (case k7 => k_room); (case k8 => k_units); (case k9 => omega); (case k10 => omega)); intro t9 h9 tk9 F9 N9; (try dsimp only); (try k_sweep)))
local macro_rules | `(tactic| walk_at "call ref") => `(tactic| (k_here; (with_reducible show wpAny _ _ (call (Value.ref 28) [Value.int _ _, Value.int _ _]) _ _ _); k_dflt (refine' amod_spec ?k1 ?k2 ?k3 ?k4 ?k5 ?k6 ?k7 ?k8 ?k9 ?k10 ?k11 ?k12 ?_; (case k1 => k_asm); (case k2 => k_asm); (case k3 => k_asm); (case k4 => k_asm); (case k5 => k_asm); (case k6 => first | assumption | rfl); (case k7 => k_room); (case k8 => k_units); (case k9 => omega); (case k10 => omega); (case k11 => omega); (case k12 => omega)); intro t9 h9 tk9 F9 N9; (try dsimp only); (try k_sweep)))
def haabS : List Str := [Str.ofString "Pop", Str.ofString "Wo'", Str.ofString "Zip", Str.ofString "Sotz'", Str.ofString "Sek", Str.ofString "Xul", Str.ofString "Yaxk'in'", Str.ofString "Mol", Str.ofString "Ch'en", Str.ofString "Yax", Str.ofString "Sak'", Str.ofString "Keh", Str.ofString "Mak", Str.ofString "K'ank'in", Str.ofString "Muwan'", Str.ofString "Pax", Str.ofString "K'ayab", Str.ofString "Kumk'u", Str.ofString "Wayeb'"]
def tzS : List Str := [Str.ofString "Imix'", Str.ofString "Ik'", Str.ofString "Ak'b'al", Str.ofString "K'an", Str.ofString "Chikchan", Str.ofString "Kimi", Str.ofString "Manik'", Str.ofString "Lamat", Str.ofString "Muluk", Str.ofString "Ok", Str.ofString "Chuwen", Str.ofString "Eb'", Str.ofString "B'en", Str.ofString "Ix", Str.ofString "Men", Str.ofString "K'ib'", Str.ofString "Kab'an", Str.ofString "Etz'nab'", Str.ofString "Kawak", Str.ofString "Ajaw"]
@[irreducible] def haabName (i : Int) : Str := haabS.getD i.toNat Str.empty
@[irreducible] def tzName (i : Int) : Str := tzS.getD i.toNat Str.empty
theorem haabName_def (i : Int) : haabName i = haabS.getD i.toNat Str.empty := by unfold haabName; rfl
theorem tzName_def (i : Int) : tzName i = tzS.getD i.toNat Str.empty := by unfold tzName; rfl
theorem haabS_len : haabS.length = 19 := rfl
theorem tzS_len : tzS.length = 20 := rfl
theorem haabS_nodup : haabS.Nodup := by decide +kernel
theorem tzS_nodup : tzS.Nodup := by decide +kernel
theorem getD_inj {l : List Str} (hn : l.Nodup) {i j : Nat} (hi : i < l.length) (hj : j < l.length) (e : l.getD i Str.empty = l.getD j Str.empty) : i = j := by
  rw [List.getD_eq_getElem?_getD, List.getD_eq_getElem?_getD, List.getElem?_eq_getElem hi, List.getElem?_eq_getElem hj] at e
  exact (List.getElem_inj hn).mp e
theorem haabName_inj {i j : Int} (h0 : 0 ≤ i) (h1 : i < 19) (h2 : 0 ≤ j) (h3 : j < 19) : haabName i = haabName j ↔ i = j := by
  refine ⟨fun e => ?_, fun e => by rw [e]⟩
  rw [haabName_def, haabName_def] at e
  have := getD_inj haabS_nodup (by rw [haabS_len]; omega) (by rw [haabS_len]; omega) e
  omega
theorem tzName_inj {i j : Int} (h0 : 0 ≤ i) (h1 : i < 20) (h2 : 0 ≤ j) (h3 : j < 20) : tzName i = tzName j ↔ i = j := by
  refine ⟨fun e => ?_, fun e => by rw [e]⟩
  rw [tzName_def, tzName_def] at e
  have := getD_inj tzS_nodup (by rw [tzS_len]; omega) (by rw [tzS_len]; omega) e
  omega
abbrev tupIS (i : Int) (t : Tok) (x : Str) (u : Tok) : Obj := { cls := .type "tuple", data := .seq #[.int i t, .str x u] }
section
variable {w : World} {p : Program} {loose : List Str} {mean : ExcName → Option Value} {mg mb : Str → Option Value}
  {dp un : Nat} {gd : Option (List Code)} {cn : Str} {cs : Scope} {a : Addr} {ccd : Value} {cl : List (Str × Addr)} {outer : List Env} {A₀ : Around} {base h₀ : Heap} {L : Addr} {m : Str → Option Value} {news : List (Addr × Obj)} {s : Shared} {Q E : Value → Shared → Prop}
theorem haab_spec {jd : Int} {tk : Tok}
    (B : Below A₀ base outer h₀) (F : Fr h₀ L s.heap m) (X : (hd.heap_39 w.params).In h₀) (N : News h₀ L s.heap news) (T : Top p loose mean mg mb h₀) (hk : cs.kind = .function) (hd : dp + 10 < recursionLimit) (hu : un + 40 < cLine)
    (h0 : 584283 ≤ jd) (h1 : jd ≤ 30000000000)
    (hret : ∀ (D : Addr) (t1 t2 : Tok) (h' : Heap) (tk' : Nat), Fr h₀ L h' m → News h₀ L h' ((D, tupIS ((jd - 583935) % 365 % 20) t1 (haabName ((jd - 583935) % 365 / 20)) t2) :: news) → (∀ p ∈ news, p.1 < D) → Q (.ref D) { s with heap := h', toks := tk' }) :
    wpAny (model PySem.Challenge.rw_ah0021_01.row.prog w) (ktrTop dp un gd cn cs L a ccd cl outer) (call (.ref 37) [.int jd tk]) Q E s := by
  revert X; k_fill; intro X
  refine wpAny_call ?_
  k_dflt cell_enter
  k_steps
  have e1 : ((jd - 584283 + 348).fmod 365).fmod 20 = (jd - 583935) % 365 % 20 := by
    rw [Int.fmod_eq_emod_of_nonneg _ (by omega), Int.fmod_eq_emod_of_nonneg _ (by omega), show jd - 584283 + 348 = jd - 583935 by omega]
  have e2 : haabS.getD (((jd - 584283 + 348).fmod 365).fdiv 20).toNat Str.empty = haabName ((jd - 583935) % 365 / 20) := by
    rw [haabName_def, Int.fmod_eq_emod_of_nonneg _ (by omega), Int.fdiv_eq_ediv_of_nonneg _ (by omega), show jd - 584283 + 348 = jd - 583935 by omega]
  rw [← e1, ← e2] at hret
  exact hret _ _ _ _ _ (by assumption) (by assumption) (by assumption)
theorem tz_spec {jd : Int} {tk : Tok}
    (B : Below A₀ base outer h₀) (F : Fr h₀ L s.heap m) (X : (hd.heap_39 w.params).In h₀) (N : News h₀ L s.heap news) (T : Top p loose mean mg mb h₀) (hk : cs.kind = .function) (hd : dp + 10 < recursionLimit) (hu : un + 40 < cLine)
    (h0 : 584283 ≤ jd) (h1 : jd ≤ 30000000000)
    (hret : ∀ (D : Addr) (t1 t2 : Tok) (h' : Heap) (tk' : Nat), Fr h₀ L h' m → News h₀ L h' ((D, tupIS ((jd - 584280) % 13 + 1) t1 (tzName ((jd - 584264) % 20)) t2) :: news) → (∀ p ∈ news, p.1 < D) → Q (.ref D) { s with heap := h', toks := tk' }) :
    wpAny (model PySem.Challenge.rw_ah0021_01.row.prog w) (ktrTop dp un gd cn cs L a ccd cl outer) (call (.ref 44) [.int jd tk]) Q E s := by
  revert X; k_fill; intro X
  refine wpAny_call ?_
  k_dflt cell_enter
  k_steps
  have e1 : (jd - 584283 + 4 - 1) % 13 + 1 = (jd - 584280) % 13 + 1 := by omega
  have e2 : tzS.getD ((jd - 584283 + 20 - 1) % 20 + 1 - 1).toNat Str.empty = tzName ((jd - 584264) % 20) := by
    rw [tzName_def, show (jd - 584283 + 20 - 1) % 20 + 1 - 1 = (jd - 584264) % 20 by omega]
  rw [← e1, ← e2] at hret
  exact hret _ _ _ _ _ (by assumption) (by assumption) (by assumption)
end
end Mine
end

section
open PySem PySem.W PyProof.Rows PySem.Calls
set_option maxRecDepth 100000
set_option maxHeartbeats 0
set_option linter.unusedVariables false
namespace Mine
local macro_rules | `(tactic| k_room) => `(tactic| ((try simp only [depth_mark, depth_under_make, depth_under_kw, depth_in1, depth_deeper, depth_caller]); (try dsimp only [ktrTop]); omega))
local macro_rules | `(tactic| k_units) => `(tactic| (have hcL9 := cLine_is; (try simp only [units_in1, units_deeper, Around.mark_units, units_caller]); (try dsimp only [ktrTop]); omega))
theorem isStrOf_at (k : Str) : ∀ {vs : List Value} {ys : List Str}, StrsAre vs ys → ∀ (j : Nat) (h1 : j < vs.length) (h2 : j < ys.length), isStrOf k vs[j] = (ys[j] == k)
  | _, _, .nil, j, h1, _ => absurd h1 (Nat.not_lt_zero _)
  | _, _, .cons y t h, 0, _, _ => rfl
  | _, _, .cons y t h, j + 1, h1, h2 => by
    have := isStrOf_at k h j (Nat.lt_of_succ_lt_succ h1) (Nat.lt_of_succ_lt_succ h2)
    simpa using this
theorem StrsAre_length : ∀ {vs : List Value} {ys : List Str}, StrsAre vs ys → vs.length = ys.length
  | _, _, .nil => rfl
  | _, _, .cons y t h => by rw [List.length_cons, List.length_cons, StrsAre_length h]
theorem index_strs {prog : Program} {w : World} {A : Around} {E : Value → Shared → Prop} {s : Shared} {l : Addr} {vs : List Value} {ys : List Str} {j : Nat} {t : Tok} {Q : Value → Shared → Prop} (hl : s.heap.IsList l vs.toArray) (hi : StrsAre vs ys)
    (hsz : ys.length < 1000) (hn : ys.Nodup) (hj : j < ys.length) (h : Q (.int (j : Nat) s.toks) { s with toks := s.toks + 1 }) :
    wpAny (model prog w) A (call (.builtin "list.index") [.ref l, .str (ys.getD j Str.empty) t]) Q E s := by
  obtain ⟨⟨cls, dd, data, sl⟩, ho, hc, n, hd⟩ := id hl
  simp only at hc hd
  subst hc hd
  have hlen := StrsAre_length hi
  have hg : ys.getD j Str.empty = ys[j] := by rw [List.getD_eq_getElem?_getD, List.getElem?_eq_getElem hj]; rfl
  rw [hg]
  refine call_meets PySem.F.slot_list_index ⟨_, ho, rfl⟩ PySem.F.entry_list_index (PySem.F.args_list_index_2 _ _)
    (SeqAt.list_indexAt l vs.toArray n dd sl (.str ys[j] t) (isStrOf ys[j]) j (by simpa [hlen] using hj) (by omega) ?_ ?_) ⟨ho, fun y hy => (eq_isStrOf ys[j] t hi y (by simpa using hy)).at _ _, h⟩
  · show isStrOf ys[j] vs[j] = true
    rw [isStrOf_at ys[j] hi _ (by omega) hj]
    exact beq_self_eq_true _
  · intro i his hlt
    show isStrOf ys[j] vs[i] = false
    rw [isStrOf_at ys[j] hi i (by simpa using his) (by omega)]
    simp only [beq_eq_false_iff_ne]
    intro e
    have := (List.getElem_inj hn).mp e
    omega
section
variable {w : World} {prog : Program} {A : Around} {s : Shared} {Q E : Value → Shared → Prop}
theorem haab_list {h : Heap} (X : (hd.heap_39 w.params).In h) : ∃ vs : List Value, h.IsList 29 vs.toArray ∧ StrsAre vs haabS ∧ h.NoDictAt (.ref 29) :=
  ⟨_, ⟨_, X 29 _ rfl, rfl, 0, rfl⟩, by repeat constructor, ⟨_, X 29 _ rfl, rfl⟩⟩
theorem tz_list {h : Heap} (X : (hd.heap_39 w.params).In h) : ∃ vs : List Value, h.IsList 30 vs.toArray ∧ StrsAre vs tzS ∧ h.NoDictAt (.ref 30) :=
  ⟨_, ⟨_, X 30 _ rfl, rfl, 0, rfl⟩, by repeat constructor, ⟨_, X 30 _ rfl, rfl⟩⟩
theorem haab_index_m {pl : Sem Bool} {Q : Value × List Value → Shared → Prop} (X : (hd.heap_39 w.params).In s.heap) (h : Q (.builtin "list.index", [.ref 29]) s) :
    wpAny (model prog w) A (getMethod (.ref 29) (Str.ofString "index") pl) Q E s := by
  obtain ⟨vs, h1, h2, h3⟩ := haab_list X
  exact getMethod_list_of PySem.F.slot_list_index PySem.F.type_list_index h1 h3 h
theorem tz_index_m {pl : Sem Bool} {Q : Value × List Value → Shared → Prop} (X : (hd.heap_39 w.params).In s.heap) (h : Q (.builtin "list.index", [.ref 30]) s) :
    wpAny (model prog w) A (getMethod (.ref 30) (Str.ofString "index") pl) Q E s := by
  obtain ⟨vs, h1, h2, h3⟩ := tz_list X
  exact getMethod_list_of PySem.F.slot_list_index PySem.F.type_list_index h1 h3 h
theorem haab_index {i : Int} {t : Tok} (X : (hd.heap_39 w.params).In s.heap) (h0 : 0 ≤ i) (h1 : i ≤ 18) (h : ∀ t, Q (.int i t) { s with toks := s.toks + 1 }) :
    wpAny (model prog w) A (call (.builtin "list.index") [.ref 29, .str (haabName i) t]) Q E s := by
  obtain ⟨vs, hl, h2, h3⟩ := haab_list X
  rw [haabName_def]
  refine index_strs hl h2 (by rw [haabS_len]; omega) haabS_nodup (by rw [haabS_len]; omega) ?_
  have e : ((i.toNat : Nat) : Int) = i := by omega
  rw [e]; exact h _
theorem tz_index {i : Int} {t : Tok} (X : (hd.heap_39 w.params).In s.heap) (h0 : 0 ≤ i) (h1 : i ≤ 19) (h : ∀ t, Q (.int i t) { s with toks := s.toks + 1 }) :
    wpAny (model prog w) A (call (.builtin "list.index") [.ref 30, .str (tzName i) t]) Q E s := by
  obtain ⟨vs, hl, h2, h3⟩ := tz_list X
  rw [tzName_def]
  refine index_strs hl h2 (by rw [tzS_len]; omega) tzS_nodup (by rw [tzS_len]; omega) ?_
  have e : ((i.toNat : Nat) : Int) = i := by omega
  rw [e]; exact h _
end
local macro_rules | `(tactic| walk_at "getMethod ref") => `(tactic| (k_here; (with_reducible show wpAny _ _ (getMethod (Value.ref 29) (Str.ofString "index") _) _ _ _); k_dflt (refine' haab_index_m ?X ?_; (case X => k_in))))
local macro_rules | `(tactic| walk_at "getMethod ref") => `(tactic| (k_here; (with_reducible show wpAny _ _ (getMethod (Value.ref 30) (Str.ofString "index") _) _ _ _); k_dflt (refine' tz_index_m ?X ?_; (case X => k_in))))
local macro_rules | `(tactic| walk_at "call builtin:list.index") => `(tactic| (k_here; k_dflt (first | (refine' haab_index ?X ?a ?b ?_; (case X => k_in); (case a => omega); (case b => omega)) | (refine' tz_index ?X ?a ?b ?_; (case X => k_in); (case a => omega); (case b => omega))); intro t9; (try dsimp only)))
section
variable {w : World} {p : Program} {loose : List Str} {mean : ExcName → Option Value} {mg mb : Str → Option Value}
  {dp un : Nat} {gd : Option (List Code)} {cn : Str} {cs : Scope} {a : Addr} {ccd : Value} {cl : List (Str × Addr)} {outer : List Env} {A₀ : Around} {base h₀ : Heap} {L : Addr} {m : Str → Option Value} {news : List (Addr × Obj)} {s : Shared} {Q E : Value → Shared → Prop}
theorem hcount_spec {c i : Int} {tk tk2 : Tok}
    (B : Below A₀ base outer h₀) (F : Fr h₀ L s.heap m) (X : (hd.heap_39 w.params).In h₀) (N : News h₀ L s.heap news) (T : Top p loose mean mg mb h₀) (hk : cs.kind = .function) (hd : dp + 10 < recursionLimit) (hu : un + 40 < cLine)
    (h0 : 0 ≤ c) (h1 : c ≤ 19) (h2 : 0 ≤ i) (h3 : i ≤ 18)
    (hret : ∀ (t : Tok) (h' : Heap) (tk' : Nat), Fr h₀ L h' m → News h₀ L h' news → Q (.int (i * 20 + c) t) { s with heap := h', toks := tk' }) :
    wpAny (model PySem.Challenge.rw_ah0021_01.row.prog w) (ktrTop dp un gd cn cs L a ccd cl outer) (call (.ref 51) [.int c tk, .str (haabName i) tk2]) Q E s := by
  revert X; k_fill; intro X
  refine wpAny_call ?_
  k_dflt cell_enter
  k_steps
  have e : i * 20 + c = (if 360 < i * 20 then 360 else i * 20) + c := by rw [if_neg (by omega)]
  rw [e] at hret
  exact hret _ _ _ (by assumption) (by assumption)
end
end Mine
end

section
open PySem PySem.W PyProof.Rows PySem.Calls
set_option maxRecDepth 100000
set_option linter.unusedVariables false
namespace Mine
theorem eraseIdx_perm {α : Type} (l : List α) (i : Nat) (h : i < l.length) : (l[i] :: l.eraseIdx i).Perm l := by
  have e : l = l.take i ++ l[i] :: l.drop (i + 1) := by rw [← List.drop_eq_getElem_cons h, List.take_append_drop]
  rw [List.eraseIdx_eq_take_drop_succ]
  refine List.perm_middle.symm.trans ?_
  rw [← e]
theorem pickGo_perm {α : Type} (next : Nat → Nat) : ∀ (fuel k : Nat) (left : List α) (out : Array α), fuel = left.length → (pickOrder.go next fuel k left out).toList.Perm (out.toList ++ left)
  | 0, k, left, out, e => by
    have : left = [] := List.length_eq_zero_iff.mp e.symm
    subst this
    rw [List.append_nil]
    show out.toList.Perm out.toList
    exact .refl _
  | fuel + 1, k, left, out, e => by
    have hl : 0 < left.length := by omega
    have hi : next k % left.length < left.length := Nat.mod_lt _ hl
    show (match left[next k % left.length]? with
      | some x => pickOrder.go next fuel (k + 1) (left.eraseIdx (next k % left.length)) (out.push x)
      | none => out).toList.Perm _
    rw [List.getElem?_eq_getElem hi]
    refine (pickGo_perm next fuel (k + 1) _ _ (by rw [List.length_eraseIdx_of_lt hi]; omega)).trans ?_
    rw [Array.toList_push, List.append_assoc]
    refine List.Perm.append_left _ ?_
    exact eraseIdx_perm left _ hi
theorem pickOrder_perm {α : Type} (next : Nat → Nat) (xs : Array α) : (pickOrder next xs).toList.Perm xs.toList := by
  unfold pickOrder
  simpa using pickGo_perm next xs.size 0 xs.toList #[] (by simp)
section
variable {prog : Program} {w : World} {A : Around} {E : Value → Shared → Prop} {s : Shared}
theorem wpAny_forIn_id {M : Model} {α β : Type} {b : β} {f : α → β → Sem (ForInStep β)} {Q : β → Shared → Prop} :
    ∀ (l : List α), (∀ e ∈ l, ∀ (Q' : ForInStep β → Shared → Prop), Q' (.yield b) s → wpAny M A (f e b) Q' E s) → Q b s → wpAny M A (forIn l b f) Q E s
  | [], _, h => by rw [List.forIn_nil]; exact wpAny_pure h
  | e :: l, hf, h => by
    rw [List.forIn_cons]
    refine wpAny_bind (hf e (.head _) _ ?_)
    exact wpAny_forIn_id l (fun x hx => hf x (.tail _ hx)) h
theorem wpAny_setWalk_of {a : Addr} {o : Obj} {es : Array (Int × Value)} {ep : Nat} {t : SetTable} {Q : Array (Int × Value) → Shared → Prop}
    (ho : s.heap.get? a = some o) (hd : o.data = .set es ep t) (hf : t.fits es.size = true)
    (hok : (w.params.followText "set-order" || (t.led && t.plain) || decide (es.size ≤ 1)) = true)
    (h : ∀ es' : Array (Int × Value), es'.toList.Perm es.toList → Q es' s) : wpAny (model prog w) A (setWalk a) Q E s := by
  unfold setWalk setsByText
  refine wpAny_bind (wpAny_setState_of ho hd hf ?_)
  dsimp only
  refine wpAny_bind (wpAny_bind (wpAny_askSetting (wpAny_pure ?_)))
  dsimp only
  by_cases hb : w.params.followText "set-order" = true
  · rw [if_pos (show (model prog w).w.params.followText "set-order" = true from hb)]
    refine wpAny_bind (wpAny_askSetting (wpAny_pure ?_))
    exact h _ (pickOrder_perm _ _)
  · rw [if_neg (show ¬ (model prog w).w.params.followText "set-order" = true from hb)]
    have hb' : w.params.followText "set-order" = false := by simpa using hb
    rw [hb', Bool.false_or] at hok
    show wpAny _ _ (if (!t.plain && decide (es.size > 1)) = true then _ else _) _ _ _
    have h1 : (!t.plain && decide (es.size > 1)) = false := by
      cases hp : t.plain <;> simp_all
    rw [h1]
    simp only [Bool.false_eq_true, ↓reduceIte]
    show wpAny _ _ ((if (!t.led && decide (es.size > 1)) = true then unsupported "set:maker-not-led" else pure ()) >>= fun _ => pure es) _ _ _
    have h2 : (!t.led && decide (es.size > 1)) = false := by
      cases hp : t.led <;> simp_all
    rw [h2]
    simp only [Bool.false_eq_true, ↓reduceIte]
    exact wpAny_bind (wpAny_pure (wpAny_pure (h es (.refl _))))
theorem int_of_elem {es : List (Int × Value)} (h : ElemsOf (intKind prog w) es) {e : Int × Value} (he : e ∈ es) : ∃ k t, e = (hashInt k, .int k t) := by
  obtain ⟨⟨k, hk, hh⟩, _⟩ := h e he
  obtain ⟨t, ht⟩ := Value.isInt_shape hk
  refine ⟨k, t, ?_⟩
  obtain ⟨a, b⟩ := e
  dsimp only at hh ht
  rw [ht, hh]; rfl
theorem wpAny_setsQuiet_of {Q : Bool → Shared → Prop} (l : List Addr) (hl : ∀ a ∈ l, ∃ S n, s.heap.SetOf (intKind prog w) a S n) (h : Q true s) : wpAny (model prog w) A (setsQuiet l) Q E s := by
  unfold setsQuiet
  refine wpAny_bind (wpAny_forIn_id l (fun a ha Q' hQ' => ?_) ?_)
  · obtain ⟨S, n, o, es, ep, t, ho, _, hd, hel, _, _, hf, _⟩ := hl a ha
    refine wpAny_bind (wpAny_setEntries_of ho hd hf ?_)
    rw [← Array.forIn_toList]
    refine wpAny_bind (wpAny_forIn_id es.toList (fun e he Q'' hQ'' => ?_) ?_)
    · obtain ⟨k, t, rfl⟩ := int_of_elem hel he
      exact wpAny_pure hQ''
    · exact wpAny_pure hQ'
  · exact wpAny_pure h
/-- the walk over a set of ints that nobody sees: the elements in some order; the filled set may lose a mark -/
theorem wpAny_setWalkUnseen_of {a r b : Addr} {S S' R : Int → Bool} {n n' k : Nat} {es : Array (Int × Value)} {o : Obj} {ep : Nat} {t : SetTable} {Q : Array (Int × Value) → Shared → Prop}
    (hS : s.heap.SetOf (intKind prog w) a S n) (ho : s.heap.get? a = some o) (hd : o.data = .set es ep t) (hS' : s.heap.SetOf (intKind prog w) b S' n') (hR : s.heap.SetOf (intKind prog w) r R k)
    (h : ∀ (es' : Array (Int × Value)) h', es'.toList.Perm es.toList → Heap.SameBut r s.heap h' → h'.SetOf (intKind prog w) r R k → Q es' { s with heap := h' }) :
    wpAny (model prog w) A (setWalkUnseen a [b, r] (some r)) Q E s := by
  have hf : t.fits es.size = true := by
    obtain ⟨o₁, es₁, ep₁, t₁, ho₁, _, hd₁, _, _, _, hf₁, _⟩ := hS
    rw [ho] at ho₁; cases ho₁; rw [hd] at hd₁; cases hd₁; exact hf₁
  unfold setWalkUnseen setsByText
  refine wpAny_bind (wpAny_setState_of ho hd hf ?_)
  dsimp only
  refine wpAny_bind (wpAny_bind (wpAny_askSetting (wpAny_pure ?_)))
  dsimp only
  have hs : Q = Q := rfl
  by_cases hb : (w.params.followText "set-order" || (t.led && t.plain) || decide (es.size ≤ 1)) = true
  · rw [if_pos (show ((model prog w).w.params.followText "set-order" || (t.led && t.plain) || decide (es.size ≤ 1)) = true from hb)]
    exact wpAny_setWalk_of ho hd hf hb fun es' hp => h es' s.heap hp (Heap.SameBut.refl _ _) hR
  · rw [if_neg (show ¬ ((model prog w).w.params.followText "set-order" || (t.led && t.plain) || decide (es.size ≤ 1)) = true from hb)]
    refine wpAny_bind (wpAny_setsQuiet_of [a, b, r] (fun c hc => ?_) ?_)
    · rcases List.mem_cons.mp hc with rfl | hc
      · exact ⟨_, _, hS⟩
      · rcases List.mem_cons.mp hc with rfl | hc
        · exact ⟨_, _, hS'⟩
        · rcases List.mem_cons.mp hc with rfl | hc
          · exact ⟨_, _, hR⟩
          · cases hc
    simp only [Bool.not_true, Bool.false_eq_true, ↓reduceIte]
    refine wpAny_bind (wpAny_rule ?_)
    obtain ⟨o₂, es₂, ep₂, t₂, ho₂, hex₂, hd₂, hel₂, hmem₂, hb₂, hf₂, hn₂⟩ := hR
    refine wpAny_bind (wpAny_setState_of ho₂ hd₂ hf₂ ?_)
    dsimp only
    split
    · refine wpAny_bind (wpAny_storeSet_of ho₂ hd₂ ?_ (fits_of_scanBound hb₂))
      obtain ⟨_, hS2⟩ := SetOf_store (knd := intKind prog w) (t' := { t₂ with led := t₂.led && t.led, plain := t₂.plain && t.plain }) ho₂ hex₂ hd₂ hel₂ hmem₂ hb₂ (by cases t₂; exact hf₂)
      rw [hn₂] at hS2
      exact wpAny_pure (h es _ (.refl _) (Heap.SameBut.update s.heap r _) hS2)
    · exact wpAny_pure (h es s.heap (.refl _) (Heap.SameBut.refl _ _) ⟨o₂, es₂, ep₂, t₂, ho₂, hex₂, hd₂, hel₂, hmem₂, hb₂, hf₂, hn₂⟩)
/-- the entry of set.intersection: an alias -/
theorem entry_set_intersection : entryFor table "set.intersection" = some Builtin.«frozenset.intersection» :=
  entryFor_alias (id' := "frozenset.intersection") (by rw [fastTable_eq_tree]; kernel_rfl) rfl (by decide +kernel) (by rw [fastTable_eq_tree]; kernel_rfl)
theorem wpAny_isAnySet_of {a : Addr} {Q : Bool → Shared → Prop} (hT : s.TypeIs (.ref a) "set") (h : Q true s) : wpAny (model prog w) A (Builtin.Frozenset.isAnySet (.ref a)) Q E s := by
  unfold Builtin.Frozenset.isAnySet
  unfold orM
  refine wpAny_bind (wpAny_isInstance hT sub_set_self ?_)
  exact wpAny_pure h
theorem wpAny_baseOf_of {a : Addr} {Q : Value → Shared → Prop} (hT : s.TypeIs (.ref a) "set") (h : Q (.type "set") s) : wpAny (model prog w) A (Builtin.Frozenset.baseOf a) Q E s := by
  unfold Builtin.Frozenset.baseOf
  refine wpAny_bind (wpAny_isInstance hT sub_set_self ?_)
  exact wpAny_pure h
theorem wpAny_sizeOf_of {a : Addr} {S : Int → Bool} {n : Nat} {Q : Nat → Shared → Prop} (hS : s.heap.SetOf (intKind prog w) a S n) (h : Q n s) : wpAny (model prog w) A (Builtin.Frozenset.sizeOf a) Q E s := by
  obtain ⟨o, es, ep, t, ho, _, hd, _, _, _, hf, hn⟩ := hS
  unfold Builtin.Frozenset.sizeOf
  refine wpAny_bind (wpAny_setEntries_of ho hd hf (wpAny_pure ?_))
  rw [hn]; exact h
theorem wpAny_unchanged_of {a : Addr} {id : String} {o : Obj} {es : Array (Int × Value)} {ep : Nat} {t : SetTable} {Q : Unit → Shared → Prop} (ho : s.heap.get? a = some o) (hd : o.data = .set es ep t) (hf : t.fits es.size = true) (h : Q () s) :
    wpAny (model prog w) A (Builtin.Frozenset.unchanged id a ep) Q E s := by
  unfold Builtin.Frozenset.unchanged
  refine wpAny_bind (wpAny_setEpoch_of ho hd hf ?_)
  simp only [bne_self_eq_false, Bool.false_eq_true, ↓reduceIte]
  exact wpAny_pure h
theorem wpAny_forIn_inv {M : Model} {α β : Type} {b : β} {f : α → β → Sem (ForInStep β)} {Q : β → Shared → Prop} (I : List α → Shared → Prop)
    (hf : ∀ e l s, I (e :: l) s → wpAny M A (f e b) (fun st s' => st = .yield b ∧ I l s') E s) :
    ∀ (l : List α) (s : Shared), I l s → (∀ s, I [] s → Q b s) → wpAny M A (forIn l b f) Q E s
  | [], s, h, hQ => by rw [List.forIn_nil]; exact wpAny_pure (hQ s h)
  | e :: l, s, h, hQ => by
    rw [List.forIn_cons]
    refine wpAny_bind (wpAny_mono (hf e l s h) (fun st s' h' => ?_) fun _ _ x => x)
    obtain ⟨rfl, h'⟩ := h'
    exact wpAny_forIn_inv I hf l s' h' hQ
theorem SetOf_keep {h h' : Heap} {a r : Addr} {S : Int → Bool} {n : Nat} (hs : Heap.SameBut r h h') (hne : a ≠ r) (hS : h.SetOf (intKind prog w) a S n) : h'.SetOf (intKind prog w) a S n := by
  obtain ⟨o, es, ep, t, ho, rest⟩ := hS
  exact ⟨o, es, ep, t, (hs.2 a hne).trans ho, rest⟩
/-- the state between the turns of an intersection -/
structure InterI (prog : Program) (w : World) (r : Addr) (Sa Sw : Int → Bool) (k0 : Int) (es : Array (Int × Value)) (s₀ : Shared) (l : List (Int × Value)) (s : Shared) : Prop where
  ex : ∃ (h' : Heap) (R : Int → Bool) (n : Nat), s = { s₀ with heap := h' } ∧ Heap.SameBut r s₀.heap h' ∧ h'.SetOf (intKind prog w) r R n ∧ n = (if R k0 then 1 else 0) ∧ (∀ k, R k = true → k = k0) ∧
    (R k0 = true → Sa k0 = true ∧ Sw k0 = true) ∧ (Sa k0 = true → Sw k0 = true → R k0 = true ∨ ∃ e ∈ l, (intKind prog w).is k0 e.2 = true)
  sub : ∀ e ∈ l, e ∈ es.toList
theorem wpAny_intersection_of {id : String} {a b : Addr} {S₁ S₂ : Int → Bool} {n₁ n₂ : Nat} {k0 : Int} {Q : Value → Shared → Prop}
    (hS1 : s.heap.SetOf (intKind prog w) a S₁ n₁) (hS2 : s.heap.SetOf (intKind prog w) b S₂ n₂) (hne : a ≠ b) (huniq : ∀ k, S₁ k = true → S₂ k = true → k = k0)
    (h : ∀ h' R n, (∀ c o, s.heap.get? c = some o → h'.get? c = some o) → h'.SetOf (intKind prog w) s.heap.objs.size R n → n = (if R k0 then 1 else 0) → (∀ k, R k = true → k = k0) → R k0 = (S₁ k0 && S₂ k0) →
      Q (.ref s.heap.objs.size) { s with heap := h' }) :
    wpAny (model prog w) A (Builtin.Frozenset.intersection id a (.ref b)) Q E s := by
  have hlt1 : a < s.heap.objs.size := by obtain ⟨o, _, _, _, ho, _⟩ := hS1; exact Heap.lt_size ho
  have hlt2 : b < s.heap.objs.size := by obtain ⟨o, _, _, _, ho, _⟩ := hS2; exact Heap.lt_size ho
  unfold Builtin.Frozenset.intersection
  have hb : (Value.ref b == Value.ref a) = false := by
    cases hq : (Value.ref b == Value.ref a) with
    | false => rfl
    | true => have := eq_of_beq hq; cases this; exact absurd rfl hne
  rw [hb]
  simp only [Bool.false_eq_true, ↓reduceIte]
  refine wpAny_bind (wpAny_baseOf_of hS1.typeIs ?_)
  refine wpAny_bind (wpAny_newSet_of (knd := intKind prog w) fun led hR => ?_)
  generalize hH : s.heap.push { cls := .type "set", dict := none, data := .set #[] 0 (.fresh 0 0 led) } = H at hR ⊢
  have hk : ∀ c o, s.heap.get? c = some o → H.get? c = some o := fun c o e => hH ▸ Heap.get?_push_of_some _ e
  have hS1' : H.SetOf (intKind prog w) a S₁ n₁ := by obtain ⟨o, es, ep, t, ho, rest⟩ := hS1; exact ⟨o, es, ep, t, hk _ _ ho, rest⟩
  have hS2' : H.SetOf (intKind prog w) b S₂ n₂ := by obtain ⟨o, es, ep, t, ho, rest⟩ := hS2; exact ⟨o, es, ep, t, hk _ _ ho, rest⟩
  generalize hr : s.heap.objs.size = r at *
  refine wpAny_bind (m := Builtin.Frozenset.addrOf _) (wpAny_pure ?_)
  refine wpAny_bind (wpAny_holding ?_)
  refine wpAny_bind (wpAny_isAnySet_of hS2'.typeIs ?_)
  simp only [↓reduceIte]
  refine wpAny_bind (m := Builtin.Frozenset.addrOf _) (wpAny_pure ?_)
  refine wpAny_bind (wpAny_sizeOf_of hS2' ?_)
  refine wpAny_bind (wpAny_sizeOf_of hS1' ?_)
  have hpair : ∀ P : Addr × Addr, (if n₂ > n₁ then (b, a) else (a, b)) = P → ∃ Sw Sa nw na, H.SetOf (intKind prog w) P.2 Sw nw ∧ H.SetOf (intKind prog w) P.1 Sa na ∧ P.2 ≠ r ∧ P.1 ≠ r ∧
      (∀ k, Sa k = true → Sw k = true → k = k0) ∧ (S₁ k0 && S₂ k0) = (Sa k0 && Sw k0) := by
    intro P hP
    split at hP
    · subst hP; exact ⟨S₁, S₂, n₁, n₂, hS1', hS2', Nat.ne_of_lt hlt1, Nat.ne_of_lt hlt2, fun k x y => huniq k y x, Bool.and_comm _ _⟩
    · subst hP; exact ⟨S₂, S₁, n₂, n₁, hS2', hS1', Nat.ne_of_lt hlt2, Nat.ne_of_lt hlt1, fun k x y => huniq k x y, rfl⟩
  generalize hP : (if n₂ > n₁ then (b, a) else (a, b)) = P
  obtain ⟨Sw, Sa, nw, na, hW, hA, hwr, har, hun, hand⟩ := hpair P hP
  obtain ⟨oW, esW, epW, tW, hoW, hexW, hdW, helW, hmemW, hbW, hfW, hnW⟩ := _root_.id hW
  refine wpAny_bind (wpAny_setEpoch_of hoW hdW hfW ?_)
  refine wpAny_bind (wpAny_setWalkUnseen_of hW hoW hdW hA hR fun es' h1 hperm hsb hR1 => ?_)
  rw [← Array.forIn_toList]
  refine wpAny_bind (wpAny_forIn_inv (InterI prog w r Sa Sw k0 es' { s with heap := h1 }) ?_ es'.toList _ ?_ ?_)
  · intro e l s₁ hI
    obtain ⟨⟨h2, R, n, rfl, hsb2, hRS, hn, hRk, hR1', hR2'⟩, hsub⟩ := hI
    have hem : e ∈ esW.toList := hperm.mem_iff.mp (hsub e (.head _))
    obtain ⟨k, t, he⟩ := int_of_elem helW hem
    have hSw : Sw k = true := (hmemW k).mpr ⟨e, hem, by rw [he]; exact intKind_is _ _ _ _⟩
    have hA2 : h2.SetOf (intKind prog w) P.1 Sa na := SetOf_keep hsb2 har (SetOf_keep hsb har hA)
    have hsubl : ∀ x ∈ l, x ∈ es'.toList := fun x hx => hsub x (.tail _ hx)
    have hfin : ∀ (h3 : Heap), Heap.SameBut r h2 h3 → ∀ R' n', h3.SetOf (intKind prog w) r R' n' → n' = (if R' k0 then 1 else 0) → (∀ k, R' k = true → k = k0) → (R' k0 = true → Sa k0 = true ∧ Sw k0 = true) →
        (Sa k0 = true → Sw k0 = true → R' k0 = true ∨ ∃ e ∈ l, (intKind prog w).is k0 e.2 = true) →
        InterI prog w r Sa Sw k0 es' { s with heap := h1 } l { s with heap := h3 } := fun h3 hs3 R' n' a1 a2 a3 a4 a5 =>
      ⟨⟨h3, R', n', rfl, hsb2.trans hs3, a1, a2, a3, a4, a5⟩, hsubl⟩
    have hone : ∀ (h3 : Heap), Heap.SameBut r h2 h3 → ∃ o es ep t, h3.get? P.2 = some o ∧ o.data = .set es epW t ∧ t.fits es.size = true := fun h3 hs3 =>
      ⟨oW, esW, epW, tW, (hs3.2 _ hwr).trans ((hsb2.2 _ hwr).trans ((hsb.2 _ hwr).trans hoW)), hdW, hfW⟩
    refine wpAny_bind (wpAny_holding ?_)
    rw [he]
    refine wpAny_bind (wpAny_setFind_of (knd := intKind prog w) (k := k) (intKind_is _ _ _ _) rfl hA2 fun i hi => ?_)
    rw [hi]
    cases hak : Sa k with
    | false =>
      simp only [Bool.false_eq_true, ↓reduceIte]
      refine wpAny_pure ?_
      obtain ⟨o, es, ep, t', q1, q2, q3⟩ := hone h2 (Heap.SameBut.refl _ _)
      refine wpAny_bind (wpAny_unchanged_of q1 q2 q3 ?_)
      refine wpAny_pure ⟨rfl, hfin h2 (Heap.SameBut.refl _ _) R n hRS hn hRk hR1' fun x y => ?_⟩
      rcases hR2' x y with z | ⟨e', he', hz⟩
      · exact .inl z
      · rcases List.mem_cons.mp he' with rfl | he'
        · rw [he] at hz
          have : k0 = k := (intKind prog w).inj _ _ _ hz (intKind_is _ _ _ _)
          subst this
          rw [hak] at x; cases x
        · exact .inr ⟨e', he', hz⟩
    | true =>
      have hkk : k = k0 := hun k hak hSw
      subst hkk
      simp only [↓reduceIte]
      refine wpAny_bind (wpAny_setAddHashed_of (knd := intKind prog w) (k := k) (intKind_is _ _ _ _) rfl hRS (by rw [hn]; unfold scanBound; split <;> omega) fun h3 hs3 hR3 => ?_)
      refine wpAny_pure ?_
      obtain ⟨o, es, ep, t', q1, q2, q3⟩ := hone h3 hs3
      refine wpAny_bind (wpAny_unchanged_of q1 q2 q3 ?_)
      refine wpAny_pure ⟨rfl, hfin h3 hs3 _ _ hR3 ?_ (fun k' hk' => ?_) (fun _ => ⟨hak, hSw⟩) fun _ _ => .inl (by simp)⟩
      · simp only [decide_true, Bool.or_true, ↓reduceIte]
        rw [hn]; cases R k <;> simp
      · rw [Bool.or_eq_true, decide_eq_true_eq] at hk'
        exact hk'.elim (hRk k') _root_.id
  · refine ⟨⟨h1, (fun _ => false), 0, rfl, Heap.SameBut.refl _ _, hR1, rfl, (fun _ x => by cases x), (fun x => by cases x), fun x y => .inr ?_⟩, fun _ x => x⟩
    obtain ⟨e, he, hz⟩ := (hmemW k0).mp y
    exact ⟨e, hperm.mem_iff.mpr he, hz⟩
  · intro s₁ hI
    obtain ⟨⟨h2, R, n, rfl, hsb2, hRS, hn, hRk, hR1', hR2'⟩, _⟩ := hI
    refine wpAny_pure (wpAny_pure (h h2 R n (fun c o hc => ?_) hRS hn hRk ?_))
    · have hcr : c ≠ r := by
        have := Heap.lt_size hc
        rw [hr] at this
        exact Nat.ne_of_lt this
      exact (hsb2.2 c hcr).trans ((hsb.2 c hcr).trans (hk c o hc))
    · rw [hand]
      cases hq : R k0 with
      | true => obtain ⟨x, y⟩ := hR1' hq; rw [x, y]; rfl
      | false =>
        cases hx : Sa k0 with
        | false => rfl
        | true =>
          cases hy : Sw k0 with
          | false => rfl
          | true =>
            rcases hR2' hx hy with z | ⟨e, he, _⟩
            · rw [hq] at z; cases z
            · cases he
end
end Mine
end

section
open PySem PySem.W PyProof.Rows PySem.Calls
set_option maxRecDepth 100000
set_option linter.unusedVariables false
namespace Mine
section
variable {prog : Program} {w : World} {A : Around} {E : Value → Shared → Prop} {s : Shared}
theorem call_set_intersection {a b : Addr} {S₁ S₂ : Int → Bool} {n₁ n₂ : Nat} {k0 : Int} {Q : Value → Shared → Prop}
    (hS1 : s.heap.SetOf (intKind prog w) a S₁ n₁) (hS2 : s.heap.SetOf (intKind prog w) b S₂ n₂) (hne : a ≠ b) (huniq : ∀ k, S₁ k = true → S₂ k = true → k = k0)
    (h : ∀ h' R n, (∀ c o, s.heap.get? c = some o → h'.get? c = some o) → h'.SetOf (intKind prog w) s.heap.objs.size R n → n = (if R k0 then 1 else 0) → (∀ k, R k = true → k = k0) → R k0 = (S₁ k0 && S₂ k0) →
      Q (.ref s.heap.objs.size) { s with heap := h' }) :
    wpAny (model prog w) A (call (.builtin "set.intersection") [.ref a, .ref b]) Q E s := by
  refine wpAny_call_entry PySem.F.slot_set_intersection hS1.typeIs entry_set_intersection ?_ (PySem.F.args_set_intersection_2 _ _)
  unfold Builtin.«frozenset.intersection» Builtin.Frozenset.manyOthers
  simp only [List.isEmpty_nil, Bool.not_true, Bool.false_eq_true, ↓reduceIte]
  refine wpAny_bind (wpAny_bind (m := Builtin.Frozenset.addrOf _) (wpAny_pure (wpAny_pure ?_)))
  simp only [List.isEmpty_cons, Bool.false_eq_true, ↓reduceIte]
  rw [List.forIn_cons]
  refine wpAny_bind (wpAny_bind (wpAny_bind (wpAny_holding ?_)))
  refine wpAny_bind (m := Builtin.Frozenset.addrOf _) (wpAny_pure ?_)
  refine wpAny_intersection_of hS1 hS2 hne huniq fun h' R n q1 q2 q3 q4 q5 => ?_
  refine wpAny_pure ?_
  dsimp only
  rw [List.forIn_nil]
  refine wpAny_pure ?_
  exact wpAny_pure ⟨_, rfl, h h' R n q1 q2 q3 q4 q5⟩
theorem wpAny_choose {M : Model} {src : Source} {n : Nat} {Q : Nat → Shared → Prop} (hn : n ≠ 0) (h : ∀ i d, i < n → Q i { s with drawn := d }) : wpAny M A (choose src n) Q E s := fun Γ p _ => by
  unfold choose
  rw [Sem.wp_choose]
  exact ⟨hn, h _ _ (Nat.mod_lt _ (Nat.pos_of_ne_zero hn))⟩
theorem call_set_pop1 {a : Addr} {R : Int → Bool} {k0 : Int} {Q : Value → Shared → Prop}
    (hS : s.heap.SetOf (intKind prog w) a R 1) (hR : ∀ k, R k = true → k = k0)
    (h : ∀ h' t d so, Heap.SameBut a s.heap h' → h'.get? a = some so → Q (.int k0 t) { s with heap := h', drawn := d }) :
    wpAny (model prog w) A (call (.builtin "set.pop") [.ref a]) Q E s := by
  refine wpAny_call_entry PySem.F.slot_set_pop hS.typeIs PySem.F.entry_set_pop ?_ (PySem.F.args_set_pop_1 _)
  obtain ⟨o, es, ep, t, ho, hex, hd, hel, hmem, hb, hf, hn⟩ := hS
  have hz : 0 < es.size := by omega
  obtain ⟨k, tk, he⟩ := int_of_elem hel (e := es[0]) (by simp)
  have hk : k = k0 := hR k ((hmem k).mpr ⟨es[0], by simp, by rw [he]; exact intKind_is _ _ _ _⟩)
  subst hk
  have hps : t.place.size = 1 := by
    simp only [SetTable.fits, Bool.and_eq_true, beq_iff_eq] at hf
    omega
  have hpp : t.popPlace = some 0 := by
    unfold SetTable.popPlace
    have h1 : t.place.isEmpty = false := by
      cases hq : t.place.isEmpty with
      | false => rfl
      | true => rw [Array.isEmpty_iff_size_eq_zero] at hq; omega
    rw [h1]
    simp only [Bool.false_eq_true, ↓reduceIte]
    split
    · congr 1; omega
    · rfl
  unfold Builtin.«set.pop» Builtin.Frozenset.noArgs setPop
  refine wpAny_bind (m := Builtin.Frozenset.addrOf _) (wpAny_pure ?_)
  refine wpAny_bind (wpAny_bind (wpAny_setState_of ho hd hf ?_))
  dsimp only
  rw [hpp]
  dsimp only
  have hend : ∀ d, wpAny (model prog w) A.in1 (storeSet a (SetTable.eraseAt es 0) (t.popped 0) >>= fun _ => pure (some (Value.int k tk))) (fun x s' => wpAny (model prog w) A.in1 (match x with
      | some x => ret x
      | x => do
        rule "set.pop.empty"
        raiseErrorWords "KeyError" "pop from an empty set") (fun fin s' => ∃ v, fin = Fin.done (Flow.ret v) ∧ Q v s') E s') E { s with drawn := d } := fun d => by
    have hsz : (SetTable.eraseAt es 0).size ≤ sizeLine := by
      unfold SetTable.eraseAt
      rw [sizeLine_eq]
      simp only [Array.size_append, Array.size_extract]
      omega
    refine wpAny_bind (wpAny_storeSet_of (s := { s with drawn := d }) ho hd ?_ hsz)
    refine wpAny_pure ?_
    dsimp only
    refine wpAny_pure ⟨_, rfl, ?_⟩
    have hu := Heap.get?_update_self (Obj.putSet (SetTable.eraseAt es 0) (t.popped 0)) ho (by rw [putSet_of _ _ hd]; rfl)
    exact h _ tk d _ (Heap.SameBut.update s.heap a _) hu
  have hes : es[0]? = some (hashInt k, .int k tk) := by rw [Array.getElem?_eq_getElem hz, he]
  unfold setsByText
  refine wpAny_bind (wpAny_bind (wpAny_askSetting (wpAny_pure ?_)))
  dsimp only
  split
  · refine wpAny_bind (wpAny_choose (by omega) fun i d hi => ?_)
    have : i = 0 := by omega
    subst this
    rw [hes]
    exact hend d
  · show wpAny _ _ ((if (!t.led && decide (es.size > 1)) = true then unsupported "set:maker-not-led" else pure ()) >>= _) _ _ _
    have h2 : (!t.led && decide (es.size > 1)) = false := by
      have : decide (es.size > 1) = false := decide_eq_false (by omega)
      rw [this, Bool.and_false]
    rw [h2]
    simp only [Bool.false_eq_true, ↓reduceIte]
    refine wpAny_bind (wpAny_pure (wpAny_bind (wpAny_pure ?_)))
    rw [hes]
    exact hend s.drawn
end
end Mine
end

section
open PySem PySem.W PyProof.Rows PySem.Calls
set_option maxRecDepth 100000
set_option maxHeartbeats 4000000
set_option linter.unusedVariables false
namespace Mine
theorem sub_generator_set : isSubtype (.type "generator") (.type "set") = pure false := by rw [isSubtype_type]; kernel_rfl
theorem sub_generator_frozenset : isSubtype (.type "generator") (.type "frozenset") = pure false := by rw [isSubtype_type]; kernel_rfl
section
variable {prog : Program} {w : World} {A : Around} {E : Value → Shared → Prop} {s : Shared}
theorem call_set_pop0 {a : Addr} {R : Int → Bool} {Q : Value → Shared → Prop}
    (hS : s.heap.SetOf (intKind prog w) a R 0) (hh : A.handled = none)
    (h : ∀ h' tk e, Heap.NewExc s.heap h' e "KeyError" → E (.ref e) { s with heap := h', toks := tk }) :
    wpAny (model prog w) A (call (.builtin "set.pop") [.ref a]) Q E s := by
  refine wpAny_call_entry PySem.F.slot_set_pop hS.typeIs PySem.F.entry_set_pop ?_ (PySem.F.args_set_pop_1 _)
  obtain ⟨o, es, ep, t, ho, hex, hd, hel, hmem, hb, hf, hn⟩ := hS
  have hpp : t.popPlace = none := by
    unfold SetTable.popPlace
    have hps : t.place.size = 0 := by
      simp only [SetTable.fits, Bool.and_eq_true, beq_iff_eq] at hf
      omega
    have h1 : t.place.isEmpty = true := by rw [Array.isEmpty_iff_size_eq_zero]; exact hps
    rw [h1]; rfl
  unfold Builtin.«set.pop» Builtin.Frozenset.noArgs setPop
  refine wpAny_bind (m := Builtin.Frozenset.addrOf _) (wpAny_pure ?_)
  refine wpAny_bind (wpAny_bind (wpAny_setState_of ho hd hf ?_))
  dsimp only
  rw [hpp]
  refine wpAny_pure ?_
  dsimp only
  refine wpAny_bind (wpAny_rule ?_)
  exact wpAny_raiseErrorWords plainExc_KeyError hh h
variable {led : Bool} {I : Addr} {fp wr : List Addr} {G : Array GenState → Array GenState → Prop} {n : Nat} {P : Nat → Value → Prop} {St : Nat → Shared → Prop}
/-- the body of set.__init__ over a generator of ints -/
theorem init_set_gen {Q₁ : Value → Shared → Prop} (W : WalksS prog w A.in1.in1 I fp wr G n P St) (hT : ∀ i s, St i s → s.TypeIs (.ref I) "generator") (hst : St 0 s) (S : Addr) (hSf : S ∉ fp)
    (val : Nat → Int) (hval : ∀ i v, P i v → ∃ t, v = .int (val i) t) (hb : n + 1 < scanBound) (hI : I ∈ fp)
    (ho : s.heap.get? S = some { cls := .type "set", dict := none, data := .set #[] 0 (.fresh 0 0 led) })
    (hR : ∀ s', Moved (S :: wr) G s s' → s'.heap.SetOf (intKind prog w) S (fun k' => (firstMet val n).any (· == k')) (firstMet val n).length → Q₁ .none s') :
    wpAny (model prog w) A.in1 (Builtin.«set.__init__» ⟨[.ref S, .ref I], []⟩)
      (fun fin s' => match fin with | .done f => wants Q₁ E (.ok f) s' | .again c' => c'.quiet = true ∧ codeAny (model prog w) A c' (wants Q₁ E) s') (fun e s' => wants Q₁ E (.error e) s') s := by
  have hTS : s.TypeIs (.ref S) "set" := ⟨_, ho, rfl⟩
  have hTI := hT 0 s hst
  have h1 := sub_generator_set
  have h2 := sub_generator_frozenset
  have hne : (Value.type "generator" == Value.type "dict") = false := by decide
  unfold Builtin.«set.__init__» noKeywords Builtin.Frozenset.updateFrom
  generalize hPI : pyIter = PI
  obtain ⟨hp, g, d, tk, os⟩ := s
  dsimp only at ho
  wp_walk
  subst hPI
  refine W.of_in1.self 0 _ _ _ hst ?_
  refine wpAny_bind (wpAny_runValue ?_)
  have hS0 : Heap.SetOf (intKind prog w) hp S (fun k' => (firstMet val 0).any (· == k')) (firstMet val 0).length :=
    SetOf_congr ((setObjOf_fresh (knd := intKind prog w) led).setOf ho (by unfold scanBound; omega)) (fun _ => rfl) rfl
  refine codeAny_set_update_loopS W S hSf val hval hb n 0 _ rfl (Nat.zero_le _) hst hS0 fun s' hm hS' => ?_
  refine wpAny_pure ?_
  show wpAny _ _ (ret Value.none) _ _ _
  exact wpAny_pure (hR s' hm hS')
theorem call_set_gen {Q : Value → Shared → Prop} (W : WalksS prog w A.in1.in1.in1 I fp wr G n P St) (hT : ∀ i s, St i s → s.TypeIs (.ref I) "generator") (hst : St 0 s) (hfp : ∀ b ∈ fp, b < s.heap.objs.size) (hI : I ∈ fp)
    (val : Nat → Int) (hval : ∀ i v, P i v → ∃ t, v = .int (val i) t) (hb : n + 1 < scanBound)
    (h : ∀ (led : Bool) s', Moved (s.heap.objs.size :: wr) G { s with heap := s.heap.push { cls := .type "set", dict := none, data := .set #[] 0 (.fresh 0 0 led) } } s' →
      s'.heap.SetOf (intKind prog w) s.heap.objs.size (fun k' => (firstMet val n).any (· == k')) (firstMet val n).length → Q (.ref s.heap.objs.size) s') :
    wpAny (model prog w) A (call (.type "set") [.ref I]) Q E s := by
  obtain ⟨c, tl, hmro⟩ := PySem.F.called_set.mro
  have hmade := PySem.F.called_set.made
  have hsub := PySem.F.called_set.sub
  refine wpAny_call (codeAny_of_tree ?_)
  show wpAny _ _ (callAny (.type "set") _) _ _ _
  refine wpAny_pure ⟨Code.quiet_builtin _ (by decide +kernel), codeAny_builtin PySem.F.entry_type_call ?_⟩
  rw [Around.under_plain (weight_type_call_type "set" [.ref I] []) rfl]
  have h1 := PySem.F.called_set.notType
  have h2 := PySem.F.called_set.canCreate
  have hct := PySem.F.typeCall_set_1 (.ref I)
  repeat (any_goals (first | assumption | wp_step))
  refine codeAny_mono (code_set_new_1 (.ref I) (E := E) (Q₁ := fun obj s₁ => ∃ led : Bool, obj = .ref s.heap.objs.size ∧ s₁ = { s with heap := s.heap.push { cls := .type "set", dict := none, data := .set #[] 0 (.fresh 0 0 led) } }) fun led => ⟨led, rfl, rfl⟩) fun r s₁ hr => ?_
  cases r with
  | error e => exact hr
  | ok fl =>
    cases fl with
    | ret obj =>
      obtain ⟨led, rfl, rfl⟩ := hr
      have hS : (s.heap.push { cls := .type "set", dict := none, data := .set #[] 0 (.fresh 0 0 led) }).get? s.heap.objs.size = some { cls := .type "set", dict := none, data := .set #[] 0 (.fresh 0 0 led) } := Heap.get?_push_size _ rfl
      have hTS : Shared.TypeIs { s with heap := s.heap.push { cls := .type "set", dict := none, data := .set #[] 0 (.fresh 0 0 led) } } (.ref s.heap.objs.size) "set" := ⟨_, hS, rfl⟩
      have hli := PySem.F.called_set.init.lookup
      have hbi := PySem.F.called_set.init.bind (.ref s.heap.objs.size)
      have hSf : s.heap.objs.size ∉ fp := fun hm => Nat.lt_irrefl _ (hfp _ hm)
      repeat (any_goals (first | assumption | wp_step))
      refine codeAny_mono (codeAny_call_builtin (R := wants (fun r s₂ => r = .none ∧ Q (.ref s.heap.objs.size) s₂) E) PySem.F.called_set.init.plain PySem.F.entry_set_init (check_set_init_1 hTS ?_)) fun r₂ s₂ hr₂ => ?_
      · refine init_set_gen W hT (W.frame 0 s _ s.toks hst (Nat.le_refl _) fun b _ o e => Heap.get?_push_of_some _ e) _ hSf val hval hb hI hS fun s' hm hS' => ?_
        exact ⟨rfl, h led s' hm hS'⟩
      · cases r₂ with
        | error e => exact hr₂
        | ok fl₂ =>
          cases fl₂ with
          | ret r =>
            obtain ⟨rfl, hq⟩ := hr₂
            repeat (any_goals (first | assumption | wp_step))
          | _ => exact hr₂.elim
    | _ => exact hr.elim
end
end Mine
end

section
open PySem PySem.W PyProof.Rows PySem.Calls
set_option maxRecDepth 100000
set_option maxHeartbeats 4000000
set_option linter.unusedVariables false
namespace Mine
/-- the statics table of a code object, as an object -/
abbrev tabO (ps : Array Value) : Obj := { cls := .none, data := .fields ps }
/-- a generator of ints at hand -/
def GenI (prog : Program) (w : World) (A : Around) (g : Addr) (n : Nat) (val : Nat → Int) (lim : Nat) (s : Shared) : Prop :=
  ∃ fp wr gg St, WalksS prog w A.in4 g fp wr (GenOnlyQ gg) n (fun j y => ∃ t, y = .int (val j) t) St ∧ St 0 s ∧ (∀ i s', St i s' → s'.TypeIs (.ref g) "generator") ∧ g ∈ fp ∧ (∀ b ∈ fp, b < s.heap.objs.size) ∧ ∀ b ∈ wr, lim ≤ b
section
variable {prog : Program} {w : World} {A : Around} {E : Value → Shared → Prop} {s : Shared} {h₀ : Heap} {L : Addr} {m : Str → Option Value} {news : List (Addr × Obj)}
theorem set_genN {g : Addr} {n lim : Nat} {val : Nat → Int} {Q : Value → Shared → Prop} (F : Fr h₀ L s.heap m) (N : News h₀ L s.heap news) (G : AllBare s.gens) (X : GenI prog w A g n val lim s)
    (hlim : h₀.objs.size ≤ lim) (hL : L < lim) (hN : ∀ p ∈ news, p.1 < lim) (hb : n + 1 < scanBound)
    (h : ∀ h' tk gs so, Fr h₀ L h' m → News h₀ L h' ((s.heap.objs.size, so) :: news) → AllBare gs → (∀ p ∈ news, p.1 < s.heap.objs.size) →
      so.SetObjOf (intKind prog w) (fun k' => (firstMet val n).any (· == k')) (firstMet val n).length → Q (.ref s.heap.objs.size) { s with heap := h', gens := gs, toks := tk }) :
    wpAny (model prog w) A (call (.type "set") [.ref g]) Q E s := by
  obtain ⟨fp, wr, gg, St, W, hst, hT, hg, hfp, hwr⟩ := X
  have W := WalksS.in4_3 W
  refine call_set_gen W hT hst hfp hg val (fun _ _ x => x) hb fun led s' hm hS => ?_
  obtain ⟨h', gs, d', tk, os'⟩ := s'
  have ed : d' = s.drawn := hm.drawn
  have eo : os' = s.os := hm.os
  subst ed eo
  have hk : ∀ b o, b < lim → s.heap.get? b = some o → h'.get? b = some o := fun b o hb e => by
    refine hm.heap b o (fun hmem => ?_) (Heap.get?_push_of_some _ e)
    rcases List.mem_cons.mp hmem with rfl | hmem
    · exact absurd (Heap.lt_size e) (Nat.lt_irrefl _)
    · exact absurd (hwr b hmem) (Nat.not_le.mpr hb)
  obtain ⟨so, ho, hso⟩ := hS.objOf
  have hlt : ∀ p ∈ news, p.1 < s.heap.objs.size := fun p hp => Heap.lt_size (N p hp).1
  have F' : Fr h₀ L h' m := by
    obtain ⟨oL, es, ep, hLo, r⟩ := F.ns
    exact ⟨⟨oL, es, ep, hk _ _ hL hLo, r⟩, fun b o e => hk b o (Nat.lt_of_lt_of_le (Heap.lt_size e) hlim) (F.keep b o e), F.above⟩
  have hS0 : h₀.get? s.heap.objs.size = none := by
    cases hq : h₀.get? s.heap.objs.size with
    | none => rfl
    | some o => exact absurd (Heap.lt_size (F.keep _ _ hq)) (Nat.lt_irrefl _)
  have hLs : s.heap.objs.size ≠ L := by
    obtain ⟨oL, _, _, hLo, _⟩ := F.ns
    exact Nat.ne_of_gt (Heap.lt_size hLo)
  refine h h' tk gs so F' (fun p hp => ?_) (G.moved hm.gens) hlt hso
  rcases List.mem_cons.mp hp with rfl | hp
  · exact ⟨ho, hLs, hS0⟩
  · exact ⟨hk _ _ (hN p hp) (N p hp).1, (N p hp).2⟩
theorem passing_all (n : Nat) : passing (fun _ => true) n 0 = List.range n := by
  unfold passing
  rw [List.drop_zero]
  exact List.filter_eq_self.mpr fun _ _ => rfl
theorem elt_add {x v : Str} {px pv pb : Pos} {scope : Scope} {cl : List (Str × Addr)} {C : Addr} {code : Value} {env : Env} {ca : Addr} {i d : Int} {t u : Tok} {m₂ : Str → Option Value} {A' : Around} {E' : Value → Shared → Prop} {s₂ : Shared}
    (hn : s₂.heap.Ns C m₂) (hm : m₂ x = some (.int i t)) (hc : cl.lookup v = some ca) (hv : s₂.heap.IsCell ca (some (.int d u)))
    (hk : scope.kind = .function) (hlx : (genEnv scope cl C code builtinsNs env).kindOf x = some .local) (hlv : (genEnv scope cl C code builtinsNs env).kindOf v = some .free)
    (hdx : (x == ("__debug__" : Str)) = false) (hdv : (v == ("__debug__" : Str)) = false) (hcv : (v == ("__classdict__" : Str)) = false) :
    wpAny (model prog w) A' (eval (.BinOp (.Name x px) .Add (.Name v pv) pb) (genEnv scope cl C code builtinsNs env)) (fun y s₃ => (∃ t, y = .int (i + d) t) ∧ Keeps s₂ s₃) E' s₂ := by
  refine wpAny_BinOp ?_
  refine wpAny_Name (wpAny_loadName_local hk hlx hn hm ?_) hdx
  refine wpAny_Name (wpAny_loadName_free hk hlv hc hv ?_ hcv) hdv
  refine PyProof.Rows.add_int ?_
  exact ⟨⟨_, rfl⟩, s₂.heap, s₂.toks + 1, by cases s₂; rfl, fun _ _ e => e⟩
/-- what the source of a generator expression over a range hands on -/
def GenSrc (prog : Program) (w : World) (A : Around) (h₀ : Heap) (L : Addr) (m : Str → Option Value) (mg : Str → Option Value) (c P : Addr) (bm : Addr) (ob : Obj) (globals : Addr) (ca : Addr) (a b c₁ d : Int) (n : Nat) (Q : Value → Shared → Prop) (xv : Value) (s₁ : Shared) : Prop :=
  ∃ r t₁ u₁ v₁ tv pre ps post, xv = .ref r ∧ IsRange s₁.heap r a b c₁ t₁ u₁ v₁ ∧ Fr h₀ L s₁.heap m ∧ News h₀ L s₁.heap (pre ++ (P, tabO ps) :: post) ∧ (∀ p ∈ pre, p.1 ≠ P) ∧ (∀ p ∈ post, p.1 ≠ P) ∧ AllBare s₁.gens ∧ TriplesOk ps.toList ∧
    h₀.NoLimit ∧ BMod h₀ globals mg bm ob ∧ s₁.heap.IsCell ca (some (.int d tv)) ∧
    (∀ h' : Heap, (∀ b o, h₀.get? b = some o → h'.get? b = some o) → h'.get? P = some (tabO ps) → h'.IsCode c P ps ∧ h'.TableAt c P ps) ∧
    ∀ (g : Addr) (lim : Nat) (h' : Heap) (gs : Array GenState) (tk : Nat) (more : Array Value), Fr h₀ L h' m → News h₀ L h' (pre ++ (P, tabO (ps ++ more)) :: post) → TriplesOk (ps ++ more).toList → AllBare gs →
      h₀.objs.size ≤ lim → L < lim → (∀ p ∈ pre ++ (P, tabO (ps ++ more)) :: post, p.1 < lim) → GenI prog w A g n (fun j => a + (j : Nat) * c₁ + d) lim { s₁ with heap := h', gens := gs, toks := tk } →
      Q (.ref g) { s₁ with heap := h', gens := gs, toks := tk }
theorem genexp_N {env : Env} {iter : Expr} {x v : Str} {px px2 pv pb : Pos} {scope : Scope} {cl : List (Str × Addr)} {pos : Pos} {Q : Value → Shared → Prop} {c P bm ca : Addr} {ob : Obj} {mg : Str → Option Value} {a b c₁ d : Int} {n : Nat}
    (h : wpAny (model prog w) A (eval iter env) (GenSrc prog w A h₀ L m mg c P bm ob env.globals ca a b c₁ d n Q) E s)
    (hsmall : Builtin.Range.small a b c₁ = true) (hn : Builtin.Range.rangeSize a b c₁ = (n : Int))
    (hcode : env.code = .ref c) (hh : A.handled = none) (hco : scope.isCoroutine = false) (hclos : closureFor scope env = pure cl) (hcell : ∀ y ∈ scope.names, y.2 ≠ .cell) (h0 : scope.names.lookup (".0" : Str) = some NameKind.local)
    (hx : scope.names.lookup x = some .local) (hv : scope.names.lookup v = some .free) (hc : cl.lookup v = some ca) (hkind : scope.kind = .function) (hroom : A.depth < recursionLimit)
    (hdx : (x == ("__debug__" : Str)) = false) (hdv : (v == ("__debug__" : Str)) = false) (hcv : (v == ("__classdict__" : Str)) = false)
    (hs : ∀ x, genFold iter env x = pure x) (hcP : cStatics ≠ P) :
    wpAny (model prog w) A (eval (.GeneratorExp (.BinOp (.Name x px) .Add (.Name v pv) pb) [⟨.Name x px2, iter, [], 0⟩] scope pos) env) Q E s := by
  refine wpAny_GeneratorExp_walksQ hh hco hclos hcell h0 hx hkind hroom (wpAny_mono h (fun xv s₁ h₁ => ?_) fun _ _ e => e) hs
  obtain ⟨r, t₁, u₁, v₁, tv, pre, ps, post, rfl, hr, F, N, hpre, hpost, G, htr, hlim, M, hcellv, hcodeOf, hQ⟩ := h₁
  refine wpAny_pyIter_range hr hsmall ?_
  have hPm : (P, tabO ps) ∈ pre ++ (P, tabO ps) :: post := List.mem_append_right _ (.head _)
  have hPg : s₁.heap.get? P = some (tabO ps) := (N _ hPm).1
  have hPL : P ≠ L := (N _ hPm).2.1
  have hP0 : h₀.get? P = none := (N _ hPm).2.2
  have hLlt : L < s₁.heap.objs.size := by obtain ⟨oL, _, _, hLo, _⟩ := F.ns; exact Heap.lt_size hLo
  generalize hI : s₁.heap.objs.size = I at hLlt
  have hPI : P < I := hI ▸ Heap.lt_size hPg
  generalize hH2 : s₁.heap.push { cls := .type "range_iterator", data := .fields #[rawInt a, rawInt (Builtin.Range.rangeSize a b c₁), rawInt c₁] } = H2
  have hk2 : ∀ b o, s₁.heap.get? b = some o → H2.get? b = some o := fun b o e => hH2 ▸ Heap.get?_push_of_some _ e
  have hz2 : H2.objs.size = I + 1 := by rw [← hH2, Heap.size_push, hI]
  have hIt : H2.get? I = some { cls := .type "range_iterator", data := .fields #[rawInt a, rawInt (Builtin.Range.rangeSize a b c₁), rawInt c₁] } := by rw [← hH2, ← hI]; exact Heap.get?_push_size _ rfl
  obtain ⟨hic, hta⟩ := hcodeOf H2 (fun b o e => hk2 b o (F.keep b o e)) (hk2 _ _ hPg)
  have hlim2 : H2.NoLimit := (hlim.keeps F.keep).keeps hk2
  have M2 : BMod H2 env.globals mg bm ob := (M.keeps F.keep).keeps hk2
  have key : ∀ (code : Value) (h₃ : Heap) (tk₃ : Nat) (more : Array Value), Heap.ExtBut P H2 h₃ → H2.objs.size ≤ h₃.objs.size → h₃.get? P = some (tabO (ps ++ more)) → TriplesOk (ps ++ more).toList →
      wpAny (model prog w) A (builtinsFor env.globals env.builtins) (fun bi s₄ =>
        ∃ I fp wr n₀ P St₀ pz F, Value.ref s₁.heap.objs.size = .ref I ∧ (∀ A' : Around, A'.handled = none → Walks prog w A' I fp wr n₀ P St₀) ∧ St₀ 0 s₄.heap ∧ (∀ b ∈ fp, b < s₄.heap.objs.size) ∧ s₄.heap.NoLimit ∧ cStatics ∉ wr ∧
          (∀ href : Heap, (∀ b o, s₄.heap.get? b = some o → href.get? b = some o) →
            QuietGen prog w (genEnv scope cl s₄.heap.objs.size code bi env) x [] (.BinOp (.Name x px) .Add (.Name v pv) pb) (List.range s₄.heap.objs.size) wr P pz F href) ∧
          (∀ a h₅ tk gs, gs.bare = true → s₄.heap.objs.size < a → h₅.objs.size = a + 1 → (∀ b o, s₄.heap.get? b = some o → h₅.get? b = some o) →
            WalksS prog w A.in4 a (a :: s₄.heap.objs.size :: List.range s₄.heap.objs.size) (s₄.heap.objs.size :: wr) (GenOnlyQ s₄.gens.size) (passing pz n₀ 0).length
              (fun j y => ∃ i, (passing pz n₀ 0)[j]? = some i ∧ F i y) (GenAt prog w A.in4 a s₄.gens.size s₄.heap.objs.size (List.range s₄.heap.objs.size) wr pz n₀ F) →
            GenAt prog w A.in4 a s₄.gens.size s₄.heap.objs.size (List.range s₄.heap.objs.size) wr pz n₀ F 0 { s₄ with gens := s₄.gens.push gs, toks := tk, heap := h₅ } →
            Q (.ref a) { s₄ with gens := s₄.gens.push gs, toks := tk, heap := h₅ })) E { s₁ with heap := h₃, toks := tk₃ } := by
    intro code h₃ tk₃ more hx₃ hsz₃ hP₃ htr₃
    have M3 := M2.extBut hta hx₃
    refine wpAny_builtinsFor M3.ns M3.name M3.ne M3.obj M3.cls M3.dict M3.data ?_
    have hIP : I ≠ P := Nat.ne_of_gt hPI
    have hIt3 := hx₃ _ _ hIP hIt
    have hk3 : ∀ b o, b ≠ P → s₁.heap.get? b = some o → h₃.get? b = some o := fun b o hb e => hx₃ b o hb (hk2 b o e)
    refine ⟨s₁.heap.objs.size, [s₁.heap.objs.size], [s₁.heap.objs.size], n, _, _, (fun _ => true), (fun i y => ∃ t, y = .int (a + (i : Nat) * c₁ + d) t), rfl,
      (fun A' hA => (Walks.range hA _ a c₁ n).bound), ?_, ?_, hlim2.extBut hx₃ hcP, ?_, ?_, ?_⟩
    · show IsRangeIter h₃ _ _ _ _
      rw [hI, ← hn]
      simpa using hIt3
    · intro b hb
      rw [hI] at hb
      show b < h₃.objs.size
      rcases List.mem_cons.mp hb with rfl | hb
      · exact Nat.lt_of_lt_of_le (by rw [hz2]; exact Nat.lt_succ_self _) hsz₃
      · cases hb
    · intro hmem
      obtain ⟨_, hns, _⟩ := hlim.keeps F.keep
      have := hns.lt
      rcases List.mem_cons.mp hmem with e | hb
      · exact absurd (e ▸ this) (Nat.lt_irrefl _)
      · cases hb
    · intro href hhref
      refine ⟨?_, ?_⟩
      · intro A' E' i vv s₂ m₂ _ _ _ _ _
        rw [List.forIn_nil]
        exact wpAny_pure ⟨rfl, s₂.heap, s₂.toks, rfl, fun _ _ e => e⟩
      · intro A' E' i vv s₂ m₂ _ hPi _ hns hmx hkp
        obtain ⟨_, t, rfl⟩ := hPi
        obtain ⟨oc, hoc, hdc⟩ := hcellv
        have hcaP : ca ≠ P := fun e => by
          rw [e, hPg] at hoc; cases hoc; cases hdc
        have hcalt : ca < s₁.heap.objs.size := Heap.lt_size hoc
        have hc3 := hk3 _ _ hcaP hoc
        refine elt_add hns hmx hc ⟨oc, hkp ca (List.mem_range.mpr (Heap.lt_size hc3)) (fun hmem => ?_) _ (hhref _ _ hc3), hdc⟩ hkind ?_ ?_ hdx hdv hcv
        · rcases List.mem_cons.mp hmem with e | hb
          · exact absurd (e ▸ hcalt) (Nat.lt_irrefl _)
          · cases hb
        · simp only [genEnv, Env.kindOf]; exact hx
        · simp only [genEnv, Env.kindOf]; exact hv
    · intro g h₅ tk gs hgb hag hsz₅ hk₅ W hat
      have hag' : h₃.objs.size < g := hag
      have hk5 : ∀ b o, b ≠ P → s₁.heap.get? b = some o → h₅.get? b = some o := fun b o hb e => hk₅ b o (hk3 b o hb e)
      have F5 : Fr h₀ L h₅ m := by
        obtain ⟨oL, es, ep, hLo, r⟩ := F.ns
        refine ⟨⟨oL, es, ep, hk5 _ _ (Ne.symm hPL) hLo, r⟩, fun b o e => hk5 b o (fun hbP => ?_) (F.keep b o e), F.above⟩
        rw [hbP, hP0] at e; cases e
      have hmemN : ∀ p ∈ pre ++ (P, tabO (ps ++ more)) :: post, p = (P, tabO (ps ++ more)) ∨ (p ∈ pre ++ (P, tabO ps) :: post ∧ p.1 ≠ P) := fun p hp => by
        rcases List.mem_append.mp hp with q | q
        · exact .inr ⟨List.mem_append_left _ q, hpre p q⟩
        · rcases List.mem_cons.mp q with rfl | q
          · exact .inl rfl
          · exact .inr ⟨List.mem_append_right _ (.tail _ q), hpost p q⟩
      refine hQ g I h₅ (s₁.gens.push gs) tk more F5 (fun p hp => ?_) htr₃ (G.push hgb) (Nat.le_trans F.above (Nat.le_of_lt hLlt)) hLlt (fun p hp => ?_) ?_
      · rcases hmemN p hp with rfl | ⟨q, hne⟩
        · exact ⟨hk₅ _ _ hP₃, hPL, hP0⟩
        · exact ⟨hk5 _ _ hne (N p q).1, (N p q).2⟩
      · rcases hmemN p hp with rfl | ⟨q, hne⟩
        · exact hPI
        · rw [← hI]; exact Heap.lt_size (N p q).1
      · have hlen : (passing (fun _ => true) n 0).length = n := by rw [passing_all, List.length_range]
        rw [hlen] at W
        refine ⟨_, _, _, _, W.imp fun j y hy => ?_, hat, (fun i s' st => st.1.typeIs), List.mem_cons_self, ?_, ?_⟩
        · obtain ⟨i, hi, t, ht⟩ := hy
          rw [passing_all] at hi
          have hij : i = j := by
            by_cases hjn : j < n
            · rw [List.getElem?_range hjn] at hi; exact (Option.some.inj hi).symm
            · rw [List.getElem?_eq_none (by simpa using Nat.le_of_not_lt hjn)] at hi; cases hi
          subst hij
          exact ⟨t, ht⟩
        · intro b hb
          show b < h₅.objs.size
          rw [hsz₅]
          rcases List.mem_cons.mp hb with rfl | hb
          · exact Nat.lt_succ_self _
          · rcases List.mem_cons.mp hb with rfl | hb
            · exact Nat.lt_succ_of_lt hag
            · exact Nat.lt_succ_of_lt (Nat.lt_trans (List.mem_range.mp hb) hag)
        · intro b hb
          rcases List.mem_cons.mp hb with rfl | hb
          · show I ≤ h₃.objs.size
            exact Nat.le_trans (by rw [hz2]; exact Nat.le_succ _) hsz₃
          · rw [hI] at hb
            rcases List.mem_cons.mp hb with rfl | hb
            · exact Nat.le_refl _
            · cases hb
  refine ⟨hlim2, ?_⟩
  cases hnf : codeAmong pos ps.toList with
  | some cv =>
    refine wpAny_genexprCode_hit hcode hic hnf ?_
    rw [← hI]
    exact key cv H2 s₁.toks #[] (Heap.ExtBut.refl _ _) (Nat.le_refl _) (by simpa using hk2 _ _ hPg) (by simpa using htr)
  | none =>
    refine wpAny_genexprCodeX hcode hic hta hnf fun c' h₃ tk₃ hx₃ hge hlt hcode₃ _ htab₃ _ => ?_
    rw [← hI]
    refine key (.ref c') h₃ tk₃ _ hx₃ (Nat.le_trans hge (Nat.le_of_lt hlt)) htab₃.2 ?_
    obtain ⟨_, _, _, _, _, _, _, _, _, _, _, _, _, _, _, _, _, _, _, q, _⟩ := hcode₃
    exact q
end
end Mine
end

section
open PySem PySem.W PyProof.Rows PySem.Calls
set_option maxRecDepth 100000
set_option maxHeartbeats 4000000
set_option linter.unusedVariables false
namespace Mine
/-- a set object that holds j * c + d for j below n -/
def SetR (prog : Program) (w : World) (so : Obj) (c d : Int) (n : Nat) : Prop := so.SetObjOf (intKind prog w) (fun k' => (firstMet (fun j => 0 + (j : Nat) * c + d) n).any (· == k')) (firstMet (fun j => 0 + (j : Nat) * c + d) n).length
def SetOne (prog : Program) (w : World) (so : Obj) (k0 : Int) : Prop := ∃ R, so.SetObjOf (intKind prog w) R 1 ∧ ∀ k, R k = true → k = k0
def SetNil (prog : Program) (w : World) (so : Obj) : Prop := ∃ R, so.SetObjOf (intKind prog w) R 0
theorem firstMet_iff (val : Nat → Int) (n : Nat) (k : Int) : (firstMet val n).any (· == k) = true ↔ ∃ j, j < n ∧ val j = k := by
  rw [firstMet_any, List.any_eq_true]
  constructor
  · rintro ⟨x, hx, e⟩
    obtain ⟨j, hj, rfl⟩ := List.mem_map.mp hx
    exact ⟨j, List.mem_range.mp hj, beq_iff_eq.mp e⟩
  · rintro ⟨j, hj, e⟩
    exact ⟨val j, List.mem_map.mpr ⟨j, List.mem_range.mpr hj, rfl⟩, beq_iff_eq.mpr e⟩
section
variable {prog : Program} {w : World} {A : Around} {E : Value → Shared → Prop} {s : Shared} {h₀ : Heap} {L : Addr} {m : Str → Option Value} {news : List (Addr × Obj)}
theorem set_meth {a : Addr} {so : Obj} {name : Str} {id : String} {pl : Sem Bool} {Q : Value × List Value → Shared → Prop} (slot : Slot "set" name id) (hty : typeOf (.builtin id) = pure (.type "method_descriptor"))
    (N : News h₀ L s.heap news) (hm : (a, so) ∈ news) (hc : so.cls = .type "set" ∧ so.dict = none) (h : Q (.builtin id, [.ref a]) s) :
    wpAny (model prog w) A (getMethod (.ref a) name pl) Q E s :=
  getMethod_builtin ⟨so, (N _ hm).1, hc.1⟩ PySem.F.plainAttrs_set slot hty (fun b e => by injection e with e; subst e; exact ⟨so, (N _ hm).1, hc.2⟩) h
theorem SetR.cls {so : Obj} {c d : Int} {n : Nat} (h : SetR prog w so c d n) : so.cls = .type "set" ∧ so.dict = none := ⟨h.1.1, h.1.2.1⟩
theorem SetOne.cls {so : Obj} {k : Int} (h : SetOne prog w so k) : so.cls = .type "set" ∧ so.dict = none := let ⟨_, h, _⟩ := h; ⟨h.1.1, h.1.2.1⟩
theorem SetNil.cls {so : Obj} (h : SetNil prog w so) : so.cls = .type "set" ∧ so.dict = none := let ⟨_, h⟩ := h; ⟨h.1.1, h.1.2.1⟩
theorem inter_N {a b : Addr} {so₁ so₂ : Obj} {c₁ d₁ c₂ d₂ k0 : Int} {n₁ n₂ : Nat} {Q : Value → Shared → Prop} (F : Fr h₀ L s.heap m) (N : News h₀ L s.heap news) (hm1 : (a, so₁) ∈ news) (hm2 : (b, so₂) ∈ news)
    (h1 : SetR prog w so₁ c₁ d₁ n₁) (h2 : SetR prog w so₂ c₂ d₂ n₂) (hab : a ≠ b) (hn1 : n₁ < 4000) (hn2 : n₂ < 4000)
    (huniq : ∀ i j : Nat, i < n₁ → j < n₂ → 0 + (i : Int) * c₁ + d₁ = 0 + (j : Int) * c₂ + d₂ → 0 + (i : Int) * c₁ + d₁ = k0)
    (h : ∀ h' so R n, Fr h₀ L h' m → News h₀ L h' ((s.heap.objs.size, so) :: news) → (∀ p ∈ news, p.1 < s.heap.objs.size) → so.SetObjOf (intKind prog w) R n → n = (if R k0 then 1 else 0) → (∀ k, R k = true → k = k0) →
      (R k0 = true ↔ (∃ i : Nat, i < n₁ ∧ 0 + (i : Int) * c₁ + d₁ = k0) ∧ (∃ i : Nat, i < n₂ ∧ 0 + (i : Int) * c₂ + d₂ = k0)) → Q (.ref s.heap.objs.size) { s with heap := h' }) :
    wpAny (model prog w) A (call (.builtin "set.intersection") [.ref a, .ref b]) Q E s := by
  have hs1 : s.heap.SetOf (intKind prog w) a _ _ := h1.setOf (N _ hm1).1 (by unfold scanBound; have := firstMet_length_le (fun j => 0 + (j : Nat) * c₁ + d₁) n₁; omega)
  have hs2 : s.heap.SetOf (intKind prog w) b _ _ := h2.setOf (N _ hm2).1 (by unfold scanBound; have := firstMet_length_le (fun j => 0 + (j : Nat) * c₂ + d₂) n₂; omega)
  have hlt : ∀ p ∈ news, p.1 < s.heap.objs.size := fun p hp => Heap.lt_size (N p hp).1
  refine call_set_intersection (k0 := k0) hs1 hs2 hab (fun k x y => ?_) fun h' R n hk hR hn hRk hR0 => ?_
  · obtain ⟨i, hi, rfl⟩ := (firstMet_iff _ _ _).mp x
    obtain ⟨j, hj, e⟩ := (firstMet_iff _ _ _).mp y
    exact huniq i j hi hj e.symm
  · obtain ⟨so, ho, hso⟩ := hR.objOf
    have hS0 : h₀.get? s.heap.objs.size = none := by
      cases hq : h₀.get? s.heap.objs.size with
      | none => rfl
      | some o => exact absurd (Heap.lt_size (F.keep _ _ hq)) (Nat.lt_irrefl _)
    have hLs : s.heap.objs.size ≠ L := by
      obtain ⟨oL, _, _, hLo, _⟩ := F.ns
      exact Nat.ne_of_gt (Heap.lt_size hLo)
    refine h h' so R n (F.keeps hk) (fun p hp => ?_) hlt hso hn hRk ?_
    · rcases List.mem_cons.mp hp with rfl | hp
      · exact ⟨ho, hLs, hS0⟩
      · exact ⟨hk _ _ (N p hp).1, (N p hp).2⟩
    · rw [hR0, Bool.and_eq_true, firstMet_iff, firstMet_iff]
theorem inter_one {a b : Addr} {so₁ so₂ : Obj} {c₁ d₁ c₂ d₂ k0 : Int} {n₁ n₂ : Nat} {Q : Value → Shared → Prop} (F : Fr h₀ L s.heap m) (N : News h₀ L s.heap news) (hm1 : (a, so₁) ∈ news) (hm2 : (b, so₂) ∈ news)
    (h1 : SetR prog w so₁ c₁ d₁ n₁) (h2 : SetR prog w so₂ c₂ d₂ n₂) (hab : a ≠ b) (hn1 : n₁ < 4000) (hn2 : n₂ < 4000)
    (huniq : ∀ i j : Nat, i < n₁ → j < n₂ → 0 + (i : Int) * c₁ + d₁ = 0 + (j : Int) * c₂ + d₂ → 0 + (i : Int) * c₁ + d₁ = k0)
    (hin1 : ∃ i : Nat, i < n₁ ∧ 0 + (i : Int) * c₁ + d₁ = k0) (hin2 : ∃ i : Nat, i < n₂ ∧ 0 + (i : Int) * c₂ + d₂ = k0)
    (h : ∀ h' so, Fr h₀ L h' m → News h₀ L h' ((s.heap.objs.size, so) :: news) → (∀ p ∈ news, p.1 < s.heap.objs.size) → SetOne prog w so k0 → Q (.ref s.heap.objs.size) { s with heap := h' }) :
    wpAny (model prog w) A (call (.builtin "set.intersection") [.ref a, .ref b]) Q E s :=
  inter_N F N hm1 hm2 h1 h2 hab hn1 hn2 huniq fun h' so R n F' N' hlt hso hn hRk hR0 => h h' so F' N' hlt ⟨R, by rw [hn, if_pos (hR0.mpr ⟨hin1, hin2⟩)] at hso; exact hso, hRk⟩
theorem inter_nil {a b : Addr} {so₁ so₂ : Obj} {c₁ d₁ c₂ d₂ : Int} {n₁ n₂ : Nat} {Q : Value → Shared → Prop} (F : Fr h₀ L s.heap m) (N : News h₀ L s.heap news) (hm1 : (a, so₁) ∈ news) (hm2 : (b, so₂) ∈ news)
    (h1 : SetR prog w so₁ c₁ d₁ n₁) (h2 : SetR prog w so₂ c₂ d₂ n₂) (hab : a ≠ b) (hn1 : n₁ < 4000) (hn2 : n₂ < 4000)
    (hno : ∀ i j : Nat, i < n₁ → j < n₂ → 0 + (i : Int) * c₁ + d₁ = 0 + (j : Int) * c₂ + d₂ → False)
    (h : ∀ h' so, Fr h₀ L h' m → News h₀ L h' ((s.heap.objs.size, so) :: news) → (∀ p ∈ news, p.1 < s.heap.objs.size) → SetNil prog w so → Q (.ref s.heap.objs.size) { s with heap := h' }) :
    wpAny (model prog w) A (call (.builtin "set.intersection") [.ref a, .ref b]) Q E s :=
  inter_N (k0 := 0) F N hm1 hm2 h1 h2 hab hn1 hn2 (fun i j hi hj e => (hno i j hi hj e).elim) fun h' so R n F' N' hlt hso hn hRk hR0 => h h' so F' N' hlt ⟨R, by
    have : ¬ R 0 = true := fun e => by
      obtain ⟨⟨i, hi, e1⟩, ⟨j, hj, e2⟩⟩ := hR0.mp e
      exact hno i j hi hj (e1.trans e2.symm)
    rw [hn, if_neg this] at hso; exact hso⟩
theorem pop_one {a : Addr} {so : Obj} {k0 : Int} {g : Obj → List (Addr × Obj)} {Q : Value → Shared → Prop} (F : Fr h₀ L s.heap m) (N : News h₀ L s.heap news) (U : UpdF a so news g) (h1 : SetOne prog w so k0)
    (h : ∀ h' t d so', Fr h₀ L h' m → News h₀ L h' (g so') → Q (.int k0 t) { s with heap := h', drawn := d }) :
    wpAny (model prog w) A (call (.builtin "set.pop") [.ref a]) Q E s := by
  obtain ⟨pre, post, rfl, hg, h2, h3⟩ := U.split
  have hm := N (a, so) (List.mem_append_right _ (.head _))
  obtain ⟨R, hso, hR⟩ := h1
  refine call_set_pop1 (hso.setOf hm.1 (by unfold scanBound; omega)) hR fun h' t d so' hsb ho' => ?_
  exact h h' t d so' (F.change hsb hm.2.1 hm.2.2) (hg so' ▸ N.setIn h2 h3 hsb ho')
theorem pop_nil {a : Addr} {so : Obj} {Q : Value → Shared → Prop} (F : Fr h₀ L s.heap m) (N : News h₀ L s.heap news) (hm : (a, so) ∈ news) (h1 : SetNil prog w so) (hh : A.handled = none)
    (h : ∀ h' tk e, Fr h₀ L h' m → News h₀ L h' news → Heap.NewExc s.heap h' e "KeyError" → E (.ref e) { s with heap := h', toks := tk }) :
    wpAny (model prog w) A (call (.builtin "set.pop") [.ref a]) Q E s := by
  obtain ⟨R, hso⟩ := h1
  refine call_set_pop0 (hso.setOf (N _ hm).1 (by unfold scanBound; omega)) hh fun h' tk e hx => ?_
  exact h h' tk e (F.keeps hx.1) (fun p hp => ⟨hx.1 _ _ (N p hp).1, (N p hp).2⟩) hx
end
end Mine
end

section
open PySem PySem.W PyProof.Rows PySem.Calls
set_option maxRecDepth 100000
set_option maxHeartbeats 4000000
set_option linter.unusedVariables false
namespace Mine
theorem code57 {w : World} {h : Heap} {ps : Array Value} (X : (hd.heap_39 w.params).In h) (hP : h.get? 53 = some (tabO ps)) (htr : TriplesOk ps.toList) : h.IsCode 57 53 ps ∧ h.TableAt 57 53 ps :=
  ⟨⟨_, _, _, _, _, _, _, _, _, _, X 57 _ rfl, rfl, rfl, rfl, rfl, rfl, rfl, hP, rfl, htr, by decide⟩, ⟨_, _, X 57 _ rfl, rfl, rfl, rfl⟩, hP⟩
theorem code71 {w : World} {h : Heap} {ps : Array Value} (X : (hd.heap_39 w.params).In h) (hP : h.get? 67 = some (tabO ps)) (htr : TriplesOk ps.toList) : h.IsCode 71 67 ps ∧ h.TableAt 71 67 ps :=
  ⟨⟨_, _, _, _, _, _, _, _, _, _, X 71 _ rfl, rfl, rfl, rfl, rfl, rfl, rfl, hP, rfl, htr, by decide⟩, ⟨_, _, X 71 _ rfl, rfl, rfl, rfl⟩, hP⟩
def GenSrcU (prog : Program) (w : World) (A : Around) (h₀ : Heap) (L : Addr) (m : Str → Option Value) (P ca : Addr) (oc : Obj) (a b c₁ d : Int) (n : Nat) (Q : Value → Shared → Prop) (xv : Value) (s₁ : Shared) : Prop :=
  ∃ r t₁ u₁ v₁ news ps gl, xv = .ref r ∧ IsRange s₁.heap r a b c₁ t₁ u₁ v₁ ∧ Fr h₀ L s₁.heap m ∧ News h₀ L s₁.heap news ∧ UpdF P (tabO ps) news gl ∧ AllBare s₁.gens ∧ TriplesOk ps.toList ∧ (ca, oc) ∈ news ∧
    ∀ (g : Addr) (lim : Nat) (h' : Heap) (gs : Array GenState) (tk : Nat) (more : Array Value), Fr h₀ L h' m → News h₀ L h' (gl (tabO (ps ++ more))) → TriplesOk (ps ++ more).toList → AllBare gs →
      h₀.objs.size ≤ lim → L < lim → (∀ p ∈ gl (tabO (ps ++ more)), p.1 < lim) → GenI prog w A g n (fun j => a + (j : Nat) * c₁ + d) lim { s₁ with heap := h', gens := gs, toks := tk } →
      Q (.ref g) { s₁ with heap := h', gens := gs, toks := tk }
section
variable {prog : Program} {w : World} {A : Around} {E : Value → Shared → Prop} {s : Shared} {h₀ : Heap} {L : Addr} {m : Str → Option Value} {news : List (Addr × Obj)} {p : Program} {loose : List Str} {mean : ExcName → Option Value} {mg mb : Str → Option Value}
theorem genexp_K {env : Env} {iter : Expr} {x v : Str} {px px2 pv pb : Pos} {scope : Scope} {cl : List (Str × Addr)} {pos : Pos} {Q : Value → Shared → Prop} {c P ca : Addr} {oc : Obj} {tv : Tok} {a b c₁ d : Int} {n : Nat}
    (T : Top p loose mean mg mb h₀) (X : (hd.heap_39 w.params).In h₀) (F : Fr h₀ L s.heap m) (N : News h₀ L s.heap news) (hmem : (ca, oc) ∈ news) (hoc : oc.data = .cell (some (.int d tv)))
    (h : wpAny (model prog w) A (eval iter env) (GenSrcU prog w A h₀ L m P ca oc a b c₁ d n Q) E s)
    (hco' : ∀ (h : Heap) ps, (hd.heap_39 w.params).In h → h.get? P = some (tabO ps) → TriplesOk ps.toList → h.IsCode c P ps ∧ h.TableAt c P ps)
    (hsmall : Builtin.Range.small a b c₁ = true) (hn : Builtin.Range.rangeSize a b c₁ = (n : Int)) (hgl : env.globals = mainGlobals)
    (hcode : env.code = .ref c) (hh : A.handled = none) (hco : scope.isCoroutine = false) (hclos : closureFor scope env = pure cl) (hcell : ∀ y ∈ scope.names, y.2 ≠ .cell) (h0 : scope.names.lookup (".0" : Str) = some NameKind.local)
    (hx : scope.names.lookup x = some .local) (hv : scope.names.lookup v = some .free) (hc : cl.lookup v = some ca) (hkind : scope.kind = .function) (hroom : A.depth < recursionLimit)
    (hdx : (x == ("__debug__" : Str)) = false) (hdv : (v == ("__debug__" : Str)) = false) (hcv : (v == ("__classdict__" : Str)) = false)
    (hs : ∀ x, genFold iter env x = pure x) (hcP : cStatics ≠ P) :
    wpAny (model prog w) A (eval (.GeneratorExp (.BinOp (.Name x px) .Add (.Name v pv) pb) [⟨.Name x px2, iter, [], 0⟩] scope pos) env) Q E s := by
  obtain ⟨bm, ob, M⟩ := bmod_of_top T
  rw [← hgl] at M
  refine genexp_N (mg := mg) (bm := bm) (ob := ob) (h₀ := h₀) (L := L) (m := m) (c := c) (P := P) (ca := ca) (a := a) (b := b) (c₁ := c₁) (d := d) (n := n) (wpAny_mono h (fun xv s₁ hs₁ => ?_) fun _ _ e => e) hsmall hn hcode hh hco hclos hcell h0 hx hv hc hkind hroom hdx hdv hcv hs hcP
  obtain ⟨r, t₁, u₁, v₁, news, ps, gl, h1, h2, h3, h4, U, h5, h6, h7, h8⟩ := hs₁
  obtain ⟨pre, post, rfl, hg, q1, q2⟩ := U.split
  refine ⟨r, t₁, u₁, v₁, tv, pre, ps, post, h1, h2, h3, h4, q1, q2, h5, h6, T.nolimit, M, ⟨oc, (h4 _ h7).1, hoc⟩, fun h' hk hP => hco' h' ps (X.keeps hk) hP h6, ?_⟩
  intro g lim h' gs tk more
  have := h8 g lim h' gs tk more
  rw [hg] at this
  exact this
end
end Mine
end

section
open PySem PySem.W PyProof.Rows PySem.Calls
set_option maxRecDepth 100000
set_option maxHeartbeats 400000
set_option linter.unusedVariables false
namespace Mine
section
variable {prog : Program} {w : World} {A : Around} {E : Value → Shared → Prop} {s : Shared} {h₀ : Heap} {L : Addr} {m : Str → Option Value} {news : List (Addr × Obj)}
theorem genSrcU_intro {P ca r : Addr} {oc : Obj} {a b c₁ d : Int} {n : Nat} {Q : Value → Shared → Prop} {t₁ u₁ v₁ : Tok} {ps : Array Value} {gl : Obj → List (Addr × Obj)}
    (h1 : IsRange s.heap r a b c₁ t₁ u₁ v₁) (F : Fr h₀ L s.heap m) (N : News h₀ L s.heap news) (U : UpdF P (tabO ps) news gl) (G : AllBare s.gens) (htr : TriplesOk ps.toList) (hm : (ca, oc) ∈ news)
    (h : ∀ (g : Addr) (lim : Nat) (h' : Heap) (gs : Array GenState) (tk : Nat) (more : Array Value), Fr h₀ L h' m → News h₀ L h' (gl (tabO (ps ++ more))) → TriplesOk (ps ++ more).toList → AllBare gs →
      h₀.objs.size ≤ lim → L < lim → (∀ p ∈ gl (tabO (ps ++ more)), p.1 < lim) → GenI prog w A g n (fun j => a + (j : Nat) * c₁ + d) lim { s with heap := h', gens := gs, toks := tk } →
      Q (.ref g) { s with heap := h', gens := gs, toks := tk }) : GenSrcU prog w A h₀ L m P ca oc a b c₁ d n Q (.ref r) s :=
  ⟨r, t₁, u₁, v₁, news, ps, gl, rfl, h1, F, N, U, G, htr, hm, h⟩
theorem set_genR {g : Addr} {n lim : Nat} {c d : Int} {Q : Value → Shared → Prop} (X : GenI prog w A g n (fun j => 0 + (j : Nat) * c + d) lim s) (F : Fr h₀ L s.heap m) (N : News h₀ L s.heap news) (G : AllBare s.gens)
    (hlim : h₀.objs.size ≤ lim) (hL : L < lim) (hN : ∀ p ∈ news, p.1 < lim) (hb : n + 1 < scanBound)
    (h : ∀ D h' tk gs so, Fr h₀ L h' m → News h₀ L h' ((D, so) :: news) → AllBare gs → (∀ p ∈ news, p.1 < D) → SetR prog w so c d n → Q (.ref D) { s with heap := h', gens := gs, toks := tk }) :
    wpAny (model prog w) A (call (.type "set") [.ref g]) Q E s :=
  set_genN F N G X hlim hL hN hb fun h' tk gs so F' N' G' hlt hs => h _ h' tk gs so F' N' G' hlt hs
theorem inter_oneD {a b : Addr} {so₁ so₂ : Obj} {c₁ d₁ c₂ d₂ : Int} {n₁ n₂ : Nat} {Q : Value → Shared → Prop} (k0 : Int) (F : Fr h₀ L s.heap m) (N : News h₀ L s.heap news) (hm1 : (a, so₁) ∈ news) (hm2 : (b, so₂) ∈ news)
    (h1 : SetR prog w so₁ c₁ d₁ n₁) (h2 : SetR prog w so₂ c₂ d₂ n₂) (hab : @Ne Nat a b) (hn1 : n₁ < 4000) (hn2 : n₂ < 4000)
    (huniq : ∀ i j : Nat, i < n₁ → j < n₂ → 0 + (i : Int) * c₁ + d₁ = 0 + (j : Int) * c₂ + d₂ → 0 + (i : Int) * c₁ + d₁ = k0)
    (hin1 : ∃ i : Nat, i < n₁ ∧ 0 + (i : Int) * c₁ + d₁ = k0) (hin2 : ∃ i : Nat, i < n₂ ∧ 0 + (i : Int) * c₂ + d₂ = k0)
    (h : ∀ D h' so, Fr h₀ L h' m → News h₀ L h' ((D, so) :: news) → (∀ p ∈ news, p.1 < D) → SetOne prog w so k0 → Q (.ref D) { s with heap := h' }) :
    wpAny (model prog w) A (call (.builtin "set.intersection") [.ref a, .ref b]) Q E s :=
  inter_one F N hm1 hm2 h1 h2 hab hn1 hn2 huniq hin1 hin2 fun h' so F' N' hlt hs => h _ h' so F' N' hlt hs
theorem inter_nilD {a b : Addr} {so₁ so₂ : Obj} {c₁ d₁ c₂ d₂ : Int} {n₁ n₂ : Nat} {Q : Value → Shared → Prop} (F : Fr h₀ L s.heap m) (N : News h₀ L s.heap news) (hm1 : (a, so₁) ∈ news) (hm2 : (b, so₂) ∈ news)
    (h1 : SetR prog w so₁ c₁ d₁ n₁) (h2 : SetR prog w so₂ c₂ d₂ n₂) (hab : @Ne Nat a b) (hn1 : n₁ < 4000) (hn2 : n₂ < 4000)
    (hno : ∀ i j : Nat, i < n₁ → j < n₂ → 0 + (i : Int) * c₁ + d₁ = 0 + (j : Int) * c₂ + d₂ → False)
    (h : ∀ D h' so, Fr h₀ L h' m → News h₀ L h' ((D, so) :: news) → (∀ p ∈ news, p.1 < D) → SetNil prog w so → Q (.ref D) { s with heap := h' }) :
    wpAny (model prog w) A (call (.builtin "set.intersection") [.ref a, .ref b]) Q E s :=
  inter_nil F N hm1 hm2 h1 h2 hab hn1 hn2 hno fun h' so F' N' hlt hs => h _ h' so F' N' hlt hs
theorem pop_oneD {a : Addr} {so : Obj} {k0 : Int} {Q : Value → Shared → Prop} (F : Fr h₀ L s.heap m) (N : News h₀ L s.heap ((a, so) :: news)) (hlt : ∀ p ∈ news, p.1 < a) (h1 : SetOne prog w so k0)
    (h : ∀ h' t d, Fr h₀ L h' m → News h₀ L h' news → Q (.int k0 t) { s with heap := h', drawn := d }) :
    wpAny (model prog w) A (call (.builtin "set.pop") [.ref a]) Q E s :=
  pop_one F N (UpdF.head fun p hp => Nat.ne_of_lt (hlt p hp)) h1 fun h' t d so' F' N' => h h' t d F' fun p hp => N' p (.tail _ hp)
theorem pop_nilD {a : Addr} {so : Obj} {Q : Value → Shared → Prop} (F : Fr h₀ L s.heap m) (N : News h₀ L s.heap ((a, so) :: news)) (h1 : SetNil prog w so) (hh : A.handled = none)
    (h : ∀ h' tk e, Fr h₀ L h' m → News h₀ L h' news → Heap.NewExc s.heap h' e "KeyError" → E (.ref e) { s with heap := h', toks := tk }) :
    wpAny (model prog w) A (call (.builtin "set.pop") [.ref a]) Q E s :=
  pop_nil F N (.head _) h1 hh fun h' tk e F' N' => h h' tk e F' fun p hp => N' p (.tail _ hp)
end
theorem allLt_app {d : Addr} : ∀ {l r : List (Addr × Obj)}, AllLt d (l ++ r) = (AllLt d l ∧ AllLt d r)
  | [], r => by simp [AllLt]
  | p :: l, r => by
    show (_ ∧ AllLt d (l ++ r)) = ((_ ∧ AllLt d l) ∧ AllLt d r)
    rw [allLt_app, and_assoc]
theorem AllLt_cons {d : Addr} {p : Addr × Obj} {r : List (Addr × Obj)} : AllLt d (p :: r) = (@LT.lt Nat _ p.1 d ∧ AllLt d r) := rfl
theorem AllLt_nil {d : Addr} : AllLt d [] = True := rfl
theorem allLt_mem {d : Addr} {l : List (Addr × Obj)} (h : AllLt d l) : ∀ p ∈ l, @LT.lt Nat _ p.1 d := by
  induction l with
  | nil => intro p hp; cases hp
  | cons q r ih =>
    rw [AllLt_cons] at h
    intro p hp
    rcases List.mem_cons.mp hp with e | hp
    · rw [e]; exact h.1
    · exact ih h.2 p hp
theorem ne_base {B D : Nat} {pre : List (Addr × Obj)} {a b : Obj} (h : AllLt B pre ∧ 53 < B ∧ 67 < B) (hD : B ≤ D) : ∀ p ∈ pre ++ [(53, a), (67, b)], p.1 ≠ D := fun p hp => by
  rcases List.mem_append.mp hp with hp | hp
  · exact Nat.ne_of_lt (Nat.lt_of_lt_of_le (allLt_mem h.1 p hp) hD)
  · rcases List.mem_cons.mp hp with rfl | hp
    · exact Nat.ne_of_lt (Nat.lt_of_lt_of_le h.2.1 hD)
    · rcases List.mem_cons.mp hp with rfl | hp
      · exact Nat.ne_of_lt (Nat.lt_of_lt_of_le h.2.2 hD)
      · cases hp
def Off (pre : List (Addr × Obj)) : Prop := ∀ p ∈ pre, p.1 ≠ 53 ∧ p.1 ≠ 67
theorem updF_53 {o o' : Obj} : ∀ {pre : List (Addr × Obj)}, Off pre → UpdF 53 o (pre ++ [(53, o), (67, o')]) (fun x => pre ++ [(53, x), (67, o')])
  | [], _ => UpdF.head fun p hp => by
    rcases List.mem_cons.mp hp with rfl | hp
    · show (67 : Nat) ≠ 53
      decide
    · cases hp
  | p :: pre, h => UpdF.tail (h p (.head _)).1 (updF_53 fun q hq => h q (.tail _ hq))
theorem updF_67 {o o' : Obj} : ∀ {pre : List (Addr × Obj)}, Off pre → UpdF 67 o' (pre ++ [(53, o), (67, o')]) (fun x => pre ++ [(53, o), (67, x)])
  | [], _ => UpdF.tail (show (53 : Nat) ≠ 67 by decide) (UpdF.head fun p hp => by cases hp)
  | p :: pre, h => UpdF.tail (h p (.head _)).2 (updF_67 fun q hq => h q (.tail _ hq))
/-- the number of a day name and a day number in the round of 260 -/
def crt (d n : Int) : Int := (40 * d + 221 * n - 1) % 260 + 1
theorem crt_uniq {d n : Int} (h0 : 1 ≤ d) (h1 : d ≤ 13) (h2 : 1 ≤ n) (h3 : n ≤ 20) (i j : Nat) (hi : i < 20) (hj : j < 13) (e : 0 + (i : Int) * 13 + d = 0 + (j : Int) * 20 + n) : 0 + (i : Int) * 13 + d = crt d n := by
  unfold crt; omega
theorem crt_in1 {d n : Int} (h0 : 1 ≤ d) (h1 : d ≤ 13) (h2 : 1 ≤ n) (h3 : n ≤ 20) : ∃ i : Nat, i < 20 ∧ 0 + (i : Int) * 13 + d = crt d n := by
  refine ⟨((crt d n - d) / 13).toNat, ?_, ?_⟩ <;> (unfold crt; omega)
theorem crt_in2 {d n : Int} (h0 : 1 ≤ d) (h1 : d ≤ 13) (h2 : 1 ≤ n) (h3 : n ≤ 20) : ∃ i : Nat, i < 13 ∧ 0 + (i : Int) * 20 + n = crt d n := by
  refine ⟨((crt d n - n) / 20).toNat, ?_, ?_⟩ <;> (unfold crt; omega)
section
variable {prog : Program} {w : World} {A : Around} {E : Value → Shared → Prop} {s : Shared} {h₀ : Heap} {L : Addr} {m : Str → Option Value} {news : List (Addr × Obj)}
theorem inter_tz {a b : Addr} {so₁ so₂ : Obj} {d n : Int} {Q : Value → Shared → Prop} (F : Fr h₀ L s.heap m) (N : News h₀ L s.heap news) (hm1 : (a, so₁) ∈ news) (hm2 : (b, so₂) ∈ news)
    (h1 : SetR prog w so₁ 13 d 20) (h2 : SetR prog w so₂ 20 n 13) (hab : @Ne Nat a b) (q0 : 1 ≤ d) (q1 : d ≤ 13) (q2 : 1 ≤ n) (q3 : n ≤ 20)
    (h : ∀ D h' so, Fr h₀ L h' m → News h₀ L h' ((D, so) :: news) → (∀ p ∈ news, p.1 < D) → SetOne prog w so (crt d n) → Q (.ref D) { s with heap := h' }) :
    wpAny (model prog w) A (call (.builtin "set.intersection") [.ref a, .ref b]) Q E s :=
  inter_oneD (crt d n) F N hm1 hm2 h1 h2 hab (by decide) (by decide) (fun i j hi hj e => crt_uniq q0 q1 q2 q3 i j hi hj e) (crt_in1 q0 q1 q2 q3) (crt_in2 q0 q1 q2 q3) h
end
end Mine
end

section
open PySem PySem.W PyProof.Rows PySem.Calls
set_option maxRecDepth 100000
set_option maxHeartbeats 1000000
set_option linter.unusedVariables false
namespace Mine
local macro_rules | `(tactic| k_room) => `(tactic| ((try simp only [depth_mark, depth_under_make, depth_under_kw, depth_in1, depth_deeper, depth_caller]); (try dsimp only [ktrTop]); omega))
local macro_rules | `(tactic| k_units) => `(tactic| (have hcL9 := cLine_is; (try simp only [units_in1, units_deeper, Around.mark_units, units_caller]); (try dsimp only [ktrTop]); omega))
local macro_rules | `(tactic| walk_at "getMethod ref") => `(tactic| (k_here; (with_reducible show wpAny _ _ (getMethod (Value.ref 29) (Str.ofString "index") _) _ _ _); k_dflt (refine' haab_index_m ?X ?_; (case X => k_in))))
local macro_rules | `(tactic| walk_at "getMethod ref") => `(tactic| (k_here; (with_reducible show wpAny _ _ (getMethod (Value.ref 30) (Str.ofString "index") _) _ _ _); k_dflt (refine' tz_index_m ?X ?_; (case X => k_in))))
local macro_rules | `(tactic| walk_at "call builtin:list.index") => `(tactic| (k_here; k_dflt (first | (refine' haab_index ?X ?a ?b ?_; (case X => k_in); (case a => omega); (case b => omega)) | (refine' tz_index ?X ?a ?b ?_; (case X => k_in); (case a => omega); (case b => omega))); intro t9; (try dsimp only)))
local macro_rules | `(tactic| k_lt $h:ident) => `(tactic| (replace $h := allLt_of $h; simp only [AllLt_cons, AllLt_nil, allLt_app, and_true] at $h:ident))
local macro_rules | `(tactic| k_updF) => `(tactic| first | exact updF_53 (by assumption) | exact updF_67 (by assumption))
local macro_rules | `(tactic| walk_at "eval GeneratorExp") => `(tactic| (k_here; (try k_fold); (with_reducible show wpAny _ _ (eval (Expr.GeneratorExp _ [⟨_, Expr.Call _ [_, _, Expr.Constant (Const.int 13) _ _] _ _, _, _⟩] _ _) _) _ _ _); k_dflt (refine' genexp_K (c := 57) (P := 53) (a := 0) (b := 260) (c₁ := 13) (n := 20) ?T ?X ?F ?N ?hmem ?hoc ?_ ?hco ?q1 ?q2 ?q3 ?q4 ?q5 ?q6 ?q7 ?q8 ?q9 ?q10 ?q11 ?q12 ?q13 ?q14 ?q15 ?q16 ?q17 ?q18 ?q19; (case T => k_asm); (case X => k_asm); (case F => k_asm); (case N => k_asm); (case q7 => with_unfolding_all rfl); (case q12 => with_unfolding_all rfl); (case hmem => k_mem); (case hoc => first | assumption | rfl); (case hco => exact fun _ _ x y z => code57 x y z); (case q1 => decide +kernel); (case q2 => decide +kernel); (case q3 => rfl); (case q4 => rfl); (case q5 => rfl); (case q6 => rfl); (case q8 => decide); (case q9 => rfl); (case q10 => rfl); (case q11 => rfl); (case q13 => rfl); (case q14 => k_room); (case q15 => decide); (case q16 => decide); (case q17 => decide); (case q18 => exact fun _ => rfl); (case q19 => decide))))
local macro_rules | `(tactic| walk_at "eval GeneratorExp") => `(tactic| (k_here; (try k_fold); (with_reducible show wpAny _ _ (eval (Expr.GeneratorExp _ [⟨_, Expr.Call _ [_, _, Expr.Constant (Const.int 20) _ _] _ _, _, _⟩] _ _) _) _ _ _); k_dflt (refine' genexp_K (c := 57) (P := 53) (a := 0) (b := 260) (c₁ := 20) (n := 13) ?T ?X ?F ?N ?hmem ?hoc ?_ ?hco ?q1 ?q2 ?q3 ?q4 ?q5 ?q6 ?q7 ?q8 ?q9 ?q10 ?q11 ?q12 ?q13 ?q14 ?q15 ?q16 ?q17 ?q18 ?q19; (case T => k_asm); (case X => k_asm); (case F => k_asm); (case N => k_asm); (case q7 => with_unfolding_all rfl); (case q12 => with_unfolding_all rfl); (case hmem => k_mem); (case hoc => first | assumption | rfl); (case hco => exact fun _ _ x y z => code57 x y z); (case q1 => decide +kernel); (case q2 => decide +kernel); (case q3 => rfl); (case q4 => rfl); (case q5 => rfl); (case q6 => rfl); (case q8 => decide); (case q9 => rfl); (case q10 => rfl); (case q11 => rfl); (case q13 => rfl); (case q14 => k_room); (case q15 => decide); (case q16 => decide); (case q17 => decide); (case q18 => exact fun _ => rfl); (case q19 => decide))))
local macro_rules | `(tactic| k_all) => `(tactic| exact ne_base (by assumption) (by omega))
local macro_rules | `(tactic| walk_at "exec Try") => `(tactic| (k_here; (with_reducible show wpAny _ _ (exec (Stmt.Try _ (_ :: _) _ [] _) _) _ _ _); refine wpAny_Try_except ?_))
local macro_rules | `(tactic| walk_at "GenSrcU") => `(tactic| (k_dflt (refine' genSrcU_intro ?k1 ?k2 ?k3 ?k4 ?k5 ?k6 ?k7 ?_; (case k1 => assumption); (case k2 => k_asm); (case k3 => k_asm); (case k4 => k_updF); (case k5 => row_bare); (case k6 => assumption); (case k7 => k_mem)); intro g9 lim9 h9 gs9 tk9 more9 F9 N9 htr9 G9 hl9 hL9 hlt9 X9; (try dsimp only at N9 hlt9); (try dsimp only); (try k_sweep)))
local macro_rules | `(tactic| walk_at "call type:set") => `(tactic| (k_here; k_dflt (refine' set_genR ?X ?F ?N ?G ?a ?b ?c ?d ?_; (case X => assumption); (case F => k_asm); (case N => k_asm); (case G => row_bare); (case a => assumption); (case b => assumption); (case c => assumption); (case d => decide)); intro D9 h9 tk9 gs9 so9 F9 N9 G9 l9 hs9; (try k_lt l9); (try dsimp only); (try k_sweep)))
local macro_rules | `(tactic| walk_at "getMethod ref") => `(tactic| (k_here; (with_reducible show wpAny _ _ (getMethod (Value.ref _) (Str.ofString "intersection") _) _ _ _); k_dflt (refine' set_meth PySem.F.slot_set_intersection PySem.F.type_set_intersection ?N ?m ?c ?_; (case N => k_asm); (case m => k_mem); (case c => exact SetR.cls (by assumption)))))
local macro_rules | `(tactic| walk_at "getMethod ref") => `(tactic| (k_here; (with_reducible show wpAny _ _ (getMethod (Value.ref _) (Str.ofString "pop") _) _ _ _); k_dflt (refine' set_meth PySem.F.slot_set_pop PySem.F.type_set_pop ?N ?m ?c ?_; (case N => k_asm); (case m => k_mem); (case c => first | exact SetOne.cls (by assumption) | exact SetNil.cls (by assumption)))))
local macro_rules | `(tactic| walk_at "call builtin:set.intersection") => `(tactic| (k_here; k_dflt (refine' inter_tz ?F ?N ?m1 ?m2 ?s1 ?s2 ?ne ?a ?b ?c ?d ?_; (case F => k_asm); (case N => k_asm); (case m1 => k_mem); (case m2 => k_mem); (case s1 => assumption); (case s2 => assumption); (case ne => k_ne); (case a => omega); (case b => omega); (case c => omega); (case d => omega)); intro D9 h9 so9 F9 N9 l9 hs9; (have l9k := l9); (try k_lt l9); (try dsimp only); (try k_sweep)))
local macro_rules | `(tactic| walk_at "call builtin:set.pop") => `(tactic| (k_here; k_dflt (refine' pop_oneD ?F ?N ?l ?s ?_; (case F => k_asm); (case N => k_asm); (case l => assumption); (case s => assumption)); intro h9 t9 d9 F9 N9; (try dsimp only); (try k_sweep)))
section
variable {w : World} {p : Program} {loose : List Str} {mean : ExcName → Option Value} {mg mb : Str → Option Value}
  {dp un : Nat} {gd : Option (List Code)} {cn : Str} {cs : Scope} {a : Addr} {ccd : Value} {cl : List (Str × Addr)} {outer : List Env} {A₀ : Around} {base h₀ : Heap} {L : Addr} {m : Str → Option Value} {pre : List (Addr × Obj)} {s : Shared} {Q E : Value → Shared → Prop} {ps qs : Array Value}
theorem tzc_spec {d j : Int} {tk tk2 : Tok}
    (B : Below A₀ base outer h₀) (F : Fr h₀ L s.heap m) (X : (hd.heap_39 w.params).In h₀) (N : News h₀ L s.heap (pre ++ [(53, tabO ps), (67, tabO qs)])) (O : Off pre) (htr : TriplesOk ps.toList) (G : AllBare s.gens) (T : Top p loose mean mg mb h₀) (hk : cs.kind = .function) (hd : dp + 10 < recursionLimit) (hu : un + 40 < cLine)
    (h0 : 1 ≤ d) (h1 : d ≤ 13) (h2 : 0 ≤ j) (h3 : j ≤ 19)
    (hret : ∀ (t : Tok) (h' : Heap) gs' d' (tk' : Nat) more, Fr h₀ L h' m → News h₀ L h' (pre ++ [(53, tabO (ps ++ more)), (67, tabO qs)]) → TriplesOk (ps ++ more).toList → AllBare gs' → Q (.int (crt d (1 + j)) t) { s with heap := h', toks := tk', gens := gs', drawn := d' }) :
    wpAny (model PySem.Challenge.rw_ah0021_01.row.prog w) (ktrTop dp un gd cn cs L a ccd cl outer) (call (.ref 58) [.int d tk, .str (tzName j) tk2]) Q E s := by
  revert X; k_fill; intro X
  refine wpAny_call ?_
  k_dflt (refine' code_defC ?k1 ?k2 ?k3 ?k4 ?k5 ?kA ?kF ?kK ?k6 ?k7 ?k8 ?k9 ?kB ?kD ?_ ?c2 ?c3 ?c4; (case kA => exact rfl); (case kF => exact rfl); (case kK => assumption); (case k1 => k_asm); (case k2 => k_asm); (case k3 => k_asm); (case k4 => k_asm); (case k5 => k_asm); (case k6 => k_is); (case k7 => k_is); (case k8 => k_room); (case k9 => exact BindsTo.of_eq rfl); (case kB => exact rfl); (case kD => decide +kernel); (case c2 => exact rfl); (case c3 => exact rfl); (case c4 => exact rfl); k_whole)
  intro g' L' h' tk' cells' FG' F' N' Y' B' X' T' l1
  k_lt l1
  k_cells Y'
  simp only [List.cons_append, List.nil_append] at N'
  try dsimp only
  try k_lift B'
  try k_fold
  k_steps
  rename News h₀ L _ (_ :: _) => kN
  rename TriplesOk _ => htr'
  rw [Array.append_assoc] at kN htr'
  exact hret _ _ _ _ _ _ (by assumption) (fun p hp => kN p (.tail _ (.tail _ (.tail _ (.tail _ hp))))) htr' (by assumption)
end
end Mine
end

section
open PySem PySem.W PyProof.Rows PySem.Calls
set_option maxRecDepth 100000
set_option maxHeartbeats 4000000
set_option linter.unusedVariables false
namespace Mine
inductive Spl : List (Addr × Obj) → List (Addr × Obj) → Array Value → Array Value → Prop
  | nil {ps qs} : Spl [(53, tabO ps), (67, tabO qs)] [] ps qs
  | app {pre ps qs} : Spl (pre ++ [(53, tabO ps), (67, tabO qs)]) pre ps qs
  | cons {p l pre ps qs} : Spl l pre ps qs → Spl (p :: l) (p :: pre) ps qs
theorem Spl.eq {l pre : List (Addr × Obj)} {ps qs : Array Value} (h : Spl l pre ps qs) : l = pre ++ [(53, tabO ps), (67, tabO qs)] := by
  induction h with
  | nil => rfl
  | app => rfl
  | cons _ ih => rw [ih]; rfl
theorem Off.nil : Off [] := fun _ h => by cases h
theorem Off.cons {D : Addr} {o : Obj} {pre : List (Addr × Obj)} (h1 : @LT.lt Nat _ 67 D) (h : Off pre) : Off ((D, o) :: pre) := fun p hp => by
  rcases List.mem_cons.mp hp with rfl | hp
  · constructor
    · show D ≠ 53
      exact Nat.ne_of_gt (Nat.lt_trans (by decide) h1)
    · show D ≠ 67
      exact Nat.ne_of_gt h1
  · exact h p hp
section
variable {w : World} {p : Program} {loose : List Str} {mean : ExcName → Option Value} {mg mb : Str → Option Value}
  {dp un : Nat} {gd : Option (List Code)} {cn : Str} {cs : Scope} {a : Addr} {ccd : Value} {cl : List (Str × Addr)} {outer : List Env} {A₀ : Around} {base h₀ : Heap} {L : Addr} {m : Str → Option Value} {pre news : List (Addr × Obj)} {s : Shared} {Q E : Value → Shared → Prop} {ps qs : Array Value}
theorem tzc_use {d j : Int} {tk tk2 : Tok} (S : Spl news pre ps qs) (N : News h₀ L s.heap news) (htr : TriplesOk ps.toList)
    (B : Below A₀ base outer h₀) (F : Fr h₀ L s.heap m) (X : (hd.heap_39 w.params).In h₀) (O : Off pre) (G : AllBare s.gens) (T : Top p loose mean mg mb h₀) (hk : cs.kind = .function) (hd : dp + 10 < recursionLimit) (hu : un + 40 < cLine)
    (h0 : 1 ≤ d) (h1 : d ≤ 13) (h2 : 0 ≤ j) (h3 : j ≤ 19)
    (hret : ∀ (t : Tok) (h' : Heap) gs' d' (tk' : Nat) more, Fr h₀ L h' m → News h₀ L h' (pre ++ [(53, tabO (ps ++ more)), (67, tabO qs)]) → TriplesOk (ps ++ more).toList → AllBare gs' → Q (.int (crt d (1 + j)) t) { s with heap := h', toks := tk', gens := gs', drawn := d' }) :
    wpAny (model PySem.Challenge.rw_ah0021_01.row.prog w) (ktrTop dp un gd cn cs L a ccd cl outer) (call (.ref 58) [.int d tk, .str (tzName j) tk2]) Q E s := by
  have e := S.eq
  subst e
  exact tzc_spec B F X N O htr G T hk hd hu h0 h1 h2 h3 hret
end
local macro_rules | `(tactic| k_room) => `(tactic| ((try simp only [depth_mark, depth_under_make, depth_under_kw, depth_in1, depth_deeper, depth_caller]); (try dsimp only [ktrTop]); omega))
local macro_rules | `(tactic| k_units) => `(tactic| (have hcL9 := cLine_is; (try simp only [units_in1, units_deeper, Around.mark_units, units_caller]); (try dsimp only [ktrTop]); omega))
local macro_rules | `(tactic| k_lt $h:ident) => `(tactic| (replace $h := allLt_of $h; simp only [AllLt_cons, AllLt_nil, allLt_app, and_true] at $h:ident))
local macro_rules | `(tactic| k_mem) => `(tactic| exact List.mem_append_left _ (by assumption))
local macro_rules | `(tactic| walk_at "call ref") => `(tactic| (k_here; (with_reducible show wpAny _ _ (call (Value.ref 44) [Value.int _ _]) _ _ _); k_dflt (refine' tz_spec ?k1 ?k2 ?k3 ?k4 ?k5 ?k6 ?k7 ?k8 ?k9 ?k10 ?_; (case k1 => k_asm); (case k2 => k_asm); (case k3 => k_asm); (case k4 => k_asm); (case k5 => k_asm); (case k6 => first | assumption | rfl); (case k7 => k_room); (case k8 => k_units); (case k9 => omega); (case k10 => omega)); intro D9 t9 u9 h9 tk9 F9 N9 l9; (try k_lt l9); (try dsimp only); (try k_sweep)))
local macro_rules | `(tactic| walk_at "call ref") => `(tactic| (k_here; (with_reducible show wpAny _ _ (call (Value.ref 58) [Value.int _ _, Value.str _ _]) _ _ _); k_dflt (refine' tzc_use ?S ?N ?tr ?k1 ?k2 ?k3 ?O ?G ?k5 ?k6 ?k7 ?k8 ?k9 ?k10 ?k11 ?k12 ?_; (case N => k_asm); (case S => repeat' (first | exact Spl.nil | exact Spl.app | apply Spl.cons)); (case tr => assumption); (case k1 => k_asm); (case k2 => k_asm); (case k3 => k_asm); (case O => repeat (first | assumption | exact Off.nil | refine Off.cons (by omega) ?_)); (case G => row_bare); (case k5 => k_asm); (case k6 => first | assumption | rfl); (case k7 => k_room); (case k8 => k_units); (case k9 => omega); (case k10 => omega); (case k11 => omega); (case k12 => omega)); intro t9 h9 gs9 d9 tk9 more9 F9 N9 tr9 G9; (simp only [List.cons_append, List.nil_append] at N9); (try dsimp only); (try k_sweep)))
section
variable {w : World} {p : Program} {loose : List Str} {mean : ExcName → Option Value} {mg mb : Str → Option Value}
  {dp un : Nat} {gd : Option (List Code)} {cn : Str} {cs : Scope} {a : Addr} {ccd : Value} {cl : List (Str × Addr)} {outer : List Env} {A₀ : Around} {base h₀ : Heap} {L : Addr} {m : Str → Option Value} {pre news : List (Addr × Obj)} {s : Shared} {Q E : Value → Shared → Prop} {ps qs : Array Value}
theorem ntz_spec {ta : Addr} {d j : Int} {t0 u0 : Tok} {jd : Int} {tk : Tok} (N : News h₀ L s.heap (pre ++ [(53, tabO ps), (67, tabO qs)])) (hm : (ta, tupIS d t0 (tzName j) u0) ∈ pre) (htr : TriplesOk ps.toList)
    (B : Below A₀ base outer h₀) (F : Fr h₀ L s.heap m) (X : (Mine.hd.heap_39 w.params).In h₀) (O : Off pre) (G : AllBare s.gens) (T : Top p loose mean mg mb h₀) (hk : cs.kind = .function) (hd : dp + 20 < recursionLimit) (hu : un + 60 < cLine)
    (h0 : 1 ≤ d) (h1 : d ≤ 13) (h2 : 0 ≤ j) (h3 : j ≤ 19) (h4 : 584283 ≤ jd) (h5 : jd ≤ 30000000000)
    (hret : ∀ (t : Tok) (h' : Heap) gs' d' (tk' : Nat) more, Fr h₀ L h' m → News h₀ L h' (pre ++ [(53, tabO (ps ++ more)), (67, tabO qs)]) → TriplesOk (ps ++ more).toList → AllBare gs' → Q (.int (jd + (crt d (1 + j) - crt ((jd - 584280) % 13 + 1) (1 + (jd - 584264) % 20)) % 260) t) { s with heap := h', toks := tk', gens := gs', drawn := d' }) :
    wpAny (model PySem.Challenge.rw_ah0021_01.row.prog w) (ktrTop dp un gd cn cs L a ccd cl outer) (call (.ref 65) [.ref ta, .int jd tk]) Q E s := by
  revert X; k_fill; intro X
  have hm' : (ta, tupIS d t0 (tzName j) u0) ∈ pre ++ [(53, tabO ps), (67, tabO qs)] := List.mem_append_left _ hm
  refine wpAny_call ?_
  k_dflt cell_enter
  k_steps
  rename News h₀ L _ (_ :: _) => kN
  rename TriplesOk _ => htr'
  rw [Array.append_assoc] at kN htr'
  rw [← Int.fmod_eq_emod_of_nonneg _ (show (0 : Int) ≤ 260 by decide)] at hret
  exact hret _ _ _ _ _ _ (by assumption) (fun p hp => kN p (.tail _ hp)) htr' (by assumption)
end
end Mine
end

section
open PySem PySem.W PyProof.Rows PySem.Calls
set_option maxRecDepth 100000
set_option maxHeartbeats 4000000
set_option linter.unusedVariables false
namespace Mine
/-- the day of a round of 18980 with both counts -/
def meet (td hd : Int) : Int := td + 260 * ((66 * ((hd - td) / 5)) % 73)
theorem meet_uniq {td hd : Int} (h0 : 0 ≤ td) (h1 : td < 260) (h2 : 0 ≤ hd) (h3 : hd < 365) (i j : Nat) (hi : i < 73) (hj : j < 52) (e : 0 + (i : Int) * 260 + td = 0 + (j : Int) * 365 + hd) : 0 + (i : Int) * 260 + td = meet td hd := by
  unfold meet; omega
theorem meet_in1 {td hd : Int} (h0 : 0 ≤ td) (h1 : td < 260) (h2 : 0 ≤ hd) (h3 : hd < 365) (h5 : (hd - td) % 5 = 0) : ∃ i : Nat, i < 73 ∧ 0 + (i : Int) * 260 + td = meet td hd := by
  exact ⟨((66 * ((hd - td) / 5)) % 73).toNat, by omega, by unfold meet; omega⟩
theorem meet_in2 {td hd : Int} (h0 : 0 ≤ td) (h1 : td < 260) (h2 : 0 ≤ hd) (h3 : hd < 365) (h5 : (hd - td) % 5 = 0) : ∃ i : Nat, i < 52 ∧ 0 + (i : Int) * 365 + hd = meet td hd := by
  obtain ⟨q, hq⟩ : ∃ q, hd - td = 5 * q := ⟨(hd - td) / 5, by omega⟩
  have e1 : (hd - td) / 5 = q := by omega
  obtain ⟨t, ht⟩ : ∃ t, 66 * q = 73 * t + (66 * q) % 73 := ⟨66 * q / 73, by omega⟩
  have e : meet td hd = 0 + (47 * q - 52 * t) * 365 + hd := by unfold meet; rw [e1]; omega
  have b1 : 0 ≤ meet td hd := by unfold meet; omega
  have b2 : meet td hd < 18980 := by unfold meet; omega
  refine ⟨(47 * q - 52 * t).toNat, ?_, ?_⟩ <;> omega
theorem meet_no {td hd : Int} (h5 : ¬ (hd - td) % 5 = 0) (i j : Nat) (e : 0 + (i : Int) * 260 + td = 0 + (j : Int) * 365 + hd) : False := by omega
section
variable {prog : Program} {w : World} {A : Around} {E : Value → Shared → Prop} {s : Shared} {h₀ : Heap} {L : Addr} {m : Str → Option Value} {news : List (Addr × Obj)}
theorem inter_hb {a b : Addr} {so₁ so₂ : Obj} {td hd : Int} {Q : Value → Shared → Prop} (F : Fr h₀ L s.heap m) (N : News h₀ L s.heap news) (hm1 : (a, so₁) ∈ news) (hm2 : (b, so₂) ∈ news)
    (h1 : SetR prog w so₁ 260 td 73) (h2 : SetR prog w so₂ 365 hd 52) (hab : @Ne Nat a b) (q0 : 0 ≤ td) (q1 : td < 260) (q2 : 0 ≤ hd) (q3 : hd < 365) (h5 : (hd - td) % 5 = 0)
    (h : ∀ D h' so, Fr h₀ L h' m → News h₀ L h' ((D, so) :: news) → (∀ p ∈ news, p.1 < D) → SetOne prog w so (meet td hd) → Q (.ref D) { s with heap := h' }) :
    wpAny (model prog w) A (call (.builtin "set.intersection") [.ref a, .ref b]) Q E s :=
  inter_oneD (meet td hd) F N hm1 hm2 h1 h2 hab (by decide) (by decide) (fun i j hi hj e => meet_uniq q0 q1 q2 q3 i j hi hj e) (meet_in1 q0 q1 q2 q3 h5) (meet_in2 q0 q1 q2 q3 h5) h
theorem inter_hbn {a b : Addr} {so₁ so₂ : Obj} {td hd : Int} {Q : Value → Shared → Prop} (F : Fr h₀ L s.heap m) (N : News h₀ L s.heap news) (hm1 : (a, so₁) ∈ news) (hm2 : (b, so₂) ∈ news)
    (h1 : SetR prog w so₁ 260 td 73) (h2 : SetR prog w so₂ 365 hd 52) (hab : @Ne Nat a b) (h5 : ¬ (hd - td) % 5 = 0)
    (h : ∀ D h' so, Fr h₀ L h' m → News h₀ L h' ((D, so) :: news) → (∀ p ∈ news, p.1 < D) → SetNil prog w so → Q (.ref D) { s with heap := h' }) :
    wpAny (model prog w) A (call (.builtin "set.intersection") [.ref a, .ref b]) Q E s :=
  inter_nilD F N hm1 hm2 h1 h2 hab (by decide) (by decide) (fun i j _ _ e => meet_no h5 i j e) h
theorem mod_emod {a b : Int} {t u : Tok} {Q : Value → Shared → Prop} (hb : 0 < b) (h : Q (.int (a % b) s.toks) { s with toks := s.toks + 1 }) : wpAny (model prog w) A (binaryOp .Mod (.int a t) (.int b u)) Q E s :=
  PyProof.Rows.mod_int (by omega) (by rw [Int.fmod_eq_emod_of_nonneg _ (by omega)]; exact h)
end
end Mine
end

section
open PySem PySem.W PyProof.Rows PySem.Calls
set_option maxRecDepth 100000
set_option maxHeartbeats 4000000
set_option linter.unusedVariables false
namespace Mine
local macro_rules | `(tactic| k_room) => `(tactic| ((try simp only [depth_mark, depth_under_make, depth_under_kw, depth_in1, depth_deeper, depth_caller]); (try dsimp only [ktrTop]); omega))
local macro_rules | `(tactic| k_units) => `(tactic| (have hcL9 := cLine_is; (try simp only [units_in1, units_deeper, Around.mark_units, units_caller]); (try dsimp only [ktrTop]); omega))
local macro_rules | `(tactic| k_lt $h:ident) => `(tactic| (replace $h := allLt_of $h; simp only [AllLt_cons, AllLt_nil, allLt_app, and_true] at $h:ident))
local macro_rules | `(tactic| k_updF) => `(tactic| first | exact updF_53 (by assumption) | exact updF_67 (by assumption))
local macro_rules | `(tactic| k_all) => `(tactic| exact ne_base (by assumption) (by omega))
local macro_rules | `(tactic| k_mem) => `(tactic| exact List.mem_append_left _ (by assumption))
local macro_rules | `(tactic| walk_at "eval GeneratorExp") => `(tactic| (k_here; (try k_fold); (with_reducible show wpAny _ _ (eval (Expr.GeneratorExp _ [⟨_, Expr.Call _ [_, _, Expr.Constant (Const.int 365) _ _] _ _, _, _⟩] _ _) _) _ _ _); k_dflt (refine' genexp_K (c := 71) (P := 67) (a := 0) (b := 18980) (c₁ := 365) (n := 52) ?T ?X ?F ?N ?hmem ?hoc ?_ ?hco ?q1 ?q2 ?q3 ?q4 ?q5 ?q6 ?q7 ?q8 ?q9 ?q10 ?q11 ?q12 ?q13 ?q14 ?q15 ?q16 ?q17 ?q18 ?q19; (case T => k_asm); (case X => k_asm); (case F => k_asm); (case N => k_asm); (case q7 => with_unfolding_all rfl); (case q12 => with_unfolding_all rfl); (case hmem => k_mem); (case hoc => first | assumption | rfl); (case hco => exact fun _ _ x y z => code71 x y z); (case q1 => decide +kernel); (case q2 => decide +kernel); (case q3 => rfl); (case q4 => rfl); (case q5 => rfl); (case q6 => rfl); (case q8 => decide); (case q9 => rfl); (case q10 => rfl); (case q11 => rfl); (case q13 => rfl); (case q14 => k_room); (case q15 => decide); (case q16 => decide); (case q17 => decide); (case q18 => exact fun _ => rfl); (case q19 => decide))))
local macro_rules | `(tactic| walk_at "eval GeneratorExp") => `(tactic| (k_here; (try k_fold); (with_reducible show wpAny _ _ (eval (Expr.GeneratorExp _ [⟨_, Expr.Call _ [_, _, Expr.Constant (Const.int 260) _ _] _ _, _, _⟩] _ _) _) _ _ _); k_dflt (refine' genexp_K (c := 71) (P := 67) (a := 0) (b := 18980) (c₁ := 260) (n := 73) ?T ?X ?F ?N ?hmem ?hoc ?_ ?hco ?q1 ?q2 ?q3 ?q4 ?q5 ?q6 ?q7 ?q8 ?q9 ?q10 ?q11 ?q12 ?q13 ?q14 ?q15 ?q16 ?q17 ?q18 ?q19; (case T => k_asm); (case X => k_asm); (case F => k_asm); (case N => k_asm); (case q7 => with_unfolding_all rfl); (case q12 => with_unfolding_all rfl); (case hmem => k_mem); (case hoc => first | assumption | rfl); (case hco => exact fun _ _ x y z => code71 x y z); (case q1 => decide +kernel); (case q2 => decide +kernel); (case q3 => rfl); (case q4 => rfl); (case q5 => rfl); (case q6 => rfl); (case q8 => decide); (case q9 => rfl); (case q10 => rfl); (case q11 => rfl); (case q13 => rfl); (case q14 => k_room); (case q15 => decide); (case q16 => decide); (case q17 => decide); (case q18 => exact fun _ => rfl); (case q19 => decide))))
local macro_rules | `(tactic| walk_at "exec Try") => `(tactic| (k_here; (with_reducible show wpAny _ _ (exec (Stmt.Try _ (_ :: _) _ [] _) _) _ _ _); refine wpAny_Try_except ?_))
local macro_rules | `(tactic| walk_at "GenSrcU") => `(tactic| (k_dflt (refine' genSrcU_intro ?k1 ?k2 ?k3 ?k4 ?k5 ?k6 ?k7 ?_; (case k1 => assumption); (case k2 => k_asm); (case k3 => k_asm); (case k4 => k_updF); (case k5 => row_bare); (case k6 => assumption); (case k7 => k_mem)); intro g9 lim9 h9 gs9 tk9 more9 F9 N9 htr9 G9 hl9 hL9 hlt9 X9; (try dsimp only at N9 hlt9); (try dsimp only); (try k_sweep)))
local macro_rules | `(tactic| walk_at "call type:set") => `(tactic| (k_here; k_dflt (refine' set_genR ?X ?F ?N ?G ?a ?b ?c ?d ?_; (case X => assumption); (case F => k_asm); (case N => k_asm); (case G => row_bare); (case a => assumption); (case b => assumption); (case c => assumption); (case d => decide)); intro D9 h9 tk9 gs9 so9 F9 N9 G9 l9 hs9; (try k_lt l9); (try dsimp only); (try k_sweep)))
local macro_rules | `(tactic| walk_at "getMethod ref") => `(tactic| (k_here; (with_reducible show wpAny _ _ (getMethod (Value.ref _) (Str.ofString "intersection") _) _ _ _); k_dflt (refine' set_meth PySem.F.slot_set_intersection PySem.F.type_set_intersection ?N ?m ?c ?_; (case N => k_asm); (case m => k_mem); (case c => exact SetR.cls (by assumption)))))
local macro_rules | `(tactic| walk_at "getMethod ref") => `(tactic| (k_here; (with_reducible show wpAny _ _ (getMethod (Value.ref _) (Str.ofString "pop") _) _ _ _); k_dflt (refine' set_meth PySem.F.slot_set_pop PySem.F.type_set_pop ?N ?m ?c ?_; (case N => k_asm); (case m => k_mem); (case c => first | exact SetOne.cls (by assumption) | exact SetNil.cls (by assumption)))))
local macro_rules | `(tactic| walk_at "binaryOp Mod int int") => `(tactic| (k_here; k_dflt (refine' mod_emod ?a ?_; (case a => omega))))
local macro_rules | `(tactic| walk_at "call ref") => `(tactic| (k_here; (with_reducible show wpAny _ _ (call (Value.ref 44) [Value.int _ _]) _ _ _); k_dflt (refine' tz_spec ?k1 ?k2 ?k3 ?k4 ?k5 ?k6 ?k7 ?k8 ?k9 ?k10 ?_; (case k1 => k_asm); (case k2 => k_asm); (case k3 => k_asm); (case k4 => k_asm); (case k5 => k_asm); (case k6 => first | assumption | rfl); (case k7 => k_room); (case k8 => k_units); (case k9 => omega); (case k10 => omega)); intro D9 t9 u9 h9 tk9 F9 N9 l9; (try k_lt l9); (try dsimp only); (try k_sweep)))
local macro_rules | `(tactic| walk_at "call ref") => `(tactic| (k_here; (with_reducible show wpAny _ _ (call (Value.ref 37) [Value.int _ _]) _ _ _); k_dflt (refine' haab_spec ?k1 ?k2 ?k3 ?k4 ?k5 ?k6 ?k7 ?k8 ?k9 ?k10 ?_; (case k1 => k_asm); (case k2 => k_asm); (case k3 => k_asm); (case k4 => k_asm); (case k5 => k_asm); (case k6 => first | assumption | rfl); (case k7 => k_room); (case k8 => k_units); (case k9 => omega); (case k10 => omega)); intro D9 t9 u9 h9 tk9 F9 N9 l9; (try k_lt l9); (try dsimp only); (try k_sweep)))
local macro_rules | `(tactic| walk_at "call ref") => `(tactic| (k_here; (with_reducible show wpAny _ _ (call (Value.ref 51) [Value.int _ _, Value.str _ _]) _ _ _); k_dflt (refine' hcount_spec ?k1 ?k2 ?k3 ?k4 ?k5 ?k6 ?k7 ?k8 ?k9 ?k10 ?k11 ?k12 ?_; (case k1 => k_asm); (case k2 => k_asm); (case k3 => k_asm); (case k4 => k_asm); (case k5 => k_asm); (case k6 => first | assumption | rfl); (case k7 => k_room); (case k8 => k_units); (case k9 => omega); (case k10 => omega); (case k11 => omega); (case k12 => omega)); intro t9 h9 tk9 F9 N9; (try dsimp only); (try k_sweep)))
local macro_rules | `(tactic| walk_at "call ref") => `(tactic| (k_here; (with_reducible show wpAny _ _ (call (Value.ref 58) [Value.int _ _, Value.str _ _]) _ _ _); k_dflt (refine' tzc_use ?S ?N ?tr ?k1 ?k2 ?k3 ?O ?G ?k5 ?k6 ?k7 ?k8 ?k9 ?k10 ?k11 ?k12 ?_; (case N => k_asm); (case S => repeat' (first | exact Spl.nil | exact Spl.app | apply Spl.cons)); (case tr => assumption); (case k1 => k_asm); (case k2 => k_asm); (case k3 => k_asm); (case O => repeat (first | assumption | exact Off.nil | refine Off.cons (by omega) ?_)); (case G => row_bare); (case k5 => k_asm); (case k6 => first | assumption | rfl); (case k7 => k_room); (case k8 => k_units); (case k9 => omega); (case k10 => omega); (case k11 => omega); (case k12 => omega)); intro t9 h9 gs9 d9 tk9 more9 F9 N9 tr9 G9; (simp only [List.cons_append, List.nil_append] at N9); (try dsimp only); (try k_sweep)))
local macro_rules | `(tactic| walk_at "call builtin:set.intersection") => `(tactic| (k_here; k_dflt (refine' inter_hb ?F ?N ?m1 ?m2 ?s1 ?s2 ?ne ?a ?b ?c ?d ?e ?_; (case F => k_asm); (case N => k_asm); (case m1 => k_mem); (case m2 => k_mem); (case s1 => assumption); (case s2 => assumption); (case ne => k_ne); (case a => omega); (case b => omega); (case c => omega); (case d => omega); (case e => omega)); intro D9 h9 so9 F9 N9 l9 hs9; (have l9k := l9); (try k_lt l9); (try dsimp only); (try k_sweep)))
local macro_rules | `(tactic| walk_at "call builtin:set.pop") => `(tactic| (k_here; k_dflt (refine' pop_oneD ?F ?N ?l ?s ?_; (case F => k_asm); (case N => k_asm); (case l => assumption); (case s => assumption)); intro h9 t9 d9 F9 N9; (try dsimp only); (try k_sweep)))
section
variable {w : World} {p : Program} {loose : List Str} {mean : ExcName → Option Value} {mg mb : Str → Option Value}
  {dp un : Nat} {gd : Option (List Code)} {cn : Str} {cs : Scope} {a : Addr} {ccd : Value} {cl : List (Str × Addr)} {outer : List Env} {A₀ : Around} {base h₀ : Heap} {L : Addr} {m : Str → Option Value} {pre news : List (Addr × Obj)} {s : Shared} {Q E : Value → Shared → Prop} {ps qs : Array Value}
theorem met_one {ta ha : Addr} {d j c i td hd' : Int} {t0 u0 t1 u1 : Tok} {jd : Int} {tk : Tok} (N : News h₀ L s.heap (pre ++ [(53, tabO ps), (67, tabO qs)])) (hm : (ta, tupIS d t0 (tzName j) u0) ∈ pre) (hm2 : (ha, tupIS c t1 (haabName i) u1) ∈ pre) (htr : TriplesOk ps.toList) (htr2 : TriplesOk qs.toList)
    (B : Below A₀ base outer h₀) (F : Fr h₀ L s.heap m) (X : (Mine.hd.heap_39 w.params).In h₀) (O : Off pre) (G : AllBare s.gens) (T : Top p loose mean mg mb h₀) (hk : cs.kind = .function) (hd : dp + 30 < recursionLimit) (hu : un + 80 < cLine)
    (h0 : 1 ≤ d) (h1 : d ≤ 13) (h2 : 0 ≤ j) (h3 : j ≤ 19) (h4 : 584283 ≤ jd) (h5 : jd ≤ 30000000000) (h6 : 0 ≤ c) (h7 : c ≤ 19) (h8 : 0 ≤ i) (h9 : i ≤ 18)
    (htd : td = (crt d (1 + j) - crt ((jd - 584280) % 13 + 1) (1 + (jd - 584264) % 20)) % 260) (hhd : hd' = (i * 20 + c - (jd - 583935) % 365) % 365) (hcond : (hd' - td) % 5 = 0)
    (hret : ∀ (t : Tok) (h' : Heap) gs' d' (tk' : Nat) more more', Fr h₀ L h' m → News h₀ L h' (pre ++ [(53, tabO (ps ++ more)), (67, tabO (qs ++ more'))]) → TriplesOk (ps ++ more).toList → TriplesOk (qs ++ more').toList → AllBare gs' → Q (.int (meet td hd' + jd) t) { s with heap := h', toks := tk', gens := gs', drawn := d' }) :
    wpAny (model PySem.Challenge.rw_ah0021_01.row.prog w) (ktrTop dp un gd cn cs L a ccd cl outer) (call (.ref 86) [.ref ta, .ref ha, .int jd tk]) Q E s := by
  revert X; k_fill; intro X
  refine wpAny_call ?_
  k_dflt cell_enter
  k_steps
  rename News h₀ L _ (_ :: _) => kN
  rename Fr h₀ L _ _ => kF
  simp only [Array.append_assoc] at kN
  have e2 : (i * 20 + c - ((jd - 583935) % 365 / 20 * 20 + (jd - 583935) % 365 % 20)) % 365 = hd' := by rw [hhd]; congr 1; omega
  rw [← htd, e2]
  refine hret _ _ _ _ _ _ _ kF (fun p hp => kN p (.tail _ (.tail _ (.tail _ (.tail _ (.tail _ (.tail _ hp))))))) ?_ ?_ (by assumption)
  · rw [← Array.append_assoc]; assumption
  · rw [← Array.append_assoc]; assumption
end
end Mine
end

section
open PySem PySem.W PyProof.Rows PySem.Calls
set_option maxRecDepth 100000
set_option maxHeartbeats 2000000
set_option linter.unusedVariables false
namespace Mine
/-- the entry of proto.unchain -/
theorem entry_unchain : entryFor table "proto.unchain" = some Builtin.«proto.unchain» := entryFor_of_tree (by kernel_rfl)
section
variable {prog : Program} {w : World} {A : Around} {E : Value → Shared → Prop} {s : Shared} {env : Env}
/-- an exception with a context -/
abbrev excAt (cls : String) (t : Addr) (c : Value) : Obj := { cls := .type cls, data := .fields #[.ref t, .none, c, .none, .bool false, .none] }
theorem raiseNew_in {α : Type} {e e0 : Addr} {cls : String} {t : Addr} {o0 : Obj} {ws : Array Value} {Q : α → Shared → Prop} (hh : A.handled = some (.ref e0)) (hne : e0 ≠ e)
    (he : s.heap.get? e = some (excAt cls t .none)) (h0 : s.heap.get? e0 = some o0) (hd : o0.data = .fields ws) (h2 : ws[2]? = some .none)
    (hE : E (.ref e) { s with heap := s.heap.update e (Obj.mapFields (·.setIfInBounds 2 (.ref e0))) }) : wpAny (model prog w) A (raiseNew (.ref e) : Sem α) Q E s := by
  unfold raiseNew
  refine wpAny_bind (wpAny_handled ?_)
  rw [hh]
  dsimp only
  rw [if_pos (by simp [hne])]
  have step : wpAny (model prog w) A (runValue (.builtin "proto.unchain" ⟨[.ref e, .ref e0, .ref e0, .bool false], []⟩)) (fun v s' => v = .none ∧ s' = s) E s := by
    refine wpAny_runValue (codeAny_builtin entry_unchain ?_)
    unfold Builtin.«proto.unchain»
    dsimp only
    refine wpAny_bind (wpAny_field h0 hd h2 ?_)
    rw [if_pos (by decide)]
    exact wpAny_pure ⟨rfl, rfl⟩
  have up : wpAny (model prog w) A (updateField e 2 (.ref e0)) (fun _ s' => E (.ref e) s') E s := by
    unfold updateField
    refine wpAny_bind (wpAny_load he ?_)
    dsimp only
    rw [if_pos (by simp)]
    exact wpAny_update he hE
  first
    | exact wpAny_bind (wpAny_bind (wpAny_mono (wpAny_holding step) (fun v s' q => by obtain ⟨_, rfl⟩ := q; exact wpAny_mono up (fun _ s' q => wpAny_throw q) fun _ _ x => x) fun _ _ x => x))
    | exact wpAny_bind (wpAny_mono (wpAny_holding step) (fun v s' q => by obtain ⟨_, rfl⟩ := q; exact wpAny_bind (wpAny_mono up (fun _ s' q => wpAny_throw q) fun _ _ x => x)) fun _ _ x => x)
theorem raiseStmt_in {cls : String} (F : ExcRaiseFacts cls) {x : Sem Value} {e0 : Addr} {Q : Flow → Shared → Prop} (hh : A.handled = some (.ref e0))
    (h : wpAny (model prog w) A x (fun v s₁ => ∃ e t o0 ws, v = .ref e ∧ e0 ≠ e ∧ s₁.heap.get? e = some (excAt cls t .none) ∧ s₁.heap.get? e0 = some o0 ∧ o0.data = .fields ws ∧ ws[2]? = some .none ∧
      E (.ref e) { s₁ with heap := s₁.heap.update e (Obj.mapFields (·.setIfInBounds 2 (.ref e0))) }) E s) :
    wpAny (model prog w) A (raiseStmt env (some x) none) Q E s := by
  unfold raiseStmt
  refine wpAny_bind (wpAny_mono h (fun v s₁ h₁ => ?_) fun _ _ x => x)
  obtain ⟨e, t, o0, ws, rfl, hne, he, h0, hd, h2, hE⟩ := h₁
  obtain ⟨hp, g, d, tk, os⟩ := s₁
  have hsub := F.isExc
  have hmeta := F.plainMeta
  repeat (first | refine wpAny_loadPart he ?_ | wp_step)
  exact raiseNew_in hh hne he h0 hd h2 hE
theorem Raise_in {cls newId initId : String} (FC : ExcCallFacts cls newId initId) (FR : ExcRaiseFacts cls) {x msg : Str} {np cpos pos ep : Pos} {k : Nat} {e0 : Addr} {Q : Flow → Shared → Prop} {o0 : Obj} {ws : Array Value}
    (hh : A.handled = some (.ref e0)) (h0 : s.heap.get? e0 = some o0) (hd : o0.data = .fields ws) (h2 : ws[2]? = some .none)
    (hn : ∀ {Q : Value → Shared → Prop}, Q (.type cls) s → wpAny (model prog w) A (eval (.Name x np) env) Q E s)
    (h : ∀ h' e t tk, Heap.MadeExc s.heap h' e cls [.str msg s.toks] → h'.get? e = some (excAt cls t .none) → E (.ref e) { s with heap := h'.update e (Obj.mapFields (·.setIfInBounds 2 (.ref e0))), toks := tk }) :
    wpAny (model prog w) A (exec (.Raise (some (.Call (.Name x np) [.Constant (.str msg) k ep] [] cpos)) none pos) env) Q E s := by
  rw [arm_exec_Raise]
  have key : wpAny (model prog w) A (eval (.Call (.Name x np) [.Constant (.str msg) k ep] [] cpos) env) (fun v s₁ => ∃ e t o0 ws, v = .ref e ∧ e0 ≠ e ∧ s₁.heap.get? e = some (excAt cls t .none) ∧ s₁.heap.get? e0 = some o0 ∧ o0.data = .fields ws ∧ ws[2]? = some .none ∧
      E (.ref e) { s₁ with heap := s₁.heap.update e (Obj.mapFields (·.setIfInBounds 2 (.ref e0))) }) E s := by
    refine wpAny_Call_ofName (hn ?_)
    have he : starEach [Expr.Constant (.str msg) k ep] env = (false, eval (Expr.Constant (.str msg) k ep) env) :: starEach [] env := by rfl
    refine callWith_excType (by rw [he]; rfl) ?_
    rw [he]
    refine Calls.evalArgs_plain ?_
    refine spliced_cons ?_
    refine Constant_str (x := msg) (k := k) (pos := ep) (env := env) ?_
    refine spliced_nil ?_
    obtain ⟨hp, g, d, tk, os⟩ := s
    refine wpAny_call_exc FC fun h' e hm => ?_
    obtain ⟨t, ht, _, _⟩ := hm.there
    refine ⟨e, t, o0, ws, rfl, fun q => ?_, ht, hm.keeps _ _ h0, hd, h2, h h' e t _ hm ht⟩
    have := hm.new; rw [← q, h0] at this; cases this
  first
    | exact wpAny_bind (wpAny_standAt (raiseStmt_in FR hh (wpAny_bind (wpAny_mono key (fun v s₁ h₁ => wpAny_bind (wpAny_standAt (wpAny_pure h₁))) fun _ _ x => x))))
    | (simp only [evalOpt, Option.map]; exact wpAny_bind (wpAny_standAt (raiseStmt_in FR hh (wpAny_bind (wpAny_mono key (fun v s₁ h₁ => wpAny_bind (wpAny_standAt (wpAny_pure h₁))) fun _ _ x => x)))))
    | (show wpAny (model prog w) A (do standAt pos; raiseStmt env (some (do let v ← eval (.Call (.Name x np) [.Constant (.str msg) k ep] [] cpos) env; standAt pos; pure v)) none) Q E s; exact wpAny_bind (wpAny_standAt (raiseStmt_in FR hh (wpAny_bind (wpAny_mono key (fun v s₁ h₁ => wpAny_bind (wpAny_standAt (wpAny_pure h₁))) fun _ _ x => x)))))
theorem nameB_env {K : Frag} {h₀ : Heap} {L : Addr} {m mg mb : Str → Option Value} {p : Program} {loose : List Str}
    {x : Str} {pos : Pos} {v : Value} {Q : Value → Shared → Prop} (F : Fr h₀ L s.heap m) (X : K.In h₀) (T : TopRead p loose mg mb h₀) (e : nsIn K mainGlobals x = some none) (hv : bootBuiltins x = some v) (hn : x ≠ "__name__")
    (hk : env.scope.kind = .function) (hx : env.kindOf x = some .globalImplicit) (hg : env.globals = mainGlobals) (hb : env.builtins = builtinsNs) (hd : (x == ("__debug__" : Str)) = false) (h : Q v s) :
    wpAny (model prog w) A (eval (.Name x pos) env) Q E s :=
  Calls.Name_function_global hk hx (Calls.loadGlobal_builtin (env := env) (by rw [hg]; exact T.g.keeps F.keep) (mg_none_of X T.g e) (by rw [hb]; exact T.b.keeps F.keep) ((T.builtins x hn).trans hv) h) hd
/-- the object of an exception behind a note: only its traceback has changed -/
def NotedObj (e : Addr) (oe : Obj) (h : Heap) : Prop := ∃ b, h.get? e = some (Obj.mapFields (·.setIfInBounds 1 b) oe)
theorem flight_any {base : Heap} {l : List Env} {e : Addr} {cls a0 fl : Value} {Q : Unit → Shared → Prop} (x : Option Addr) (hkb : base.StaysIn s.heap) (hl : s.heap.FunFrames base l) (ht : s.heap.TracedAtW base e cls a0 fl)
    (h : ∀ h', base.StaysIn h' → h'.FunFrames base l → h'.TracedAtW base e cls a0 (x.elim .none fun f => rawInt f) → s.heap.UpToSlots h' → h'.get? e = s.heap.get? e → Q () { s with heap := h' }) : wpAny (model prog w) A (setFlight (.ref e) x) Q E s := by
  obtain ⟨oe, vs, T, oT, ts, he, hc, hd, h1, nT, Te, hT, dT, h3⟩ := ht
  have sz : 3 < ts.size := (Array.getElem?_eq_some_iff.mp h3).1
  have keep : ∀ b, b ≠ T → (s.heap.update T (Obj.mapFields (·.setIfInBounds 3 (x.elim .none fun f => rawInt f)))).get? b = s.heap.get? b := fun b hb => Heap.get?_update_other _ _ (Ne.symm hb)
  have plain : ∀ b o, s.heap.get? b = some o → (∀ vs, o.data ≠ .fields vs) → b ≠ T := fun b o hb hn q => by
    rw [q, hT] at hb; exact hn ts (by rw [← Option.some.inj hb]; exact dT)
  unfold setFlight
  refine wpAny_bind (wpAny_field he hd h1 ?_)
  rw [if_pos (show (Value.ref T != Value.none) = true from by simp)]
  refine wpAny_setField hT dT sz (h _ (fun b o q => (keep b fun z => by rw [z, nT] at q; cases q).trans (hkb b o q)) (hl.of_keeps fun b o q hn => ⟨o, (keep b (plain b o q hn)).trans q, rfl⟩) ?_
    (fun b o q hn => ⟨o.slots, (keep b (plain b o q hn)).trans q⟩) (keep e (Ne.symm Te)))
  exact ⟨oe, vs, T, _, _, (keep e (Ne.symm Te)).trans he, hc, hd, h1, nT, Te, Heap.get?_update_self _ hT (Obj.isFreed_of_fields (Obj.data_mapFields dT _)), Obj.data_mapFields dT _, by simp [sz]⟩
theorem cameBack_held {base : Heap} {l : List Env} {e L : Addr} {cls a0 : Value} (hf : env.frame = some L) (R : Heap.HeldW base l e cls a0 L s.heap)
    (h : ∀ h', Heap.HeldW base l e cls a0 L h' → s.heap.UpToSlots h' → E (.ref e) { s with heap := h' }) : cameBackBy (model prog w) A env E (.ref e) s := by
  obtain ⟨k1, k2, k3, k4⟩ := R
  obtain ⟨oe, ws, T, oT, ts, he, hc, hd, h1, _⟩ := id k4
  unfold cameBackBy
  refine wpAny_bind (wpAny_field he hd h1 ?_)
  rw [if_neg (show ¬ ((Value.ref T == Value.none) = true) from by simp), hf]
  first
    | exact flight_any (some L) k1 k3 k4 fun h' x1 x2 x3 x4 _ => h h' ⟨x1, k2, x2, x3⟩ x4
    | exact wpAny_bind (wpAny_pure (flight_any (some L) k1 k3 k4 fun h' x1 x2 x3 x4 _ => h h' ⟨x1, k2, x2, x3⟩ x4))
theorem looks_first {base : Heap} {outer : List Env} {L e : Addr} {oe : Obj} {vs : Array Value} {a0 : Value} {Q : Unit → Shared → Prop}
    (hfr : A.frames = some (env :: outer)) (hl : s.heap.FunFrames base (env :: outer)) (hf : env.frame = some L)
    (he : s.heap.get? e = some oe) (hkb : base.StaysIn s.heap) (hen : base.get? e = none) (hd : oe.data = .fields vs) (h1 : vs[1]? = some .none) (h0 : vs[0]? = some a0)
    (h : ∀ h', Heap.HeldW base (env :: outer) e oe.cls a0 L h' → s.heap.UpToSlots h' → NotedObj e oe h' → Q () { s with heap := h' }) : wpAny (model prog w) A (noteFrame (.ref e) env) Q E s := by
  have sz : 1 < vs.size := (Array.getElem?_eq_some_iff.mp h1).1
  have out : e ∉ (env :: outer).filterMap (·.frame) := fun hm => by
    obtain ⟨_, o, ho, hn⟩ := hl.mem hm
    rw [he] at ho; exact hn vs (by rw [← Option.some.inj ho]; exact hd)
  unfold noteFrame
  simp only [hf]
  refine wpAny_bind (wpAny_field he hd h1 ?_)
  rw [if_neg (by decide)]
  refine wpAny_bind (wpAny_frameOf_fun hfr hl hf fun g hg => ?_)
  refine wpAny_bind (wpAny_entryPlaceOf fun pl hpl => ?_)
  unfold EntryCells.newEntry newFields
  refine wpAny_bind (wpAny_newObj_type ?_ (hpl.sizeOk5 _ _ _ _ _))
  have e1 : g.get? e = some oe := (hg.2.1 e out).trans he
  have kb : base.StaysIn g := fun b o q => (hg.2.1 b fun hm => by rw [(hl.mem hm).1] at q; cases q).trans (hkb b o q)
  have e2 := fun x => Heap.get?_push_of_some (h := g) x e1
  refine wpAny_setField (e2 _) hd sz (h _ ?_ ?_ ?_)
  all_goals
    have ne : g.objs.size ≠ e := Nat.ne_of_gt (Heap.lt_size e1)
    have d3 := Obj.data_mapFields hd (·.setIfInBounds 1 (Value.ref g.objs.size))
    have e3 := Heap.get?_update_self (Obj.mapFields (·.setIfInBounds 1 (Value.ref g.objs.size))) (e2 { cls := .type "traceback", dict := none, data := .fields ([Value.none, .ref L, .none, rawInt L, .none] ++ (if pl.isEmpty then List.replicate 6 Value.none else pl)).toArray }) (Obj.isFreed_of_fields d3)
    have keep : ∀ b o, b ≠ e → g.get? b = some o → ((g.push { cls := .type "traceback", dict := none, data := .fields ([Value.none, .ref L, .none, rawInt L, .none] ++ (if pl.isEmpty then List.replicate 6 Value.none else pl)).toArray }).update e (Obj.mapFields (·.setIfInBounds 1 (Value.ref g.objs.size)))).get? b = some o :=
      fun b o n q => by
        rw [Heap.get?_update_other _ _ (Ne.symm n)]
        exact Heap.get?_push_of_some _ q
    have plain : ∀ b o, s.heap.get? b = some o → (∀ vs, o.data ≠ .fields vs) → b ≠ e := fun b o q hn z => by
      rw [z, he] at q; exact hn vs (by rw [← Option.some.inj q]; exact hd)
  · refine ⟨fun b o q => keep b o (fun z => by rw [z, hen] at q; cases q) (kb b o q), hen, hl.of_keeps fun b o q hn => ?_, ?_⟩
    · obtain ⟨sl, hs⟩ := hg.2.2 b o q
      exact ⟨_, keep b _ (plain b o q hn) hs, rfl⟩
    · exact ⟨_, _, g.objs.size, _, _, e3, ⟨Obj.cls_mapFields _ _, by rw [Array.getElem?_setIfInBounds_ne (by decide)]; exact h0⟩, d3, by simp [sz], kb.fresh, ne, (Heap.get?_update_other _ _ (Ne.symm ne)).trans (Heap.get?_push_size g rfl), rfl, by first | (simp; done) | (rcases hpl with rfl | ⟨_, _, _, _, _, _, _, rfl⟩ <;> simp)⟩
  · intro b o q hn
    obtain ⟨sl, hs⟩ := hg.2.2 b o q
    exact ⟨sl, keep b _ (plain b o q hn) hs⟩
  · exact ⟨_, e3⟩
end
/-- an exception on its way out of a frame whose ground is g -/
def HeldC (base g : Heap) (env : Env) (outer : List Env) (L e : Addr) (cls : Value) (news : List (Addr × Obj)) (h : Heap) : Prop :=
  g.UpToSlots h ∧ ∃ B a0, base.StaysIn B ∧ (∀ b o, g.get? b = some o → b ∉ outer.filterMap (·.frame) → B.get? b = some o) ∧ (∀ q ∈ news, B.get? q.1 = some q.2 ∧ g.get? q.1 = none ∧ base.get? q.1 = none) ∧ Heap.HeldW B (env :: outer) e cls a0 L h
theorem leave_heldC {M : Model} {A : Around} {E : Value → Shared → Prop} {s : Shared} {base g : Heap} {env : Env} {outer : List Env} {L e : Addr} {cls : Value} {news : List (Addr × Obj)} {Q : Unit → Shared → Prop}
    (R : HeldC base g env outer L e cls news s.heap) (hf : env.frame = some L)
    (hQ : ∀ h', RaisedSN base g outer e cls news h' → g.UpToSlots h' → Q () { s with heap := h' }) : wpAny M A (leaving env (.ref e)) Q E s := by
  obtain ⟨hsm, B, a0, hB, hBG, hl, hh⟩ := R
  unfold leaving
  refine wpAny_bind (wpAny_noteFrame_againW hf hh.2.2.2 ?_)
  refine wpAny_landsW hh fun h' hfl hs => ?_
  obtain ⟨k1, k2, ⟨_, _, k3⟩, k4⟩ := hfl
  exact hQ h' ⟨B, a0, hB, hBG, hl, k1, k2, k3, k4⟩ (hsm.trans hs)
end Mine
end

section
open PySem PySem.W PyProof.Rows PySem.Calls
set_option maxRecDepth 100000
set_option maxHeartbeats 2000000
set_option linter.unusedVariables false
namespace Mine
/-- the heap with the frames of the stack put out of sight, as a ground for an exception's way -/
theorem hide_frames {A₀ : Around} {base g h : Heap} {outer : List Env} {L a : Addr} {m : Str → Option Value} {name : Str} {scope : Scope} {cd : Value} {cl : List (Str × Addr)} {news : List (Addr × Obj)}
    (K : Below A₀ base outer g) (F : Fr g L h m) (N : News g L h news) (hk : scope.kind = .function) :
    ∃ B : Heap, base.StaysIn B ∧ (∀ b o, h.get? b = some o → b ∉ L :: outer.filterMap (·.frame) → B.get? b = some o) ∧ (∀ b o, g.get? b = some o → b ∉ outer.filterMap (·.frame) → B.get? b = some o) ∧
      (∀ q ∈ news, B.get? q.1 = some q.2 ∧ g.get? q.1 = none ∧ base.get? q.1 = none) ∧ (∀ b o, B.get? b = some o → h.get? b = some o) ∧ h.FunFrames B (envX name scope L a cd cl :: outer) := by
  have P := K.push (name := name) (a := a) (cd := cd) F hk
  have isFrame : ∀ b, b ∈ L :: outer.filterMap (·.frame) → base.get? b = none ∧ (b = L ∨ ∃ o, g.get? b = some o) := fun b hb => by
    refine ⟨(P.frames.mem hb).1, ?_⟩
    cases hb with
    | head => exact .inl rfl
    | tail _ q => exact .inr ((K.frames.mem q).2.imp fun _ z => z.1)
  have L0 : g.get? L = none := kts_self F
  refine ⟨hideAll h (L :: outer.filterMap (·.frame)), fun b o q => hideAll_get _ (P.stays b o q) fun hb => ?_, fun b o q nb => hideAll_get _ q nb, fun b o q nb => hideAll_get _ (F.keep b o q) fun hb => ?_, fun q hq => ?_, fun b o q => of_hideAll _ q, ?_⟩
  · rw [(isFrame b hb).1] at q; cases q
  · cases hb with
    | head => rw [L0] at q; cases q
    | tail _ z => exact nb z
  · have n := N q hq
    refine ⟨hideAll_get _ n.1 fun hb => ?_, n.2.2, fresh_of_stays K.stays n.2.2⟩
    rcases (isFrame _ hb).2 with z | ⟨o, z⟩
    · exact n.2.1 z
    · rw [n.2.2] at z; cases z
  · exact funFrames_hide (l := envX name scope L a cd cl :: outer) P.frames fun env he b hb => by
      cases he with
      | head => rw [← (Option.some.inj hb : L = b)]; exact .head _
      | tail _ q => exact .tail _ (List.mem_filterMap.mpr ⟨env, q, hb⟩)
section
variable {prog : Program} {w : World} {A₀ : Around} {E : Value → Shared → Prop} {s : Shared} {base g h : Heap} {outer : List Env} {L a e : Addr} {m : Str → Option Value} {name : Str} {scope : Scope} {cd : Value} {cl : List (Str × Addr)}
  {news : List (Addr × Obj)} {KF : Frag} {p : Program} {loose : List Str} {mean : ExcName → Option Value} {mg mb : Str → Option Value} {Q : Flow → Shared → Prop} {x1 x2 msg : Str} {np np2 ep cpos rpos pos : Pos} {k : Nat}
/-- `except KeyError: raise IndexError(text)` in a frame with cells -/
theorem catch_cells (K : Below A₀ base outer g) (F : Fr g L h m) (N : News g L h news) (hx : Heap.NewExc h s.heap e "KeyError") (XB : KF.In base) (TB : Top p loose mean mg mb base)
    (hk : scope.kind = .function) (hk1 : (envX name scope L a cd cl).kindOf x1 = some .globalImplicit) (hk2 : (envX name scope L a cd cl).kindOf x2 = some .globalImplicit)
    (ex1 : nsIn KF mainGlobals x1 = some none) (ex2 : nsIn KF mainGlobals x2 = some none) (b1 : bootBuiltins x1 = some (.type "KeyError")) (b2 : bootBuiltins x2 = some (.type "IndexError"))
    (n1 : x1 ≠ "__name__") (n2 : x2 ≠ "__name__") (d1 : (x1 == ("__debug__" : Str)) = false) (d2 : (x2 == ("__debug__" : Str)) = false)
    (hE : ∀ h' tk e2, HeldC base g (envX name scope L a cd cl) outer L e2 (.type "IndexError") news h' → E (.ref e2) { s with heap := h', toks := tk }) :
    wpAny (model prog w) (A₀.deeper (envX name scope L a cd cl)) (noteFrame (.ref e) (envX name scope L a cd cl)) (fun _ s₂ => wpAny (model prog w) (A₀.deeper (envX name scope L a cd cl)) (setFlight (.ref e) none)
      (fun _ s₃ => wpAny (model prog w) (A₀.deeper (envX name scope L a cd cl)) (handleBy (.ref e) (envX name scope L a cd cl)
        [.ExceptHandler (some (.Name x1 np)) none [.Raise (some (.Call (.Name x2 np2) [.Constant (.str msg) k ep] [] cpos)) none rpos] pos]) Q E s₃) E s₂) E s := by
  obtain ⟨B, st, sh, sg, hl, hBo, hff0⟩ := hide_frames (name := name) (a := a) (cd := cd) (cl := cl) K F N hk
  obtain ⟨ob, tp, he, hcls, hd⟩ := hx.there
  have hen : B.get? e = none := by
    cases q : B.get? e with
    | none => rfl
    | some o => exact absurd ((hBo _ _ q).symm.trans hx.new) (by simp)
  have hfr : (A₀.deeper (envX name scope L a cd cl)).frames = some (envX name scope L a cd cl :: outer) := Around.frames_deeper K.stack
  have hff : s.heap.FunFrames B (envX name scope L a cd cl :: outer) := hff0.of_keeps fun b o hb _ => ⟨o, hx.keeps b o hb, rfl⟩
  refine looks_first (a0 := tp) hfr hff rfl he (fun b o hb => hx.keeps b o (hBo b o hb)) hen hd rfl rfl fun h₄ hheld₄ hsm₄ hob₄ => ?_
  refine flight_any none hheld₄.1 hheld₄.2.2.1 hheld₄.2.2.2 fun h₅ k1 k2 k3 hsm₅' ke => ?_
  have hfl₅ : Heap.FlyingW B (envX name scope L a cd cl :: outer) e ob.cls tp h₅ := ⟨k1, hen, k2, k3⟩
  have hsm₅ : h.UpToSlots h₅ := (Heap.UpToSlots.of_keeps hx.keeps).trans (hsm₄.trans hsm₅')
  have hob₅ : NotedObj e ob h₅ := hob₄.imp fun _ q => ke.trans q
  obtain ⟨g₅, T₅, F₅, K₅⟩ := kts_ground (name := name) (scope := scope) (a := a) (cd := cd) K F sh hfl₅.1 hsm₅
  have X₅ : KF.In g₅ := XB.keeps K₅.stays
  have P₅ : TopRead p loose mg mb g₅ := topRead_of (TB.keeps K₅.stays)
  obtain ⟨ob₅, hob, hobc⟩ := hfl₅.there
  refine wpAny_handleBy_builtin (X := "KeyError") (T := "KeyError") (b := true) kr_isExc_KeyError kr_notTuple_KeyError (by rw [isSubtype_type]; kernel_rfl!) (nameB_env F₅ X₅ P₅ ex1 b1 n1 hk hk1 rfl rfl d1 ⟨rfl, ⟨ob₅, hob, hobc.trans hcls⟩, ?_⟩)
  simp only [if_true]
  refine flight_any none hfl₅.1 hfl₅.2.2.1 hfl₅.2.2.2.at fun h₆ j1 j2 j3 hsm₆' je => ?_
  have hsm₆ := hsm₅.trans hsm₆'
  have hob₆ : NotedObj e ob h₆ := hob₅.imp fun _ q => je.trans q
  obtain ⟨g₆, T₆, F₆, K₆⟩ := kts_ground (name := name) (scope := scope) (a := a) (cd := cd) K F sh j1 hsm₆
  have X₆ : KF.In g₆ := XB.keeps K₆.stays
  have P₆ : TopRead p loose mg mb g₆ := topRead_of (TB.keeps K₆.stays)
  obtain ⟨bt, hoe⟩ := hob₆
  refine wpAny_execs_cons (Raise_in (e0 := e) PySem.F.excCall_IndexError PySem.F.excRaise_IndexError rfl hoe (Obj.data_mapFields hd _) (by simp) (fun hq => nameB_env F₆ X₆ P₆ ex2 b2 n2 hk hk2 rfl rfl d2 hq) ?_)
  intro h₇ e2 t tk hm ht
  have ne2 : B.get? e2 = none := by
    cases q : B.get? e2 with
    | none => rfl
    | some o => have := j1 _ _ q; rw [hm.new] at this; cases this
  have up2 : ∀ b o, h₆.get? b = some o → (h₇.update e2 (Obj.mapFields (·.setIfInBounds 2 (.ref e)))).get? b = some o := fun b o q =>
    (Heap.get?_update_other _ _ fun z => by have := hm.new; rw [z, q] at this; cases this).trans (hm.keeps _ _ q)
  have he2 := Heap.get?_update_self (Obj.mapFields (·.setIfInBounds 2 (Value.ref e))) ht (Obj.isFreed_of_fields (Obj.data_mapFields rfl _))
  show wpAny _ _ (noteFrame (.ref e2) _) _ _ _
  refine looks_first (a0 := .ref t) hfr (j2.of_keeps fun b o q _ => ⟨o, up2 b o q, rfl⟩) rfl he2 (fun b o q => up2 b o (j1 b o q)) ne2 (Obj.data_mapFields rfl _) (by simp) (by simp) fun h₈ hheld₈ hsm₈ _ => ?_
  refine cameBack_held rfl hheld₈ fun h₉ hheld₉ hsm₉ => ?_
  exact hE h₉ tk e2 ⟨(Heap.UpToSlots.of_keeps F.keep).trans ((hsm₆.trans (Heap.UpToSlots.of_keeps up2)).trans (hsm₈.trans hsm₉)), B, .ref t, st, sg, hl, hheld₉⟩
end
end Mine
end

section
open PySem PySem.W PyProof.Rows PySem.Calls
set_option maxRecDepth 100000
set_option maxHeartbeats 4000000
set_option linter.unusedVariables false
namespace Mine
section
variable {prog : Program} {w : World} {A : Around} {E : Value → Shared → Prop} {s : Shared} {h₀ : Heap} {L : Addr} {m : Str → Option Value} {news : List (Addr × Obj)}
theorem pop_nilE {a : Addr} {so : Obj} {Q : Value → Shared → Prop} (N : News h₀ L s.heap ((a, so) :: news)) (h1 : SetNil prog w so) (hh : A.handled = none)
    (h : ∀ h' tk e, Heap.NewExc s.heap h' e "KeyError" → E (.ref e) { s with heap := h', toks := tk }) :
    wpAny (model prog w) A (call (.builtin "set.pop") [.ref a]) Q E s := by
  obtain ⟨R, hso⟩ := h1
  exact call_set_pop0 (hso.setOf (N _ (.head _)).1 (by unfold scanBound; omega)) hh h
end
local macro_rules | `(tactic| k_room) => `(tactic| ((try simp only [depth_mark, depth_under_make, depth_under_kw, depth_in1, depth_deeper, depth_caller]); (try dsimp only [ktrTop]); omega))
local macro_rules | `(tactic| k_units) => `(tactic| (have hcL9 := cLine_is; (try simp only [units_in1, units_deeper, Around.mark_units, units_caller]); (try dsimp only [ktrTop]); omega))
local macro_rules | `(tactic| k_lt $h:ident) => `(tactic| (replace $h := allLt_of $h; simp only [AllLt_cons, AllLt_nil, allLt_app, and_true] at $h:ident))
local macro_rules | `(tactic| k_updF) => `(tactic| first | exact updF_53 (by assumption) | exact updF_67 (by assumption))
local macro_rules | `(tactic| k_all) => `(tactic| exact ne_base (by assumption) (by omega))
local macro_rules | `(tactic| k_mem) => `(tactic| exact List.mem_append_left _ (by assumption))
local macro_rules | `(tactic| walk_at "eval GeneratorExp") => `(tactic| (k_here; (try k_fold); (with_reducible show wpAny _ _ (eval (Expr.GeneratorExp _ [⟨_, Expr.Call _ [_, _, Expr.Constant (Const.int 365) _ _] _ _, _, _⟩] _ _) _) _ _ _); k_dflt (refine' genexp_K (c := 71) (P := 67) (a := 0) (b := 18980) (c₁ := 365) (n := 52) ?T ?X ?F ?N ?hmem ?hoc ?_ ?hco ?q1 ?q2 ?q3 ?q4 ?q5 ?q6 ?q7 ?q8 ?q9 ?q10 ?q11 ?q12 ?q13 ?q14 ?q15 ?q16 ?q17 ?q18 ?q19; (case T => k_asm); (case X => k_asm); (case F => k_asm); (case N => k_asm); (case q7 => with_unfolding_all rfl); (case q12 => with_unfolding_all rfl); (case hmem => k_mem); (case hoc => first | assumption | rfl); (case hco => exact fun _ _ x y z => code71 x y z); (case q1 => decide +kernel); (case q2 => decide +kernel); (case q3 => rfl); (case q4 => rfl); (case q5 => rfl); (case q6 => rfl); (case q8 => decide); (case q9 => rfl); (case q10 => rfl); (case q11 => rfl); (case q13 => rfl); (case q14 => k_room); (case q15 => decide); (case q16 => decide); (case q17 => decide); (case q18 => exact fun _ => rfl); (case q19 => decide))))
local macro_rules | `(tactic| walk_at "eval GeneratorExp") => `(tactic| (k_here; (try k_fold); (with_reducible show wpAny _ _ (eval (Expr.GeneratorExp _ [⟨_, Expr.Call _ [_, _, Expr.Constant (Const.int 260) _ _] _ _, _, _⟩] _ _) _) _ _ _); k_dflt (refine' genexp_K (c := 71) (P := 67) (a := 0) (b := 18980) (c₁ := 260) (n := 73) ?T ?X ?F ?N ?hmem ?hoc ?_ ?hco ?q1 ?q2 ?q3 ?q4 ?q5 ?q6 ?q7 ?q8 ?q9 ?q10 ?q11 ?q12 ?q13 ?q14 ?q15 ?q16 ?q17 ?q18 ?q19; (case T => k_asm); (case X => k_asm); (case F => k_asm); (case N => k_asm); (case q7 => with_unfolding_all rfl); (case q12 => with_unfolding_all rfl); (case hmem => k_mem); (case hoc => first | assumption | rfl); (case hco => exact fun _ _ x y z => code71 x y z); (case q1 => decide +kernel); (case q2 => decide +kernel); (case q3 => rfl); (case q4 => rfl); (case q5 => rfl); (case q6 => rfl); (case q8 => decide); (case q9 => rfl); (case q10 => rfl); (case q11 => rfl); (case q13 => rfl); (case q14 => k_room); (case q15 => decide); (case q16 => decide); (case q17 => decide); (case q18 => exact fun _ => rfl); (case q19 => decide))))
local macro_rules | `(tactic| walk_at "exec Try") => `(tactic| (k_here; (with_reducible show wpAny _ _ (exec (Stmt.Try _ (_ :: _) _ [] _) _) _ _ _); refine wpAny_Try_except ?_))
local macro_rules | `(tactic| walk_at "GenSrcU") => `(tactic| (k_dflt (refine' genSrcU_intro ?k1 ?k2 ?k3 ?k4 ?k5 ?k6 ?k7 ?_; (case k1 => assumption); (case k2 => k_asm); (case k3 => k_asm); (case k4 => k_updF); (case k5 => row_bare); (case k6 => assumption); (case k7 => k_mem)); intro g9 lim9 h9 gs9 tk9 more9 F9 N9 htr9 G9 hl9 hL9 hlt9 X9; (try dsimp only at N9 hlt9); (try dsimp only); (try k_sweep)))
local macro_rules | `(tactic| walk_at "call type:set") => `(tactic| (k_here; k_dflt (refine' set_genR ?X ?F ?N ?G ?a ?b ?c ?d ?_; (case X => assumption); (case F => k_asm); (case N => k_asm); (case G => row_bare); (case a => assumption); (case b => assumption); (case c => assumption); (case d => decide)); intro D9 h9 tk9 gs9 so9 F9 N9 G9 l9 hs9; (try k_lt l9); (try dsimp only); (try k_sweep)))
local macro_rules | `(tactic| walk_at "getMethod ref") => `(tactic| (k_here; (with_reducible show wpAny _ _ (getMethod (Value.ref _) (Str.ofString "intersection") _) _ _ _); k_dflt (refine' set_meth PySem.F.slot_set_intersection PySem.F.type_set_intersection ?N ?m ?c ?_; (case N => k_asm); (case m => k_mem); (case c => exact SetR.cls (by assumption)))))
local macro_rules | `(tactic| walk_at "getMethod ref") => `(tactic| (k_here; (with_reducible show wpAny _ _ (getMethod (Value.ref _) (Str.ofString "pop") _) _ _ _); k_dflt (refine' set_meth PySem.F.slot_set_pop PySem.F.type_set_pop ?N ?m ?c ?_; (case N => k_asm); (case m => k_mem); (case c => first | exact SetOne.cls (by assumption) | exact SetNil.cls (by assumption)))))
local macro_rules | `(tactic| walk_at "binaryOp Mod int int") => `(tactic| (k_here; k_dflt (refine' mod_emod ?a ?_; (case a => omega))))
local macro_rules | `(tactic| walk_at "call ref") => `(tactic| (k_here; (with_reducible show wpAny _ _ (call (Value.ref 44) [Value.int _ _]) _ _ _); k_dflt (refine' tz_spec ?k1 ?k2 ?k3 ?k4 ?k5 ?k6 ?k7 ?k8 ?k9 ?k10 ?_; (case k1 => k_asm); (case k2 => k_asm); (case k3 => k_asm); (case k4 => k_asm); (case k5 => k_asm); (case k6 => first | assumption | rfl); (case k7 => k_room); (case k8 => k_units); (case k9 => omega); (case k10 => omega)); intro D9 t9 u9 h9 tk9 F9 N9 l9; (try k_lt l9); (try dsimp only); (try k_sweep)))
local macro_rules | `(tactic| walk_at "call ref") => `(tactic| (k_here; (with_reducible show wpAny _ _ (call (Value.ref 37) [Value.int _ _]) _ _ _); k_dflt (refine' haab_spec ?k1 ?k2 ?k3 ?k4 ?k5 ?k6 ?k7 ?k8 ?k9 ?k10 ?_; (case k1 => k_asm); (case k2 => k_asm); (case k3 => k_asm); (case k4 => k_asm); (case k5 => k_asm); (case k6 => first | assumption | rfl); (case k7 => k_room); (case k8 => k_units); (case k9 => omega); (case k10 => omega)); intro D9 t9 u9 h9 tk9 F9 N9 l9; (try k_lt l9); (try dsimp only); (try k_sweep)))
local macro_rules | `(tactic| walk_at "call ref") => `(tactic| (k_here; (with_reducible show wpAny _ _ (call (Value.ref 51) [Value.int _ _, Value.str _ _]) _ _ _); k_dflt (refine' hcount_spec ?k1 ?k2 ?k3 ?k4 ?k5 ?k6 ?k7 ?k8 ?k9 ?k10 ?k11 ?k12 ?_; (case k1 => k_asm); (case k2 => k_asm); (case k3 => k_asm); (case k4 => k_asm); (case k5 => k_asm); (case k6 => first | assumption | rfl); (case k7 => k_room); (case k8 => k_units); (case k9 => omega); (case k10 => omega); (case k11 => omega); (case k12 => omega)); intro t9 h9 tk9 F9 N9; (try dsimp only); (try k_sweep)))
local macro_rules | `(tactic| walk_at "call ref") => `(tactic| (k_here; (with_reducible show wpAny _ _ (call (Value.ref 58) [Value.int _ _, Value.str _ _]) _ _ _); k_dflt (refine' tzc_use ?S ?N ?tr ?k1 ?k2 ?k3 ?O ?G ?k5 ?k6 ?k7 ?k8 ?k9 ?k10 ?k11 ?k12 ?_; (case N => k_asm); (case S => repeat' (first | exact Spl.nil | exact Spl.app | apply Spl.cons)); (case tr => assumption); (case k1 => k_asm); (case k2 => k_asm); (case k3 => k_asm); (case O => repeat (first | assumption | exact Off.nil | refine Off.cons (by omega) ?_)); (case G => row_bare); (case k5 => k_asm); (case k6 => first | assumption | rfl); (case k7 => k_room); (case k8 => k_units); (case k9 => omega); (case k10 => omega); (case k11 => omega); (case k12 => omega)); intro t9 h9 gs9 d9 tk9 more9 F9 N9 tr9 G9; (simp only [List.cons_append, List.nil_append] at N9); (try dsimp only); (try k_sweep)))
local macro_rules | `(tactic| walk_at "call builtin:set.intersection") => `(tactic| (k_here; k_dflt (refine' inter_hbn ?F ?N ?m1 ?m2 ?s1 ?s2 ?ne ?e ?_; (case F => k_asm); (case N => k_asm); (case m1 => k_mem); (case m2 => k_mem); (case s1 => assumption); (case s2 => assumption); (case ne => k_ne); (case e => omega)); intro D9 h9 so9 F9 N9 l9 hs9; (have l9k := l9); (try k_lt l9); (try dsimp only); (try k_sweep)))
local macro_rules | `(tactic| walk_at "call builtin:set.pop") => `(tactic| (k_here; k_dflt (refine' pop_nilD ?F ?N ?s ?hh ?_; (case F => k_asm); (case N => k_asm); (case s => assumption); (case hh => rfl)); intro h9 tk9 e9 F9 N9 x9; (try dsimp only); (try k_sweep)))
local macro_rules | `(tactic| walk_at "call builtin:set.pop") => `(tactic| (k_here; k_dflt (refine' pop_nilE ?N ?s ?hh ?_; (case N => k_asm); (case s => assumption); (case hh => rfl)); intro h9 tk9 e9 x9))
local macro_rules | `(tactic| walk_at "noteFrame ref") => `(tactic| (k_here; k_dflt (refine' catch_cells ?K ?F ?N ?hx ?XB ?TB ?hk ?hk1 ?hk2 ?ex1 ?ex2 PyProof.Rows.Boot.«KeyError» PyProof.Rows.Boot.«IndexError» ?n1 ?n2 ?d1 ?d2 ?_; (case hx => assumption); (case F => k_asm); (case N => k_asm); (case K => assumption); (case XB => assumption); (case TB => assumption); (case hk => rfl); (case hk1 => rfl); (case hk2 => rfl); (case ex1 => k_is); (case ex2 => k_is); (case n1 => decide); (case n2 => decide); (case d1 => decide); (case d2 => decide); k_whole); intro h9 tk9 e9 R9))
local macro_rules | `(tactic| walk_at "leaving ref") => `(tactic| (k_here; k_dflt (refine' leave_heldC ?R ?f ?_; (case R => assumption); (case f => rfl); k_whole); intro h9 S9 U9; (try dsimp only at S9 U9 ⊢)))
section
variable {w : World} {p : Program} {loose : List Str} {mean : ExcName → Option Value} {mg mb : Str → Option Value}
  {dp un : Nat} {gd : Option (List Code)} {cn : Str} {cs : Scope} {a : Addr} {ccd : Value}  {A₀ : Around} {base h₀ : Heap} {L : Addr} {m : Str → Option Value} {pre news : List (Addr × Obj)} {s : Shared} {Q E : Value → Shared → Prop} {ps qs : Array Value}
theorem met_nil {ta ha : Addr} {d j c i td hd' : Int} {t0 u0 t1 u1 : Tok} {jd : Int} {tk : Tok} (N : News h₀ L s.heap (pre ++ [(53, tabO ps), (67, tabO qs)])) (hm : (ta, tupIS d t0 (tzName j) u0) ∈ pre) (hm2 : (ha, tupIS c t1 (haabName i) u1) ∈ pre) (htr : TriplesOk ps.toList) (htr2 : TriplesOk qs.toList)
    (B : Below A₀ base [] h₀) (F : Fr h₀ L s.heap m) (X : (Mine.hd.heap_39 w.params).In h₀) (O : Off pre) (G : AllBare s.gens) (T : Top p loose mean mg mb h₀) (hk : cs.kind = .function) (hd : dp + 30 < recursionLimit) (hu : un + 80 < cLine)
    (h0 : 1 ≤ d) (h1 : d ≤ 13) (h2 : 0 ≤ j) (h3 : j ≤ 19) (h4 : 584283 ≤ jd) (h5 : jd ≤ 30000000000) (h6 : 0 ≤ c) (h7 : c ≤ 19) (h8 : 0 ≤ i) (h9 : i ≤ 18)
    (htd : td = (crt d (1 + j) - crt ((jd - 584280) % 13 + 1) (1 + (jd - 584264) % 20)) % 260) (hhd : hd' = (i * 20 + c - (jd - 583935) % 365) % 365) (hcond : ¬ (hd' - td) % 5 = 0)
    (hret : ∀ (t : Tok) (h' : Heap) gs' d' (tk' : Nat) more more', Fr h₀ L h' m → News h₀ L h' (pre ++ [(53, tabO (ps ++ more)), (67, tabO (qs ++ more'))]) → TriplesOk (ps ++ more).toList → TriplesOk (qs ++ more').toList → AllBare gs' → Q (.str (Str.ofString "refused") t) { s with heap := h', toks := tk', gens := gs', drawn := d' }) :
    wpAny (model PySem.Challenge.rw_ah0021_01.row.prog w) (ktrTop dp un gd cn cs L a ccd [] []) (call (.ref 86) [.ref ta, .ref ha, .int jd tk]) Q E s := by
  have B1 : Below A₀ h₀ [] h₀ := ⟨B.stack, fun _ _ e => e, trivial⟩
  clear B
  revert X; k_fill; intro X
  refine wpAny_call ?_
  k_dflt (refine' code_defS0 ?k1 ?k2 ?k3 ?k4 ?k5 ?kA ?k6 ?k7 ?k8 ?k9 ?kB ?_ ?cK ?c2 ?c3 ?c4 ?c5; (case kA => exact rfl); (case k2 => k_asm); (case k1 => k_asm); (case k3 => k_asm); (case k4 => k_asm); (case k5 => k_asm); (case k6 => k_is); (case k7 => k_is); (case k8 => k_room); (case k9 => exact BindsTo.of_eq rfl); (case kB => exact locs rfl); (case cK => assumption); (case c2 => exact rfl); (case c3 => exact rfl); (case c4 => exact rfl); (case c5 => decide); k_whole; intro g' L' h' FG' F' N' B' X' T' D'; (try dsimp only); (try k_lift B'); (try k_fold))
  k_steps
  rename News h₀ L _ (_ :: _) => kN
  rename Fr h₀ L _ _ => kF
  simp only [Array.append_assoc] at kN
  refine hret _ _ _ _ _ _ _ kF (fun p hp => kN p (.tail _ (.tail _ (.tail _ (.tail _ (.tail _ (.tail _ (.tail _ hp)))))))) ?_ ?_ (by assumption)
  · rw [← Array.append_assoc]; assumption
  · rw [← Array.append_assoc]; assumption
end
end Mine
end

section
open PySem PySem.W PyProof.Rows PySem.Calls
set_option maxRecDepth 100000
set_option maxHeartbeats 4000000
set_option linter.unusedVariables false
namespace Mine
/-- a program that says nothing of its defs -/
def noProg : Program := { (default : Program) with main := { (default : Module) with body := [.Import [⟨"sys", none, default⟩] default] } }
def looseAll (p : Program) (loose : List Str) : List Str := loose ++ (recsOf p).map (·.name) ++ (litsOf p).map (·.1) ++ (clssOf p loose).map (·.name)
theorem ns_hide {h : Heap} {a : Addr} {m : Str → Option Value} (n : h.Ns a m) (h1 : a ≠ 53) (h2 : a ≠ 67) : (hideAll h [53, 67]).Ns a m := by
  obtain ⟨o, es, ep, e, r⟩ := n
  exact ⟨o, es, ep, hideAll_get _ e (by simp [h1, h2]), r⟩
theorem in_hide {w : World} {h : Heap} (X : (hd.heap_39 w.params).In h) : (hd.heap_39 w.params).In (hideAll h [53, 67]) := by
  intro a o e
  refine hideAll_get _ (X a o e) fun q => ?_
  simp only [List.mem_cons, List.not_mem_nil, or_false] at q
  rcases q with rfl | rfl
  · have : (hd.heap_39 w.params).lookup 53 = none := rfl
    rw [this] at e; cases e
  · have : (hd.heap_39 w.params).lookup 67 = none := rfl
    rw [this] at e; cases e
theorem top_hide {p : Program} {loose : List Str} {mean : ExcName → Option Value} {mg mb : Str → Option Value} {h : Heap} (T : Top p loose mean mg mb h) (h1 : h.get? 53 = some (tabO #[])) (h2 : h.get? 67 = some (tabO #[])) :
    Top noProg (looseAll p loose) mean mg mb (hideAll h [53, 67]) where
  g := ns_hide T.g (by decide) (by decide)
  b := ns_hide T.b (by decide) (by decide)
  nolimit := let ⟨mc, q, r⟩ := T.nolimit; ⟨mc, ns_hide q (by decide) (by decide), r⟩
  nodigits := let ⟨mc, q, r⟩ := T.nodigits; ⟨mc, ns_hide q (by decide) (by decide), r⟩
  fn := fun d hd => nomatch (show d ∈ [] from hd)
  own := fun o ho => nomatch (show o ∈ [] from ho)
  const := fun x d q => nomatch (show none = some d from q)
  free := fun x q1 q2 q3 q4 q5 => by
    simp only [looseAll, List.mem_append, not_or] at q2
    exact T.free x q1 q2.1.1.1 q2.1.1.2 q2.1.2 q2.2
  builtins := T.builtins
  tab := fun d hd => nomatch (show d ∈ [] from hd)
  bmain := by
    obtain ⟨bm, ob, q1, q2, q3, q4, r⟩ := T.bmain
    refine ⟨bm, ob, q1, q2, hideAll_get _ q3 fun q => ?_, q4, r⟩
    simp only [List.mem_cons, List.not_mem_nil, or_false] at q
    rcases q with rfl | rfl
    · rw [h1] at q3; cases q3; cases q4
    · rw [h2] at q3; cases q3; cases q4
  seer := fun hi => absurd (show importsNone noProg = true from hi) (by decide)
theorem tab53 {w : World} {loose : List Str} {mean : ExcName → Option Value} {mg mb : Str → Option Value} {h : Heap} (X : (hd.heap_39 w.params).In h) (T : Top hd.view_39 loose mean mg mb h) : h.get? 53 = some (tabO #[]) := by
  obtain ⟨c, P, hc, B⟩ := based_of_top T (name := "_tzolkin_count") rfl (mg_of X T.g (v := .ref 58) rfl) (X 58 _ rfl) rfl
  have hc' : (57 : Addr) = c := by injection hc
  subst hc'
  obtain ⟨⟨o, vs, q1, q2, q3, q4⟩, q5⟩ := B.tab
  rw [X 57 _ rfl] at q1
  cases q1
  cases q3
  have : (53 : Addr) = P := by
    have z : some (Value.ref 53) = some (Value.ref P) := q4
    injection z with z; injection z
  rw [this]; exact q5
theorem tab67 {w : World} {loose : List Str} {mean : ExcName → Option Value} {mg mb : Str → Option Value} {h : Heap} (X : (hd.heap_39 w.params).In h) (T : Top hd.view_39 loose mean mg mb h) : h.get? 67 = some (tabO #[]) := by
  obtain ⟨c, P, hc, B⟩ := based_of_top T (name := "next_tzolkin_haab") rfl (mg_of X T.g (v := .ref 72) rfl) (X 72 _ rfl) rfl
  have hc' : (71 : Addr) = c := by injection hc
  subst hc'
  obtain ⟨⟨o, vs, q1, q2, q3, q4⟩, q5⟩ := B.tab
  rw [X 71 _ rfl] at q1
  cases q1
  cases q3
  have : (67 : Addr) = P := by
    have z : some (Value.ref 67) = some (Value.ref P) := q4
    injection z with z; injection z
  rw [this]; exact q5
theorem fr_hide {h h' : Heap} {L : Addr} {m : Str → Option Value} (F : Fr h L h' m) (h1 : h.get? 53 = some (tabO #[])) (h2 : h.get? 67 = some (tabO #[])) :
    Fr (hideAll h [53, 67]) L h' m ∧ News (hideAll h [53, 67]) L h' ([] ++ [(53, tabO #[]), (67, tabO #[])]) := by
  refine ⟨⟨F.ns, fun b o e => F.keep b o (of_hideAll _ e), by rw [hideAll_size]; exact F.above⟩, fun p hp => ?_⟩
  have a1 := F.above
  simp only [List.nil_append, List.mem_cons, List.not_mem_nil, or_false] at hp
  rcases hp with rfl | rfl
  · exact ⟨F.keep _ _ h1, fun q => absurd (Nat.lt_of_lt_of_le (Heap.lt_size h1) F.above) (by rw [← (show (53 : Addr) = L from q)]; exact Nat.lt_irrefl _), hideAll_none _ (by simp)⟩
  · exact ⟨F.keep _ _ h2, fun q => absurd (Nat.lt_of_lt_of_le (Heap.lt_size h2) F.above) (by rw [← (show (67 : Addr) = L from q)]; exact Nat.lt_irrefl _), hideAll_none _ (by simp)⟩
/-- the end: the old heap, but for the two tables -/
theorem oldK_end {w : World} {h h' : Heap} {L : Addr} {m : Str → Option Value} {ps qs : Array Value} {pre : List (Addr × Obj)} (X : (hd.heap_39 w.params).In h) (h1 : h.get? 53 = some (tabO #[])) (h2 : h.get? 67 = some (tabO #[]))
    (F : Fr (hideAll h [53, 67]) L h' m) (N : News (hideAll h [53, 67]) L h' (pre ++ [(53, tabO ps), (67, tabO qs)])) : OldK h h' := by
  have n1 := (N (53, tabO ps) (by simp)).1
  have n2 := (N (67, tabO qs) (by simp)).1
  refine ⟨fun b o e => ?_, fun b o e => ?_⟩
  · by_cases q1 : b = 53
    · subst q1
      rw [h1] at e; cases e
      exact .inr (.inl ⟨(code57 X h1 (show TriplesOk [] from trivial)).2.isCodeTable, rfl, #[], ps, rfl, by rw [n1]; simp⟩)
    · by_cases q2 : b = 67
      · subst q2
        rw [h2] at e; cases e
        exact .inr (.inl ⟨(code71 X h2 (show TriplesOk [] from trivial)).2.isCodeTable, rfl, #[], qs, rfl, by rw [n2]; simp⟩)
      · exact .inl (F.keep b o (hideAll_get _ e (by simp [q1, q2])))
  · by_cases q1 : b = 53
    · subst q1; exact ⟨_, n1⟩
    · by_cases q2 : b = 67
      · subst q2; exact ⟨_, n2⟩
      · exact ⟨o, F.keep b o (hideAll_get _ e (by simp [q1, q2]))⟩
end Mine
end

section
open PySem PySem.W PyProof.Rows PySem.Calls PySem.Spec
set_option maxRecDepth 100000
set_option maxHeartbeats 4000000
set_option linter.unusedVariables false
namespace Mine
local macro_rules | `(tactic| k_room) => `(tactic| ((try simp only [depth_mark, depth_under_make, depth_under_kw, depth_in1, depth_deeper, depth_caller]); (try dsimp only [ktrTop]); omega))
local macro_rules | `(tactic| k_units) => `(tactic| (have hcL9 := cLine_is; (try simp only [units_in1, units_deeper, Around.mark_units, units_caller]); (try dsimp only [ktrTop]); omega))
theorem haab_strOk (i : Int) : PyData.strOk (haabName i) = true := by
  rw [haabName_def, List.getD_eq_getElem?_getD]
  have all : ∀ x ∈ haabS, PyData.strOk x = true := by decide +kernel
  cases q : haabS[i.toNat]? with
  | none => decide +kernel
  | some x => exact all x (List.mem_of_getElem? q)
theorem tz_strOk (i : Int) : PyData.strOk (tzName i) = true := by
  rw [tzName_def, List.getD_eq_getElem?_getD]
  have all : ∀ x ∈ tzS, PyData.strOk x = true := by decide +kernel
  cases q : tzS[i.toNat]? with
  | none => decide +kernel
  | some x => exact all x (List.mem_of_getElem? q)
section
variable {prog : Program} {w : World} {A : Around} {E : Value → Shared → Prop} {s : Shared} {h₀ : Heap} {L a b : Addr} {news : List (Addr × Obj)} {i i' : Int} {x x' : Str} {t t' u u' : Tok} {Q : Value → Shared → Prop}
theorem tup_reads (N : News h₀ L s.heap news) (ma : (a, tupIS i t x u) ∈ news) : Reads s.heap (.ref a) (.tuple [.int i, .str x]) [] :=
  reads_tuple_at (N.get ma) rfl rfl (.cons (.int _ _) (.cons (.str _ _) .nil))
theorem tup_shaped (hx : PyData.strOk x = true) : SeqAt.shaped (.tuple [.int i, .str x]) = true := by
  simp [SeqAt.shaped, PyData.canLay0, PyData.canLayAll0, PyData.depth, PyData.depthAll, hx]
theorem tup_eqv : PyData.eqv (.tuple [.int i, .str x]) (.tuple [.int i', .str x']) = decide (i = i' ∧ x = x') := by
  simp only [PyData.eqv, PyData.eqvAll, Bool.and_true]
  by_cases h1 : i = i' <;> by_cases h2 : x = x' <;> simp [h1, h2]
theorem eq_tup (N : News h₀ L s.heap news) (ma : (a, tupIS i t x u) ∈ news) (mb : (b, tupIS i' t' x' u') ∈ news) (hx : PyData.strOk x = true) (hx' : PyData.strOk x' = true) (hu : A.units + 64 < cLine)
    (h : Q (.bool (decide (i = i' ∧ x = x'))) s) : wpAny (model prog w) A (compareOp .Eq (.ref a) (.ref b)) Q E s :=
  eq_dataH (tup_reads N ma) (tup_reads N mb) (tup_shaped hx) (tup_shaped hx') hu (by rw [tup_eqv]; exact h)
theorem ne_tup (N : News h₀ L s.heap news) (ma : (a, tupIS i t x u) ∈ news) (mb : (b, tupIS i' t' x' u') ∈ news) (hx : PyData.strOk x = true) (hx' : PyData.strOk x' = true) (hu : A.units + 64 < cLine)
    (h : Q (.bool (!decide (i = i' ∧ x = x'))) s) : wpAny (model prog w) A (compareOp .NotEq (.ref a) (.ref b)) Q E s :=
  ne_dataH (tup_reads N ma) (tup_reads N mb) (tup_shaped hx) (tup_shaped hx') hu (by rw [tup_eqv]; exact h)
end
theorem tz_same (p q : Int) : ((p - 584280) % 13 + 1 = (q - 584280) % 13 + 1 ∧ tzName ((p - 584264) % 20) = tzName ((q - 584264) % 20)) ↔ (p - q) % 260 = 0 := by
  rw [tzName_inj (by omega) (by omega) (by omega) (by omega)]
  omega
theorem haab_same (p q : Int) : ((p - 583935) % 365 % 20 = (q - 583935) % 365 % 20 ∧ haabName ((p - 583935) % 365 / 20) = haabName ((q - 583935) % 365 / 20)) ↔ (p - q) % 365 = 0 := by
  rw [haabName_inj (by omega) (by omega) (by omega) (by omega)]
  omega
section
variable {prog : Program} {w : World} {A : Around} {E : Value → Shared → Prop} {s : Shared} {h₀ : Heap} {L a b : Addr} {news : List (Addr × Obj)} {p q : Int} {t t' u u' : Tok} {Q : Value → Shared → Prop} {P : Prop} [Decidable P]
theorem eq_tz (N : News h₀ L s.heap news) (ma : (a, tupIS ((p - 584280) % 13 + 1) t (tzName ((p - 584264) % 20)) u) ∈ news) (mb : (b, tupIS ((q - 584280) % 13 + 1) t' (tzName ((q - 584264) % 20)) u') ∈ news) (hu : A.units + 64 < cLine)
    (h : Q (.bool (decide ((p - q) % 260 = 0))) s) : wpAny (model prog w) A (compareOp .Eq (.ref a) (.ref b)) Q E s :=
  eq_tup N ma mb (tz_strOk _) (tz_strOk _) hu (by rw [decide_eq_decide.mpr (tz_same p q)]; exact h)
theorem ne_tz (N : News h₀ L s.heap news) (ma : (a, tupIS ((p - 584280) % 13 + 1) t (tzName ((p - 584264) % 20)) u) ∈ news) (mb : (b, tupIS ((q - 584280) % 13 + 1) t' (tzName ((q - 584264) % 20)) u') ∈ news) (hu : A.units + 64 < cLine)
    (h : Q (.bool (!decide ((p - q) % 260 = 0))) s) : wpAny (model prog w) A (compareOp .NotEq (.ref a) (.ref b)) Q E s :=
  ne_tup N ma mb (tz_strOk _) (tz_strOk _) hu (by rw [decide_eq_decide.mpr (tz_same p q)]; exact h)
theorem eq_haab (N : News h₀ L s.heap news) (ma : (a, tupIS ((p - 583935) % 365 % 20) t (haabName ((p - 583935) % 365 / 20)) u) ∈ news) (mb : (b, tupIS ((q - 583935) % 365 % 20) t' (haabName ((q - 583935) % 365 / 20)) u') ∈ news) (hu : A.units + 64 < cLine)
    (h : Q (.bool (decide ((p - q) % 365 = 0))) s) : wpAny (model prog w) A (compareOp .Eq (.ref a) (.ref b)) Q E s :=
  eq_tup N ma mb (haab_strOk _) (haab_strOk _) hu (by rw [decide_eq_decide.mpr (haab_same p q)]; exact h)
theorem ne_haab (N : News h₀ L s.heap news) (ma : (a, tupIS ((p - 583935) % 365 % 20) t (haabName ((p - 583935) % 365 / 20)) u) ∈ news) (mb : (b, tupIS ((q - 583935) % 365 % 20) t' (haabName ((q - 583935) % 365 / 20)) u') ∈ news) (hu : A.units + 64 < cLine)
    (h : Q (.bool (!decide ((p - q) % 365 = 0))) s) : wpAny (model prog w) A (compareOp .NotEq (.ref a) (.ref b)) Q E s :=
  ne_tup N ma mb (haab_strOk _) (haab_strOk _) hu (by rw [decide_eq_decide.mpr (haab_same p q)]; exact h)
end
/-- the arithmetic of the law -/
theorem crt_day (x : Int) : crt ((x - 584280) % 13 + 1) (1 + (x - 584264) % 20) = (x - 584283 + 159) % 260 + 1 := by
  unfold crt
  omega
theorem meet_law {td hd v : Int} (h0 : 0 ≤ td) (h1 : td < 260) (h2 : 0 ≤ hd) (h3 : hd < 365) (h4 : (hd - td) % 5 = 0) (h5 : 0 ≤ v) (h6 : v < 18980) (h7 : v % 260 = td) (h8 : v % 365 = hd) : meet td hd = v := by
  unfold meet
  omega
theorem meet_room {td hd : Int} (h0 : 0 ≤ td) (h1 : td < 260) (h2 : 0 ≤ hd) (h3 : hd < 365) (h4 : (hd - td) % 5 = 0) : 0 ≤ meet td hd ∧ meet td hd < 18980 ∧ meet td hd % 260 = td ∧ meet td hd % 365 = hd := by
  unfold meet
  omega
end Mine
end

section
open PySem PySem.W PyProof.Rows PySem.Calls PySem.Spec
set_option maxRecDepth 100000
set_option maxHeartbeats 4000000
set_option linter.unusedVariables false
namespace Mine
theorem td_law (p jd : Int) : (crt ((p - 584280) % 13 + 1) (1 + (p - 584264) % 20) - crt ((jd - 584280) % 13 + 1) (1 + (jd - 584264) % 20)) % 260 = (p - jd) % 260 := by
  rw [crt_day, crt_day]; omega
theorem hd_law (q jd : Int) : ((q - 583935) % 365 / 20 * 20 + (q - 583935) % 365 % 20 - (jd - 583935) % 365) % 365 = (q - jd) % 365 := by
  omega
section
variable {w : World} {p : Program} {loose : List Str} {mean : ExcName → Option Value} {mg mb : Str → Option Value}
  {dp un : Nat} {gd : Option (List Code)} {cn : Str} {cs : Scope} {a : Addr} {ccd : Value} {A₀ : Around} {base h₀ : Heap} {L : Addr} {m : Str → Option Value} {pre news : List (Addr × Obj)} {s : Shared} {Q E : Value → Shared → Prop} {ps qs : Array Value}
theorem met_same {ta ha : Addr} {x jd : Int} {t0 u0 t1 u1 : Tok} {tk : Tok} (S : Spl news pre ps qs) (N : News h₀ L s.heap news) (hm : (ta, tupIS ((x - 584280) % 13 + 1) t0 (tzName ((x - 584264) % 20)) u0) ∈ pre) (hm2 : (ha, tupIS ((x - 583935) % 365 % 20) t1 (haabName ((x - 583935) % 365 / 20)) u1) ∈ pre)
    (htr : TriplesOk ps.toList) (htr2 : TriplesOk qs.toList)
    (B : Below A₀ base [] h₀) (F : Fr h₀ L s.heap m) (X : (Mine.hd.heap_39 w.params).In h₀) (O : Off pre) (G : AllBare s.gens) (T : Top p loose mean mg mb h₀) (hk : cs.kind = .function) (hd : dp + 30 < recursionLimit) (hu : un + 80 < cLine)
    (h4 : 584283 ≤ jd) (h5 : jd ≤ 30000000000)
    (hret : ∀ (t : Tok) (h' : Heap) gs' d' (tk' : Nat) more more', Fr h₀ L h' m → News h₀ L h' (pre ++ [(53, tabO (ps ++ more)), (67, tabO (qs ++ more'))]) → TriplesOk (ps ++ more).toList → TriplesOk (qs ++ more').toList → AllBare gs' → Q (.int ((x - jd) % 18980 + jd) t) { s with heap := h', toks := tk', gens := gs', drawn := d' }) :
    wpAny (model PySem.Challenge.rw_ah0021_01.row.prog w) (ktrTop dp un gd cn cs L a ccd [] []) (call (.ref 86) [.ref ta, .ref ha, .int jd tk]) Q E s := by
  have e := S.eq
  subst e
  refine met_one (td := (x - jd) % 260) (hd' := (x - jd) % 365) N hm hm2 htr htr2 B F X O G T hk hd hu (by omega) (by omega) (by omega) (by omega) h4 h5 (by omega) (by omega) (by omega) (by omega) (td_law x jd).symm (hd_law x jd).symm (by omega) ?_
  rw [meet_law (v := (x - jd) % 18980) (by omega) (by omega) (by omega) (by omega) (by omega) (by omega) (by omega) (by omega) (by omega)]
  exact hret
theorem met_five {ta ha : Addr} {x y : Int} {t0 u0 t1 u1 : Tok} {tk : Tok} (S : Spl news pre ps qs) (N : News h₀ L s.heap news) (hm : (ta, tupIS ((x - 584280) % 13 + 1) t0 (tzName ((x - 584264) % 20)) u0) ∈ pre) (hm2 : (ha, tupIS ((y - 583935) % 365 % 20) t1 (haabName ((y - 583935) % 365 / 20)) u1) ∈ pre)
    (htr : TriplesOk ps.toList) (htr2 : TriplesOk qs.toList)
    (B : Below A₀ base [] h₀) (F : Fr h₀ L s.heap m) (X : (Mine.hd.heap_39 w.params).In h₀) (O : Off pre) (G : AllBare s.gens) (T : Top p loose mean mg mb h₀) (hk : cs.kind = .function) (hd : dp + 30 < recursionLimit) (hu : un + 80 < cLine)
    (h4 : 584283 ≤ x) (h5 : x ≤ 30000000000)
    (hret : ∀ (t : Tok) (h' : Heap) gs' d' (tk' : Nat) more more', (y - x) % 5 = 0 ∧ 0 ≤ meet 0 ((y - x) % 365) ∧ meet 0 ((y - x) % 365) < 18980 ∧ meet 0 ((y - x) % 365) % 260 = 0 ∧ meet 0 ((y - x) % 365) % 365 = (y - x) % 365 →
      Fr h₀ L h' m → News h₀ L h' (pre ++ [(53, tabO (ps ++ more)), (67, tabO (qs ++ more'))]) → TriplesOk (ps ++ more).toList → TriplesOk (qs ++ more').toList → AllBare gs' → Q (.int (meet 0 ((y - x) % 365) + x) t) { s with heap := h', toks := tk', gens := gs', drawn := d' })
    (hret2 : ∀ (t : Tok) (h' : Heap) gs' d' (tk' : Nat) more more', ¬ (y - x) % 5 = 0 → Fr h₀ L h' m → News h₀ L h' (pre ++ [(53, tabO (ps ++ more)), (67, tabO (qs ++ more'))]) → TriplesOk (ps ++ more).toList → TriplesOk (qs ++ more').toList → AllBare gs' → Q (.str (Str.ofString "refused") t) { s with heap := h', toks := tk', gens := gs', drawn := d' }) :
    wpAny (model PySem.Challenge.rw_ah0021_01.row.prog w) (ktrTop dp un gd cn cs L a ccd [] []) (call (.ref 86) [.ref ta, .ref ha, .int x tk]) Q E s := by
  have e := S.eq
  subst e
  by_cases hc : (y - x) % 5 = 0
  · refine met_one (td := 0) (hd' := (y - x) % 365) N hm hm2 htr htr2 B F X O G T hk hd hu (by omega) (by omega) (by omega) (by omega) h4 h5 (by omega) (by omega) (by omega) (by omega) (by rw [td_law x x]; omega) (hd_law y x).symm (by omega) ?_
    obtain ⟨r1, r2, r3, r4⟩ := meet_room (td := 0) (hd := (y - x) % 365) (by omega) (by omega) (by omega) (by omega) (by omega)
    intro t h' gs' d' tk' more more' F' N' a b c
    exact hret t h' gs' d' tk' more more' ⟨hc, r1, r2, r3, r4⟩ F' N' a b c
  · refine met_nil (td := (x - x) % 260) (hd' := (y - x) % 365) N hm hm2 htr htr2 B F X O G T hk hd hu (by omega) (by omega) (by omega) (by omega) h4 h5 (by omega) (by omega) (by omega) (by omega) (td_law x x).symm (hd_law y x).symm (by omega) ?_
    intro t h' gs' d' tk' more more' F' N' a b c
    exact hret2 t h' gs' d' tk' more more' hc F' N' a b c
theorem ntz_law {ta : Addr} {x jd : Int} {t0 u0 : Tok} {tk : Tok} (S : Spl news pre ps qs) (N : News h₀ L s.heap news) (hm : (ta, tupIS ((x - 584280) % 13 + 1) t0 (tzName ((x - 584264) % 20)) u0) ∈ pre) (htr : TriplesOk ps.toList)
    (B : Below A₀ base [] h₀) (F : Fr h₀ L s.heap m) (X : (Mine.hd.heap_39 w.params).In h₀) (O : Off pre) (G : AllBare s.gens) (T : Top p loose mean mg mb h₀) (hk : cs.kind = .function) (hd : dp + 20 < recursionLimit) (hu : un + 60 < cLine)
    (h4 : 584283 ≤ jd) (h5 : jd ≤ 30000000000)
    (hret : ∀ (t : Tok) (h' : Heap) gs' d' (tk' : Nat) more, Fr h₀ L h' m → News h₀ L h' (pre ++ [(53, tabO (ps ++ more)), (67, tabO qs)]) → TriplesOk (ps ++ more).toList → AllBare gs' → Q (.int (jd + (x - jd) % 260) t) { s with heap := h', toks := tk', gens := gs', drawn := d' }) :
    wpAny (model PySem.Challenge.rw_ah0021_01.row.prog w) (ktrTop dp un gd cn cs L a ccd [] []) (call (.ref 65) [.ref ta, .int jd tk]) Q E s := by
  have e := S.eq
  subst e
  refine ntz_spec N hm htr B F X O G T hk hd hu (by omega) (by omega) (by omega) (by omega) h4 h5 ?_
  rw [td_law]
  exact hret
end
end Mine
end

section
open PySem PySem.W PyProof.Rows PySem.Calls PySem.Spec
set_option maxRecDepth 100000
set_option maxHeartbeats 4000000
set_option linter.unusedVariables false
namespace Mine
local macro_rules | `(tactic| k_room) => `(tactic| ((try simp only [depth_mark, depth_under_make, depth_under_kw, depth_in1, depth_deeper, depth_caller]); (try dsimp only [ktrTop]); omega))
local macro_rules | `(tactic| k_units) => `(tactic| (have hcL9 := cLine_is; (try simp only [units_in1, units_deeper, Around.mark_units, units_caller]); (try dsimp only [ktrTop]); omega))
section
variable {w : World} {p : Program} {loose : List Str} {mean : ExcName → Option Value} {mg mb : Str → Option Value}
  {dp un : Nat} {gd : Option (List Code)} {cn : Str} {cs : Scope} {a : Addr} {ccd : Value} {cl : List (Str × Addr)} {outer : List Env} {A₀ : Around} {base h₀ : Heap} {L : Addr} {m : Str → Option Value} {news : List (Addr × Obj)} {s : Shared} {Q E : Value → Shared → Prop}
theorem lcell_spec {la : Addr} {xs : List Value} {ns : List Int} {k : Int} {tk : Tok} (hL : h₀.IsList la xs.toArray) (hI : IntsAre xs ns) (hlen : ¬ 63 < (ns.length : Int))
    (B : Below A₀ base outer h₀) (F : Fr h₀ L s.heap m) (X : (Mine.hd.heap_39 w.params).In h₀) (N : News h₀ L s.heap news) (T : Top p loose mean mg mb h₀) (hk : cs.kind = .function) (hd : dp + 10 < recursionLimit) (hu : un + 40 < cLine)
    (h0 : 0 ≤ k) (h1 : k ≤ 5)
    (hret : ∀ (t : Tok) (h' : Heap) (tk' : Nat), Fr h₀ L h' m → News h₀ L h' news → Q (.int (ns.getD k.toNat 0) t) { s with heap := h', toks := tk' }) :
    wpAny (model PySem.Challenge.rw_ah0021_01.row.prog w) (ktrTop dp un gd cn cs L a ccd cl outer) (call (.ref 79) [.ref la, .int k tk]) Q E s := by
  revert X; k_fill; intro X
  refine wpAny_call ?_
  k_dflt cell_enter
  rename Fr h₀ L _ _ => kF
  have hL' := Fr.lst kF hL
  k_steps
  · exact hret _ _ _ (by assumption) (by assumption)
  · rename ¬ k < _ => hk9
    have e0 : ns.getD k.toNat 0 = 0 := by rw [List.getD_eq_getElem?_getD, List.getElem?_eq_none (by omega)]; rfl
    rw [e0] at hret
    exact hret _ _ _ (by assumption) (by assumption)
end
end Mine
end

section
open PySem PySem.W PyProof.Rows PySem.Calls PySem.Spec
set_option maxRecDepth 100000
set_option maxHeartbeats 8000000
set_option linter.unusedVariables false
namespace Mine
def Keep (P : Prop) : Prop := P
theorem list_hide {h : Heap} {a : Addr} {xs : Array Value} (hL : h.IsList a xs) (h1 : h.get? 53 = some (tabO #[])) (h2 : h.get? 67 = some (tabO #[])) : (hideAll h [53, 67]).IsList a xs := by
  obtain ⟨o, e, hc, r⟩ := hL
  refine ⟨o, hideAll_get _ e fun q => ?_, hc, r⟩
  simp only [List.mem_cons, List.not_mem_nil, or_false] at q
  rcases q with rfl | rfl
  · rw [h1] at e; cases e; cases hc
  · rw [h2] at e; cases e; cases hc
theorem law_top {prog : Program} {w : World} {α : Type} {t : Sem α} {cn : Str} {cs : Scope} {L a : Addr} {ccd : Value} {Q : α → Shared → Prop} {E : Value → Shared → Prop} {s : Shared}
    (h : ∀ dp un, dp + 40 < recursionLimit → un + 200 < cLine → wpAny (model prog w) (ktrTop dp un (some []) cn cs L a ccd [] []) t Q E s) : wpAny (model prog w) (callerA.deeper (envOf cn cs L a ccd)) t Q E s :=
  h (callerA.depth + 1) (callerA.units + 3) (by decide) (by decide)
theorem law_end {w : World} {c : ClaimW} {cl : Str → Option Addr} {mean : ExcName → Option Value} {args : List WData} {s₁ : Shared} {h h₀ : Heap} {g : Array GenState} {d : Drawn} {t : Nat} {b : Bool}
    {L : Addr} {m : Str → Option Value} {ps qs : Array Value} {pre news : List (Addr × Obj)} (KX : Keep ((hd.heap_39 w.params).In s₁.heap ∧ s₁.heap.get? 53 = some (tabO #[]) ∧ s₁.heap.get? 67 = some (tabO #[]) ∧ h₀ = hideAll s₁.heap [53, 67]))
    (F : Fr h₀ L h m) (S : Spl news pre ps qs) (N : News h₀ L h news) (hb : AllBare g) (hr : ∀ cls, c.raises args cls = false) (hp : c.post args (.bool true) args = true) (e : b = true) :
    GoodWG c cl mean args s₁ (.ok (.ret (.bool b))) ⟨h, g, d, t, s₁.os⟩ := by
  subst e
  obtain ⟨X, h1, h2, rfl⟩ := KX
  have e := S.eq
  subst e
  exact ⟨.inl ⟨_, _, [], rfl, hr, ReadsW.bool true, hp, fun _ => ⟨List.nodup_nil, fun _ hm => (nomatch hm)⟩⟩, oldK_end X h1 h2 F N, rfl, hb⟩
theorem no_diff {P : Prop} [Decidable P] {x : Int} (h : (decide P != (x == 0)) = true) (hp : P ↔ x = 0) : False := by
  by_cases q : P
  · have z := hp.mp q; simp [q, z] at h
  · have z : ¬ x = 0 := fun y => q (hp.mpr y)
    simp [q, z] at h
end Mine
end

section
open PySem PySem.W PyProof.Rows PySem.Calls PySem.Spec
set_option maxRecDepth 100000
set_option maxHeartbeats 1000000
set_option linter.unusedVariables false
namespace Mine
theorem pow_10_9 {prog : Program} {w : World} {A : Around} {E : Value → Shared → Prop} {s : Shared} {t u : Tok} {Q : Value → Shared → Prop} (h : Q (.int 1000000000 s.toks) { s with toks := s.toks + 1 }) : wpAny (model prog w) A (binaryOp .Pow (.int 10 t) (.int 9 u)) Q E s :=
  PyProof.Rows.pow_int_small (by decide) (by decide) (by decide) h
local macro_rules | `(tactic| k_room) => `(tactic| ((try simp only [depth_mark, depth_under_make, depth_under_kw, depth_in1, depth_deeper, depth_caller]); (try dsimp only [ktrTop]); omega))
local macro_rules | `(tactic| k_units) => `(tactic| (have hcL9 := cLine_is; (try simp only [units_in1, units_deeper, Around.mark_units, units_caller]); (try dsimp only [ktrTop]); omega))
local macro_rules | `(tactic| k_lt $h:ident) => `(tactic| (replace $h := allLt_of $h; simp only [AllLt_cons, AllLt_nil, allLt_app, and_true] at $h:ident))
local macro_rules | `(tactic| walk_at "binaryOp Pow int int") => `(tactic| (k_here; k_dflt (refine' pow_10_9 ?_)))
local macro_rules | `(tactic| walk_at "binaryOp Mod int int") => `(tactic| (k_here; k_dflt (refine' mod_emod ?a ?_; (case a => omega))))
local macro_rules | `(tactic| walk_at "call ref") => `(tactic| (k_here; (with_reducible show wpAny _ _ (call (Value.ref 44) [Value.int _ _]) _ _ _); k_dflt (refine' tz_spec ?k1 ?k2 ?k3 ?k4 ?k5 ?k6 ?k7 ?k8 ?k9 ?k10 ?_; (case k1 => k_asm); (case k2 => k_asm); (case k3 => k_asm); (case k4 => k_asm); (case k5 => k_asm); (case k6 => first | assumption | rfl); (case k7 => k_room); (case k8 => k_units); (case k9 => omega); (case k10 => omega)); intro D9 t9 u9 h9 tk9 F9 N9 l9; (try k_lt l9); (try dsimp only); (try k_sweep)))
local macro_rules | `(tactic| walk_at "call ref") => `(tactic| (k_here; (with_reducible show wpAny _ _ (call (Value.ref 37) [Value.int _ _]) _ _ _); k_dflt (refine' haab_spec ?k1 ?k2 ?k3 ?k4 ?k5 ?k6 ?k7 ?k8 ?k9 ?k10 ?_; (case k1 => k_asm); (case k2 => k_asm); (case k3 => k_asm); (case k4 => k_asm); (case k5 => k_asm); (case k6 => first | assumption | rfl); (case k7 => k_room); (case k8 => k_units); (case k9 => omega); (case k10 => omega)); intro D9 t9 u9 h9 tk9 F9 N9 l9; (try k_lt l9); (try dsimp only); (try k_sweep)))
local macro_rules | `(tactic| walk_at "call ref") => `(tactic| (k_here; (with_reducible show wpAny _ _ (call (Value.ref 79) [Value.ref _, Value.int _ _]) _ _ _); k_dflt (refine' lcell_spec ?l1 ?l2 ?l3 ?k1 ?k2 ?k3 ?k4 ?k5 ?k6 ?k7 ?k8 ?k9 ?k10 ?_; (case l1 => assumption); (case l2 => assumption); (case l3 => assumption); (case k1 => k_asm); (case k2 => k_asm); (case k3 => k_asm); (case k4 => k_asm); (case k5 => k_asm); (case k6 => first | assumption | rfl); (case k7 => k_room); (case k8 => k_units); (case k9 => omega); (case k10 => omega)); intro t9 h9 tk9 F9 N9; (try dsimp only); (try k_sweep)))
local macro_rules | `(tactic| walk_at "call ref") => `(tactic| (k_here; (with_reducible show wpAny _ _ (call (Value.ref 65) [Value.ref _, Value.int _ _]) _ _ _); k_dflt (refine' ntz_law ?S ?N ?hm ?tr ?k1 ?k2 ?k3 ?O ?G ?k5 ?k6 ?k7 ?k8 ?k9 ?k10 ?_; (case N => k_asm); (case S => repeat' (first | exact Spl.nil | exact Spl.app | apply Spl.cons)); (case hm => k_mem); (case tr => assumption); (case k1 => k_asm); (case k2 => k_asm); (case k3 => k_asm); (case O => repeat (first | assumption | exact Off.nil | refine Off.cons (by omega) ?_)); (case G => row_bare); (case k5 => k_asm); (case k6 => first | assumption | rfl); (case k7 => k_room); (case k8 => k_units); (case k9 => omega); (case k10 => omega)); intro t9 h9 gs9 d9 tk9 more9 F9 N9 tr9 G9; (simp only [List.cons_append, List.nil_append] at N9); (try dsimp only); (try k_sweep)))
local macro_rules | `(tactic| walk_at "call ref") => `(tactic| (k_here; (with_reducible show wpAny _ _ (call (Value.ref 86) [Value.ref _, Value.ref _, Value.int _ _]) _ _ _); k_dflt (refine' met_five ?S ?N ?hm ?hm2 ?tr ?tr2 ?k1 ?k2 ?k3 ?O ?G ?k5 ?k6 ?k7 ?k8 ?k9 ?k10 ?_ ?_; (case N => k_asm); (case S => repeat' (first | exact Spl.nil | exact Spl.app | apply Spl.cons)); (case hm => k_mem); (case hm2 => k_mem); (case tr => assumption); (case tr2 => assumption); (case k1 => k_asm); (case k2 => k_asm); (case k3 => k_asm); (case O => repeat (first | assumption | exact Off.nil | refine Off.cons (by omega) ?_)); (case G => row_bare); (case k5 => k_asm); (case k6 => first | assumption | rfl); (case k7 => k_room); (case k8 => k_units); (case k9 => omega); (case k10 => omega)); all_goals (intro t9 h9 gs9 d9 tk9 more9 more9' q91 F9 N9 tr9 tr9' G9; (simp only [List.cons_append, List.nil_append] at N9); (try dsimp only); (try k_sweep))))
local macro_rules | `(tactic| walk_at "call ref") => `(tactic| (k_here; (with_reducible show wpAny _ _ (call (Value.ref 86) [Value.ref _, Value.ref _, Value.int _ _]) _ _ _); k_dflt (refine' met_same ?S ?N ?hm ?hm2 ?tr ?tr2 ?k1 ?k2 ?k3 ?O ?G ?k5 ?k6 ?k7 ?k8 ?k9 ?k10 ?_; (case N => k_asm); (case S => repeat' (first | exact Spl.nil | exact Spl.app | apply Spl.cons)); (case hm => k_mem); (case hm2 => k_mem); (case tr => assumption); (case tr2 => assumption); (case k1 => k_asm); (case k2 => k_asm); (case k3 => k_asm); (case O => repeat (first | assumption | exact Off.nil | refine Off.cons (by omega) ?_)); (case G => row_bare); (case k5 => k_asm); (case k6 => first | assumption | rfl); (case k7 => k_room); (case k8 => k_units); (case k9 => omega); (case k10 => omega)); intro t9 h9 gs9 d9 tk9 more9 more9' F9 N9 tr9 tr9' G9; (simp only [List.cons_append, List.nil_append] at N9); (try dsimp only); (try k_sweep)))
local macro_rules | `(tactic| walk_at "compareOp Eq ref ref") => `(tactic| (k_here; (with_reducible show wpAny _ _ (compareOp CmpOp.Eq (Value.ref _) (Value.ref _)) _ _ _); k_dflt (first
  | (refine' eq_tz ?N ?a ?b ?u ?_; (case N => k_asm); (case a => k_mem); (case b => k_mem); (case u => k_units))
  | (refine' eq_haab ?N ?a ?b ?u ?_; (case N => k_asm); (case a => k_mem); (case b => k_mem); (case u => k_units)))))
local macro_rules | `(tactic| walk_at "compareOp NotEq ref ref") => `(tactic| (k_here; (with_reducible show wpAny _ _ (compareOp CmpOp.NotEq (Value.ref _) (Value.ref _)) _ _ _); k_dflt (first
  | (refine' ne_tz ?N ?a ?b ?u ?_; (case N => k_asm); (case a => k_mem); (case b => k_mem); (case u => k_units))
  | (refine' ne_haab ?N ?a ?b ?u ?_; (case N => k_asm); (case a => k_mem); (case b => k_mem); (case u => k_units)))))
theorem law_on {w : World} {loose : List Str} {mean : ExcName → Option Value} {mg mb : Str → Option Value} {h h' : Heap} {L la : Addr} {m : Str → Option Value} {xs : Array Value} {gs : Array GenState} (KX : (hd.heap_39 w.params).In h) (T : Top hd.view_39 loose mean mg mb h) (hL : h.IsList la xs) (F : Fr h L h' m) (hg : gs = #[]) {G : Prop}
    (k : ∀ ps qs h₀, TriplesOk ps.toList → TriplesOk qs.toList → Keep ((hd.heap_39 w.params).In h ∧ h.get? 53 = some (tabO #[]) ∧ h.get? 67 = some (tabO #[]) ∧ h₀ = hideAll h [53, 67]) → Below callerA h₀ [] h₀ → Fr h₀ L h' m → News h₀ L h' ([] ++ [(53, tabO ps), (67, tabO qs)]) → Top noProg (looseAll hd.view_39 loose) mean mg mb h₀ → (hd.heap_39 w.params).In h₀ → h₀.IsList la xs → AllBare gs → G) : G :=
  have t1 := tab53 KX T
  have t2 := tab67 KX T
  k #[] #[] (hideAll h [53, 67]) trivial trivial ⟨KX, t1, t2, rfl⟩ (below_caller _) (fr_hide F t1 t2).1 (fr_hide F t1 t2).2 (top_hide T t1 t2) (in_hide KX) (list_hide hL t1 t2) (AllBare.of_eq hg)
theorem T1 : PySem.Challenge.rw_ah0021_01.Holds := Mine.hd (by
  w_strict (lgec_go0; (all_goals try k_fold)
            rename (Mine.hd.heap_39 _).In _ => KX
            rename Top Mine.hd.view_39 _ _ _ _ _ => T
            rename IntsAre _ _ => hI
            rename Heap.IsList _ _ _ => hL
            rename Fr _ _ _ _ => F
            rename @Eq (Array GenState) _ _ => hg
            rename ¬ _ < _ => hc
            refine law_on KX T hL F hg ?_
            (rename News _ _ _ _ => zz; clear zz)
            (rename Below _ _ _ _ => zz; clear zz)
            (rename LGe.Mark => zz; clear zz)
            clear KX hL F hg T
            intro ps qs h₀ tr1 tr2 KX B F N T X hL G
            refine law_top ?_
            intro dp un hdp hun
            k_steps
            all_goals first
              | (exfalso; omega)
              | (exfalso; rename (_ != _) = true => hz; exact no_diff hz (by omega))
              | skip
            all_goals (try dsimp only)
            all_goals (refine' law_end ?K ?F ?S ?N ?G (fun _ => rfl) ?hp ?hb; (case K => assumption); (case F => assumption); (case N => assumption); (case S => repeat' (first | exact Spl.nil | exact Spl.app | apply Spl.cons)); (case G => row_bare); (case hp => first | rfl | wrow_post); (case hb => first | exact beq_self_eq_true _ | exact decide_eq_true (by omega)))))
end Mine
end

theorem PySem.Challenge.cw_ah0021_01_holds : PySem.Challenge.rw_ah0021_01.Holds := by
  exact Mine.T1

