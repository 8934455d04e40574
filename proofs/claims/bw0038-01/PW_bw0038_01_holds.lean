import PyProof.Rows.All
import Wide.All
import OpenK.AllK
import Wide.FinOn
import PySem.Challenge.RW_bw0038_01

set_option Elab.async false
set_option linter.unusedSimpArgs false
set_option linter.unusedVariables false

namespace Mine
def powZ (n p : Int) (e : Nat) : Int := (n ^ e) % p

theorem fdiv2 (e : Nat) : Int.fdiv (e : Int) 2 = ((e / 2 : Nat) : Int) := by
  rw [Int.fdiv_eq_ediv_of_nonneg _ (by decide)]; omega
theorem fdiv2_nn (e : Nat) : 0 ≤ Int.fdiv (e : Int) 2 := by rw [fdiv2]; omega
theorem fdiv2_nat (e : Nat) : (Int.fdiv (e : Int) 2).toNat = e / 2 := by rw [fdiv2]; omega
theorem fmodP {a p : Int} (h : 2 < p) : Int.fmod a p = a % p := Int.fmod_eq_emod_of_nonneg _ (by omega)
theorem fmod_nn {a p : Int} (h : 2 < p) : 0 ≤ Int.fmod a p := by rw [fmodP h]; exact Int.emod_nonneg _ (by omega)
theorem fmod_lt {a p : Int} (h : 2 < p) : Int.fmod a p < p := by rw [fmodP h]; exact Int.emod_lt_of_pos _ (by omega)
theorem pow_emodZ (a p : Int) : ∀ k : Nat, (a % p) ^ k % p = a ^ k % p
  | 0 => by simp
  | k + 1 => by rw [Int.pow_succ, Int.pow_succ, Int.mul_emod, pow_emodZ a p k, Int.emod_emod_of_dvd _ (Int.dvd_refl p), ← Int.mul_emod]
theorem sq_pow (n : Int) : ∀ k : Nat, (n * n) ^ k = n ^ (2 * k)
  | 0 => by simp
  | k + 1 => by rw [Int.pow_succ, sq_pow n k, Nat.mul_succ, Int.pow_succ, Int.pow_succ, Int.mul_assoc]
theorem powZ_nn {n p : Int} {e : Nat} (h : 2 < p) : 0 ≤ powZ n p e := Int.emod_nonneg _ (by omega)
theorem powZ_lt {n p : Int} {e : Nat} (h : 2 < p) : powZ n p e < p := Int.emod_lt_of_pos _ (by omega)
theorem pz0 {n p : Int} {e : Nat} (h : 2 < p) (he : (e : Int) = 0) : Int.fmod 1 p = powZ n p e := by
  have : e = 0 := by omega
  subst this
  rw [fmodP h]; simp [powZ]
theorem pz1 {n p : Int} {e : Nat} (h : 2 < p) (he : (e : Int) = 1) : Int.fmod n p = powZ n p e := by
  have : e = 1 := by omega
  subst this
  rw [fmodP h]
  unfold powZ
  rw [Int.pow_succ, Int.pow_zero, Int.one_mul]
theorem pzE {n p : Int} {e : Nat} (h : 2 < p) (he : Int.fmod (e : Int) 2 = 0) : powZ (Int.fmod (Int.fmod (n * n) p) p) p (Int.fdiv (e : Int) 2).toNat = powZ n p e := by
  rw [Int.fmod_eq_emod_of_nonneg _ (by decide)] at he
  rw [fmodP h, fmodP h, Int.emod_emod_of_dvd _ (Int.dvd_refl p), fdiv2_nat]
  unfold powZ
  rw [pow_emodZ, sq_pow]
  congr 2
  omega
theorem pzO {n p : Int} {e : Nat} (h : 2 < p) (he : Int.fmod (e : Int) 2 ≠ 0) : Int.fmod (Int.fmod (powZ (Int.fmod (Int.fmod (n * n) p) p) p (Int.fdiv (e : Int) 2).toNat * n) p) p = powZ n p e := by
  rw [Int.fmod_eq_emod_of_nonneg _ (by decide)] at he
  rw [fmodP h (a := n * n), fmodP h (a := n * n % p), Int.emod_emod_of_dvd _ (Int.dvd_refl p), fdiv2_nat, fmodP h, fmodP h, Int.emod_emod_of_dvd _ (Int.dvd_refl p)]
  unfold powZ
  rw [pow_emodZ, sq_pow, Int.mul_emod, Int.emod_emod_of_dvd _ (Int.dvd_refl p), ← Int.mul_emod, ← Int.pow_succ]
  congr 2
  omega
end Mine

namespace Mine
def after (g : Int → Int → Int → Int) (m n p : Int) : Int := g (if n % 4 = 3 ∧ p % 4 = 3 then 0 - m else m) (p % n) n
noncomputable def inn (g : Int → Int → Int → Int) : Nat → Int → Int → Int → Int
  | 0, m, n, p => after g m n p
  | k + 1, m, n, p => if n % 2 = 0 then inn g k (if p % 8 = 3 ∨ p % 8 = 5 then 0 - m else m) (n / 2) p else after g m n p
noncomputable def turn : Nat → Int → Int → Int → Int
  | 0, _, _, _ => 7
  | f + 1, m, n, p => if 0 < n then inn (turn f) n.toNat m n p else if p = 1 then m else 0
/-- what _law_turned hands back -/
noncomputable def turnedZ (number p : Int) : Int := turn 1000 1 (number % p) p

def OutI (R m n p : Int) : Prop := (0 ≤ n ∧ n < 1000 ∧ 0 < p ∧ p < 1000 ∧ (m = 1 ∨ m = -1)) ∧ ∃ f, n.toNat < f ∧ turn f m n p = R
def InI (R n0 m n p : Int) : Prop := (0 < n ∧ n ≤ n0 ∧ n0 < 1000 ∧ 0 < p ∧ p < 1000 ∧ (m = 1 ∨ m = -1)) ∧ ∃ f k, n0.toNat ≤ f ∧ n.toNat ≤ k ∧ inn (turn f) k m n p = R

theorem em2 (a : Int) {b : Int} (h : 0 < b) : Int.fmod a b = a % b := Int.fmod_eq_emod_of_nonneg _ (by omega)
theorem ed2 (a : Int) {b : Int} (h : 0 < b) : Int.fdiv a b = a / b := Int.fdiv_eq_ediv_of_nonneg _ (by omega)

theorem out_start {nn pp : Int} (h : 2 < pp) (h2 : pp < 1000) : OutI (turnedZ nn pp) 1 (Int.fmod nn pp) pp := by
  rw [em2 _ (by omega)]
  have h3 := Int.emod_nonneg nn (show pp ≠ 0 by omega)
  have h4 := Int.emod_lt_of_pos nn (show 0 < pp by omega)
  exact ⟨by omega, 1000, by omega, rfl⟩
theorem out_in {R m n p : Int} (h : OutI R m n p) (hn : 0 < n) : InI R n m n p := by
  obtain ⟨hb, f, hf, e⟩ := h
  refine ⟨by omega, f - 1, n.toNat, by omega, by omega, ?_⟩
  obtain ⟨f', rfl⟩ : ∃ f', f = f' + 1 := ⟨f - 1, by omega⟩
  rw [turn, if_pos hn] at e
  exact e
theorem out_end {R m n p : Int} (h : OutI R m n p) (hn : ¬ 0 < n) : (if p = 1 then m else 0) = R := by
  obtain ⟨hb, f, hf, e⟩ := h
  obtain ⟨f', rfl⟩ : ∃ f', f = f' + 1 := ⟨f - 1, by omega⟩
  rw [turn, if_neg hn] at e
  exact e
theorem out_end1 {R m n p : Int} (h : OutI R m n p) (hn : n ≤ 0) (hp : p = 1) : m = R := by
  have := out_end h (by omega)
  rwa [if_pos hp] at this
theorem out_end0 {R m n p : Int} (h : OutI R m n p) (hn : n ≤ 0) (hp : p ≠ 1) : 0 = R := by
  have := out_end h (by omega)
  rwa [if_neg hp] at this
theorem in_flip {R n0 m n p : Int} (h : InI R n0 m n p) (hn : Int.fmod n 2 = 0) (hp : Int.fmod p 8 = 3 ∨ Int.fmod p 8 = 5) : InI R n0 (0 - m) (Int.fdiv n 2) p := by
  rw [em2 _ (by decide)] at hn hp
  rw [ed2 _ (by decide)]
  obtain ⟨hb, f, k, hf, hk, e⟩ := h
  obtain ⟨k', rfl⟩ : ∃ k', k = k' + 1 := ⟨k - 1, by omega⟩
  rw [inn, if_pos hn, if_pos hp] at e
  exact ⟨by omega, f, k', hf, by omega, e⟩
theorem in_keep {R n0 m n p : Int} (h : InI R n0 m n p) (hn : Int.fmod n 2 = 0) (hp : ¬ (Int.fmod p 8 = 3 ∨ Int.fmod p 8 = 5)) : InI R n0 m (Int.fdiv n 2) p := by
  rw [em2 _ (by decide)] at hn hp
  rw [ed2 _ (by decide)]
  obtain ⟨hb, f, k, hf, hk, e⟩ := h
  obtain ⟨k', rfl⟩ : ∃ k', k = k' + 1 := ⟨k - 1, by omega⟩
  rw [inn, if_pos hn, if_neg hp] at e
  exact ⟨by omega, f, k', hf, by omega, e⟩
theorem in_after {R n0 m n p : Int} (h : InI R n0 m n p) (hn : ¬ Int.fmod n 2 = 0) : ∃ f, n0.toNat ≤ f ∧ after (turn f) m n p = R := by
  rw [em2 _ (by decide)] at hn
  obtain ⟨hb, f, k, hf, hk, e⟩ := h
  refine ⟨f, hf, ?_⟩
  cases k with
  | zero => exact e
  | succ k => rw [inn, if_neg hn] at e; exact e
theorem in_out1 {R n0 m n p : Int} (h : InI R n0 m n p) (hn : ¬ Int.fmod n 2 = 0) (h3 : Int.fmod n 4 = 3) (h4 : Int.fmod p 4 = 3) : OutI R (0 - m) (Int.fmod p n) n := by
  obtain ⟨f, hf, e⟩ := in_after h hn
  obtain ⟨hb, -⟩ := h
  rw [em2 _ (by decide)] at h3 h4
  rw [em2 _ (by omega)]
  have h5 := Int.emod_nonneg p (show n ≠ 0 by omega)
  have h6 := Int.emod_lt_of_pos p (show 0 < n by omega)
  unfold after at e
  rw [if_pos ⟨h3, h4⟩] at e
  exact ⟨by omega, f, by omega, e⟩
theorem in_out2 {R n0 m n p : Int} (h : InI R n0 m n p) (hn : ¬ Int.fmod n 2 = 0) (h34 : ¬ (Int.fmod n 4 = 3 ∧ Int.fmod p 4 = 3)) : OutI R m (Int.fmod p n) n := by
  obtain ⟨f, hf, e⟩ := in_after h hn
  obtain ⟨hb, -⟩ := h
  rw [em2 _ (by decide), em2 _ (by decide)] at h34
  rw [em2 _ (by omega)]
  have h5 := Int.emod_nonneg p (show n ≠ 0 by omega)
  have h6 := Int.emod_lt_of_pos p (show 0 < n by omega)
  unfold after at e
  rw [if_neg h34] at e
  exact ⟨by omega, f, by omega, e⟩
theorem in_less {R n0 m n p : Int} (h : InI R n0 m n p) : (Int.fmod p n).toNat < n0.toNat := by
  obtain ⟨hb, -⟩ := h
  rw [em2 _ (by omega)]
  have h5 := Int.emod_nonneg p (show n ≠ 0 by omega)
  have h6 := Int.emod_lt_of_pos p (show 0 < n by omega)
  omega
theorem half_less {n : Int} (h : 0 < n) : (Int.fdiv n 2).toNat < n.toNat := by
  rw [ed2 _ (by decide)]; omega
theorem any35 {x : Int} (h : (List.any [3, 5] fun y => y == x) = true) : x = 3 ∨ x = 5 := by
  simp only [List.any_cons, List.any_nil, Bool.or_false, Bool.or_eq_true, beq_iff_eq] at h
  omega
theorem any35n {x : Int} (h : (List.any [3, 5] fun y => y == x) = false) : ¬ (x = 3 ∨ x = 5) := by
  simp only [List.any_cons, List.any_nil, Bool.or_false, Bool.or_eq_false_iff, beq_eq_false_iff_ne] at h
  omega
theorem pairO {R m n p : Int} (h : OutI R m n p) : (0 ≤ n ∧ n < 1000 ∧ 0 < p ∧ p < 1000 ∧ (m = 1 ∨ m = -1)) ∧ OutI R m n p := ⟨h.1, h⟩
theorem pairI {R n0 m n p : Int} (h : InI R n0 m n p) : (0 < n ∧ n < 1000 ∧ 0 < p ∧ p < 1000 ∧ (m = 1 ∨ m = -1)) ∧ InI R n0 m n p := ⟨by have := h.1; omega, h⟩
end Mine

open PySem PySem.W PyProof.Rows PySem.Calls

namespace Mine
set_option maxRecDepth 100000 in
set_option maxHeartbeats 8000000 in
open_top hd for PySem.Challenge.rw_bw0038_01
end Mine

namespace Mine

/-- the module's loose names -/
noncomputable abbrev looseN : List Str := looseW hd.view_39 [Str.ofString "FQ", Str.ofString "FQ_field_elements", Str.ofString "FQ_optimized_field_elements"]
noncomputable abbrev rowP : Program := RowW.prog (OpenRow.toRowW (OpenLaw.row PySem.Challenge.rw_bw0038_01))

abbrev fqDict (w : World) (p n : Int) (k1 k2 t1 t2 : Tok) : Obj :=
  dictOf [⟨PyData.keyHash w.params (Str.ofString "field_modulus"), .str (Str.ofString "field_modulus") k1, .int p t1⟩,
    ⟨PyData.keyHash w.params (Str.ofString "n"), .str (Str.ofString "n") k2, .int n t2⟩] 2

/-- an element of the field stands in the ledger -/
def FQAt (w : World) (C : Addr) (news : List (Addr × Obj)) (x : Addr) (p n : Int) : Prop :=
  ∃ dx k1 k2 t1 t2, (x, instObj C dx) ∈ news ∧ (dx, fqDict w p n k1 k2 t1 t2) ∈ news

abbrev PowBack (w : World) (C : Addr) (h₀ : Heap) (L : Addr) (m : Str → Option Value) (news : List (Addr × Obj)) (s : Shared) (Q : Value → Shared → Prop) (p v : Int) : Prop :=
  ∀ (y : Addr) (nw : List (Addr × Obj)) (h' : Heap) (tk' : Nat), Fr h₀ L h' m → News h₀ L h' nw → (∀ q ∈ news, q ∈ nw) → FQAt w C nw y p v → Q (.ref y) { s with heap := h', toks := tk' }

def PowCt (w : World) (mean : ExcName → Option Value) (mg mb : Str → Option Value) (C f : Addr) (N : Nat) : Prop :=
  ∀ (e : Nat) (te : Tok) (n p : Int) (x : Addr), e < N → 2 < p → p < 1000 → 0 ≤ n → n < p →
  ∀ (dp un : Nat) (gd : Option (List Code)) (cn : Str) (cs : Scope) (a : Addr) (ccd : Value) (cl : List (Str × Addr)) (outer : List Env) (A₀ : Around) (base h₀ : Heap) (L : Addr) (m : Str → Option Value) (news : List (Addr × Obj)) (s : Shared) (Q E : Value → Shared → Prop),
    Below A₀ base outer h₀ → Fr h₀ L s.heap m → (hd.heap_39 w.params).In h₀ → News h₀ L s.heap news → Top hd.view_39 looseN mean mg mb h₀ → cs.kind = .function →
    FQAt w C news x p n → dp + e + 10 < recursionLimit → un + 8 * (e + 10) < cLine → PowBack w C h₀ L m news s Q p (powZ n p e) →
    wpAny (model rowP w) (ktrTop dp un gd cn cs L a ccd cl outer) (call (.ref f) [.ref x, .int (e : Int) te]) Q E s

theorem pow_use {w : World} {mean : ExcName → Option Value} {mg mb : Str → Option Value} {C f : Addr} {N : Nat} (IH : PowCt w mean mg mb C f N)
    {e' : Int} {te : Tok} {n p : Int} {x : Addr} {dp un : Nat} {gd : Option (List Code)} {cn : Str} {cs : Scope} {a : Addr} {ccd : Value} {cl : List (Str × Addr)} {outer : List Env} {A₀ : Around} {base h₀ : Heap} {L : Addr} {m : Str → Option Value} {news : List (Addr × Obj)} {s : Shared} {Q E : Value → Shared → Prop}
    (B : Below A₀ base outer h₀) (F : Fr h₀ L s.heap m) (X : (hd.heap_39 w.params).In h₀) (Nw : News h₀ L s.heap news) (T : Top hd.view_39 looseN mean mg mb h₀) (hk : cs.kind = .function)
    (hq : FQAt w C news x p n) (h0 : 0 ≤ e') (hN : e'.toNat < N) (hp : 2 < p) (hp2 : p < 1000) (hn : 0 ≤ n) (hn2 : n < p) (hdp : dp + e'.toNat + 10 < recursionLimit) (hun : un + 8 * (e'.toNat + 10) < cLine)
    (ret : PowBack w C h₀ L m news s Q p (powZ n p e'.toNat)) :
    wpAny (model rowP w) (ktrTop dp un gd cn cs L a ccd cl outer) (call (.ref f) [.ref x, .int e' te]) Q E s := by
  have h := IH e'.toNat te n p x hN hp hp2 hn hn2 dp un gd cn cs a ccd cl outer A₀ base h₀ L m news s Q E B F X Nw T hk hq hdp hun ret
  rwa [Int.toNat_of_nonneg h0] at h

theorem FQAt.eq {w : World} {C : Addr} {news : List (Addr × Obj)} {x : Addr} {p n n' : Int} (h : FQAt w C news x p n) (e : n = n') : FQAt w C news x p n' := e ▸ h

/-- lays the written part at the walk's hand -/
theorem laid (P : Params) : (PySem.Challenge.rw_bw0038_01 = PySem.Challenge.rw_bw0038_01) ∧ (hd.heap_39 P = hd.heap_39 P) := ⟨rfl, rfl⟩

end Mine

namespace Mine
local macro_rules | `(tactic| k_room) => `(tactic| ((try dsimp only [ktrTop]); (try simp only [depth_under_make, depth_under_kw, depth_in1, depth_deeper, depth_caller, recursionLimit] at *); (try dsimp only [ktrTop] at *); omega))
local macro_rules | `(tactic| walk_at "call ref") => `(tactic| (k_here; k_extra "call 0"))
set_option maxRecDepth 100000 in
set_option maxHeartbeats 8000000 in
theorem pow_step1 (w : World) (mean : ExcName → Option Value) (mg mb : Str → Option Value) (N : Nat) (IH : PowCt w mean mg mb 171 105 N) : PowCt w mean mg mb 171 105 (N + 1) := by
  intro e te n p x heN hp1 hp2 hn1 hn2 dp un gd cn cs a ccd cl outer A₀ base h₀ L m news s Q E B F X Nw T hk hq hdp hun ret
  have kf : (PySem.Challenge.rw_bw0038_01 = PySem.Challenge.rw_bw0038_01) ∧ (hd.heap_39 w.params = hd.heap_39 w.params) := by
    k_fill
    exact laid _
  clear kf
  obtain ⟨dx, k1, k2, t1, t2, hx, hdx⟩ := hq
  w_top off
  k_with_none
  k_with "call 0" => k_dflt (
    refine' pow_use IH ?k1 ?k2 ?k3 ?k4 ?k5 ?kK ?kq ?h0 ?hN ?hp ?hp2 ?hn ?hn2 ?kd ?ku ?_
    (case k1 => k_asm)
    (case k2 => k_asm)
    (case k3 => k_asm)
    (case k4 => k_asm)
    (case k5 => k_asm)
    (case kK => exact rfl)
    (case kq => exact ⟨_, _, _, _, _, by k_mem, by k_mem⟩)
    (case h0 => exact fdiv2_nn e)
    (case hN => rw [fdiv2_nat]; omega)
    (case hp => assumption)
    (case hp2 => assumption)
    (case hn => exact fmod_nn hp1)
    (case hn2 => exact fmod_lt hp1)
    (case kd => rw [fdiv2_nat]; dsimp only [ktrTop]; omega)
    (case ku => rw [fdiv2_nat]; dsimp only [ktrTop]; omega)
    intro y9 nw9 h9 tk9 F9 N9 sub9 q9
    have hx9 := sub9 _ (List.Mem.tail _ (List.Mem.tail _ hx))
    have hdx9 := sub9 _ (List.Mem.tail _ (List.Mem.tail _ hdx))
    have hs9 : ∀ q ∈ news, q ∈ nw9 := fun q hq => sub9 _ (List.Mem.tail _ (List.Mem.tail _ hq))
    obtain ⟨dx9, k19, k29, t19, t29, hy9, hdy9⟩ := q9
    (try dsimp only [PySem.W.CmpBack])
    (try k_fold))
  refine wpAny_call ?_
  k_dflt cell_enter
  k_steps
  all_goals k_with_none
  · exact ret _ _ _ _ (by k_asm) (by k_asm) (fun q hq => List.Mem.tail _ (List.Mem.tail _ hq)) (FQAt.eq ⟨_, _, _, _, _, by k_mem, by k_mem⟩ (pz0 hp1 (by assumption)))
  · exact ret _ _ _ _ (by k_asm) (by k_asm) (fun q hq => List.Mem.tail _ (List.Mem.tail _ hq)) (FQAt.eq ⟨_, _, _, _, _, by k_mem, by k_mem⟩ (pz1 hp1 (by assumption)))
  · exact ret _ _ _ _ (by k_asm) (by k_asm) hs9 (FQAt.eq ⟨_, _, _, _, _, by k_mem, by k_mem⟩ (pzE hp1 (by assumption)))
  · exact ret _ _ _ _ (by k_asm) (by k_asm) (fun q hq => List.Mem.tail _ (List.Mem.tail _ (hs9 q hq))) (FQAt.eq ⟨_, _, _, _, _, by k_mem, by k_mem⟩ (pzO hp1 (by assumption)))
end Mine

namespace Mine
local macro_rules | `(tactic| k_room) => `(tactic| ((try dsimp only [ktrTop]); (try simp only [depth_under_make, depth_under_kw, depth_in1, depth_deeper, depth_caller, recursionLimit] at *); (try dsimp only [ktrTop] at *); omega))
local macro_rules | `(tactic| walk_at "call ref") => `(tactic| (k_here; k_extra "call 0"))
set_option maxRecDepth 100000 in
set_option maxHeartbeats 8000000 in
theorem pow_step2 (w : World) (mean : ExcName → Option Value) (mg mb : Str → Option Value) (N : Nat) (IH : PowCt w mean mg mb 333 259 N) : PowCt w mean mg mb 333 259 (N + 1) := by
  intro e te n p x heN hp1 hp2 hn1 hn2 dp un gd cn cs a ccd cl outer A₀ base h₀ L m news s Q E B F X Nw T hk hq hdp hun ret
  have kf : (PySem.Challenge.rw_bw0038_01 = PySem.Challenge.rw_bw0038_01) ∧ (hd.heap_39 w.params = hd.heap_39 w.params) := by
    k_fill
    exact laid _
  clear kf
  obtain ⟨dx, k1, k2, t1, t2, hx, hdx⟩ := hq
  w_top off
  k_with_none
  k_with "call 0" => k_dflt (
    refine' pow_use IH ?k1 ?k2 ?k3 ?k4 ?k5 ?kK ?kq ?h0 ?hN ?hp ?hp2 ?hn ?hn2 ?kd ?ku ?_
    (case k1 => k_asm)
    (case k2 => k_asm)
    (case k3 => k_asm)
    (case k4 => k_asm)
    (case k5 => k_asm)
    (case kK => exact rfl)
    (case kq => exact ⟨_, _, _, _, _, by k_mem, by k_mem⟩)
    (case h0 => exact fdiv2_nn e)
    (case hN => rw [fdiv2_nat]; omega)
    (case hp => assumption)
    (case hp2 => assumption)
    (case hn => exact fmod_nn hp1)
    (case hn2 => exact fmod_lt hp1)
    (case kd => rw [fdiv2_nat]; dsimp only [ktrTop]; omega)
    (case ku => rw [fdiv2_nat]; dsimp only [ktrTop]; omega)
    intro y9 nw9 h9 tk9 F9 N9 sub9 q9
    have hx9 := sub9 _ (List.Mem.tail _ (List.Mem.tail _ hx))
    have hdx9 := sub9 _ (List.Mem.tail _ (List.Mem.tail _ hdx))
    have hs9 : ∀ q ∈ news, q ∈ nw9 := fun q hq => sub9 _ (List.Mem.tail _ (List.Mem.tail _ hq))
    obtain ⟨dx9, k19, k29, t19, t29, hy9, hdy9⟩ := q9
    (try dsimp only [PySem.W.CmpBack])
    (try k_fold))
  refine wpAny_call ?_
  k_dflt cell_enter
  k_steps
  all_goals k_with_none
  · exact ret _ _ _ _ (by k_asm) (by k_asm) (fun q hq => List.Mem.tail _ (List.Mem.tail _ hq)) (FQAt.eq ⟨_, _, _, _, _, by k_mem, by k_mem⟩ (pz0 hp1 (by assumption)))
  · exact ret _ _ _ _ (by k_asm) (by k_asm) (fun q hq => List.Mem.tail _ (List.Mem.tail _ hq)) (FQAt.eq ⟨_, _, _, _, _, by k_mem, by k_mem⟩ (pz1 hp1 (by assumption)))
  · exact ret _ _ _ _ (by k_asm) (by k_asm) hs9 (FQAt.eq ⟨_, _, _, _, _, by k_mem, by k_mem⟩ (pzE hp1 (by assumption)))
  · exact ret _ _ _ _ (by k_asm) (by k_asm) (fun q hq => List.Mem.tail _ (List.Mem.tail _ (hs9 q hq))) (FQAt.eq ⟨_, _, _, _, _, by k_mem, by k_mem⟩ (pzO hp1 (by assumption)))
theorem powCt0 (w : World) (mean : ExcName → Option Value) (mg mb : Str → Option Value) (C f : Addr) : PowCt w mean mg mb C f 0 := fun _ _ _ _ _ h => absurd h (Nat.not_lt_zero _)
theorem powCt1 (w : World) (mean : ExcName → Option Value) (mg mb : Str → Option Value) : ∀ N, PowCt w mean mg mb 171 105 N
  | 0 => powCt0 w mean mg mb _ _
  | N + 1 => pow_step1 w mean mg mb N (powCt1 w mean mg mb N)
theorem powCt2 (w : World) (mean : ExcName → Option Value) (mg mb : Str → Option Value) : ∀ N, PowCt w mean mg mb 333 259 N
  | 0 => powCt0 w mean mg mb _ _
  | N + 1 => pow_step2 w mean mg mb N (powCt2 w mean mg mb N)
end Mine

namespace Mine
def MadeCt (w : World) (mean : ExcName → Option Value) (mg mb : Str → Option Value) : Prop :=
  ∀ (nn pp kk : Int) (t1 t2 t3 : Tok), 2 < pp → pp < 1000 →
  ∀ (dp un : Nat) (gd : Option (List Code)) (cn : Str) (cs : Scope) (a : Addr) (ccd : Value) (cl : List (Str × Addr)) (outer : List Env) (A₀ : Around) (base h₀ : Heap) (L : Addr) (m : Str → Option Value) (news : List (Addr × Obj)) (s : Shared) (Q E : Value → Shared → Prop),
    Below A₀ base outer h₀ → Fr h₀ L s.heap m → (hd.heap_39 w.params).In h₀ → News h₀ L s.heap news → Top hd.view_39 looseN mean mg mb h₀ → cs.kind = .function →
    dp + 6 < recursionLimit → un + 30 < cLine → (kk = 0 → PowBack w 171 h₀ L m news s Q pp (nn % pp)) → (kk ≠ 0 → PowBack w 333 h₀ L m news s Q pp (nn % pp)) →
    wpAny (model rowP w) (ktrTop dp un gd cn cs L a ccd cl outer) (call (.ref 365) [.int nn t1, .int pp t2, .int kk t3]) Q E s

local macro_rules | `(tactic| k_room) => `(tactic| ((try dsimp only [ktrTop]); (try simp only [depth_under_make, depth_under_kw, depth_in1, depth_deeper, depth_caller, recursionLimit] at *); (try dsimp only [ktrTop] at *); omega))
set_option maxRecDepth 100000 in
set_option maxHeartbeats 8000000 in
theorem madeCt (w : World) (mean : ExcName → Option Value) (mg mb : Str → Option Value) : MadeCt w mean mg mb := by
  intro nn pp kk t1 t2 t3 hp1 hp2 dp un gd cn cs a ccd cl outer A₀ base h₀ L m news s Q E B F X Nw T hk hdp hun ret1 ret2
  have kf : (PySem.Challenge.rw_bw0038_01 = PySem.Challenge.rw_bw0038_01) ∧ (hd.heap_39 w.params = hd.heap_39 w.params) := by
    k_fill
    exact laid _
  clear kf
  w_top off
  k_with_none
  refine wpAny_call ?_
  k_dflt cell_enter
  k_steps
  · exact ret1 (by assumption) _ _ _ _ (by k_asm) (by k_asm) (fun q hq => List.Mem.tail _ (List.Mem.tail _ hq)) (FQAt.eq ⟨_, _, _, _, _, by k_mem, by k_mem⟩ (fmodP hp1))
  · exact ret2 (by assumption) _ _ _ _ (by k_asm) (by k_asm) (fun q hq => List.Mem.tail _ (List.Mem.tail _ hq)) (FQAt.eq ⟨_, _, _, _, _, by k_mem, by k_mem⟩ (fmodP hp1))
end Mine

namespace Mine
theorem made_use {w : World} {mean : ExcName → Option Value} {mg mb : Str → Option Value}
    {nn pp kk : Int} {t1 t2 t3 : Tok} {dp un : Nat} {gd : Option (List Code)} {cn : Str} {cs : Scope} {a : Addr} {ccd : Value} {cl : List (Str × Addr)} {outer : List Env} {A₀ : Around} {base h₀ : Heap} {L : Addr} {m : Str → Option Value} {news : List (Addr × Obj)} {s : Shared} {Q E : Value → Shared → Prop}
    (B : Below A₀ base outer h₀) (F : Fr h₀ L s.heap m) (X : (hd.heap_39 w.params).In h₀) (Nw : News h₀ L s.heap news) (T : Top hd.view_39 looseN mean mg mb h₀) (hk : cs.kind = .function)
    (hp : 2 < pp) (hp2 : pp < 1000) (hdp : dp + 6 < recursionLimit) (hun : un + 30 < cLine)
    (ret1 : kk = 0 → PowBack w 171 h₀ L m news s Q pp (nn % pp)) (ret2 : kk ≠ 0 → PowBack w 333 h₀ L m news s Q pp (nn % pp)) :
    wpAny (model rowP w) (ktrTop dp un gd cn cs L a ccd cl outer) (call (.ref 365) [.int nn t1, .int pp t2, .int kk t3]) Q E s :=
  madeCt w mean mg mb nn pp kk t1 t2 t3 hp hp2 dp un gd cn cs a ccd cl outer A₀ base h₀ L m news s Q E B F X Nw T hk hdp hun ret1 ret2

def markZ (number p : Int) : Int :=
  let found := powZ (number % p) p ((p - 1) / 2).toNat
  if found = 0 then 0 else if found = 1 then 1 else if found = p - 1 then -1 else 2

def MarkCt (w : World) (mean : ExcName → Option Value) (mg mb : Str → Option Value) : Prop :=
  ∀ (nn pp kk : Int) (t1 t2 t3 : Tok), 2 < pp → pp < 1000 →
  ∀ (dp un : Nat) (gd : Option (List Code)) (cn : Str) (cs : Scope) (a : Addr) (ccd : Value) (cl : List (Str × Addr)) (outer : List Env) (A₀ : Around) (base h₀ : Heap) (L : Addr) (m : Str → Option Value) (news : List (Addr × Obj)) (s : Shared) (Q E : Value → Shared → Prop),
    Below A₀ base outer h₀ → Fr h₀ L s.heap m → (hd.heap_39 w.params).In h₀ → News h₀ L s.heap news → Top hd.view_39 looseN mean mg mb h₀ → cs.kind = .function →
    dp + 530 < recursionLimit → un + 4500 < cLine → CbRet h₀ L m news s Q (fun t => .int (markZ nn pp) t) →
    wpAny (model rowP w) (ktrTop dp un gd cn cs L a ccd cl outer) (call (.ref 372) [.int nn t1, .int pp t2, .int kk t3]) Q E s

local macro_rules | `(tactic| k_room) => `(tactic| ((try dsimp only [ktrTop]); (try simp only [depth_under_make, depth_under_kw, depth_in1, depth_deeper, depth_caller, recursionLimit] at *); (try dsimp only [ktrTop] at *); omega))
local macro_rules | `(tactic| walk_at "call ref") => `(tactic| (k_here; k_extra "call 0"))
theorem nodup3 {p : Int} (h : 2 < p) : ([0, 1, p - 1] : List Int).Nodup := by
  simp only [List.nodup_cons, List.mem_cons, List.not_mem_nil, or_false, not_or, not_false_eq_true, List.nodup_nil, and_true]
  omega
local macro_rules | `(tactic| walk_at "eval Dict") => `(tactic| (k_here; k_dflt (refine' kdn_eval (knd := PySem.intKind _ _) ?F ?N ?b ?a ?l ?e ?n ?_; (case F => k_asm); (case N => k_asm); (case b => exact Top.nolimit (by k_asm)); (case a => rfl); (case l => rfl); (case e => exact List.cons_ne_nil _ _); (case n => exact Nat.le_of_ble_eq_true rfl)); intro d' h' o' F' N' l1 lo' hd'; (try k_lt l1)))
local macro_rules | `(tactic| walk_at "KdnMade") => `(tactic| (k_here; k_dflt (refine' kdn_made_intF ?F ?N ?U ?d ?k ?n ?v ?_; (case F => k_asm); (case N => k_asm); (case U => k_updF); (case d => k_asm); (case k => rfl); (case n => exact nodup3 (by assumption)); (case v => rfl); intro h' o' F' N' hd' hf'); (try dsimp only at N')))
theorem half_eq {p : Int} : Int.fdiv (p - 1) 2 = (p - 1) / 2 := Int.fdiv_eq_ediv_of_nonneg _ (by decide)
theorem mark0 {n p : Int} (h : powZ (n % p) p (Int.fdiv (p - 1) 2).toNat = 0) : (0 : Int) = markZ n p := by
  rw [half_eq] at h; unfold markZ; dsimp only; rw [if_pos h]
theorem mark1 {n p : Int} (h0 : ¬ powZ (n % p) p (Int.fdiv (p - 1) 2).toNat = 0) (h : powZ (n % p) p (Int.fdiv (p - 1) 2).toNat = 1) : (1 : Int) = markZ n p := by
  rw [half_eq] at h h0; unfold markZ; dsimp only; rw [if_neg h0, if_pos h]
theorem mark2 {n p : Int} (h0 : ¬ powZ (n % p) p (Int.fdiv (p - 1) 2).toNat = 0) (h1 : ¬ powZ (n % p) p (Int.fdiv (p - 1) 2).toNat = 1) (h : powZ (n % p) p (Int.fdiv (p - 1) 2).toNat = p - 1) : (-1 : Int) = markZ n p := by
  rw [half_eq] at h h0 h1; unfold markZ; dsimp only; rw [if_neg h0, if_neg h1, if_pos h]
theorem mark3 {n p : Int} (h0 : ¬ powZ (n % p) p (Int.fdiv (p - 1) 2).toNat = 0) (h1 : ¬ powZ (n % p) p (Int.fdiv (p - 1) 2).toNat = 1) (h : ¬ powZ (n % p) p (Int.fdiv (p - 1) 2).toNat = p - 1) : (2 : Int) = markZ n p := by
  rw [half_eq] at h h0 h1; unfold markZ; dsimp only; rw [if_neg h0, if_neg h1, if_neg h]
theorem half_nn {p : Int} (h : 2 < p) : 0 ≤ Int.fdiv (p - 1) 2 := by rw [Int.fdiv_eq_ediv_of_nonneg _ (by decide)]; omega
theorem half_lt {p : Int} (h : 2 < p) (h2 : p < 1000) : (Int.fdiv (p - 1) 2).toNat < 500 := by rw [Int.fdiv_eq_ediv_of_nonneg _ (by decide)]; omega
set_option maxRecDepth 100000 in
set_option maxHeartbeats 8000000 in
theorem markCt (w : World) (mean : ExcName → Option Value) (mg mb : Str → Option Value) : MarkCt w mean mg mb := by
  intro nn pp kk t1 t2 t3 hp1 hp2 dp un gd cn cs a ccd cl outer A₀ base h₀ L m news s Q E B F X Nw T hk hdp hun ret
  have kf : (PySem.Challenge.rw_bw0038_01 = PySem.Challenge.rw_bw0038_01) ∧ (hd.heap_39 w.params = hd.heap_39 w.params) := by
    k_fill
    exact laid _
  clear kf
  have hhn := half_nn hp1
  have hhl := half_lt hp1 hp2
  w_top off
  k_with_none
  k_with "call 0" => k_dflt (
    refine' made_use ?k1 ?k2 ?k3 ?k4 ?k5 ?kK ?hp ?hp2 ?kd ?ku ?_ ?_
    (case k1 => k_asm)
    (case k2 => k_asm)
    (case k3 => k_asm)
    (case k4 => k_asm)
    (case k5 => k_asm)
    (case kK => exact rfl)
    (case hp => assumption)
    (case hp2 => assumption)
    (case kd => (try simp only [depth_deeper]); (try dsimp only [ktrTop]); omega)
    (case ku => (try simp only [units_deeper, units_in1]); (try dsimp only [ktrTop]); omega)
    all_goals (
      intro hk9 y9 nw9 h9 tk9 F9 N9 sub8 q9
      obtain ⟨dx9, k19, k29, t19, t29, hy9, hdy9⟩ := q9
      (try dsimp only)
      (try k_fold)))
  k_with "call 0" => k_dflt (
    (first | refine' pow_use (powCt1 w mean mg mb 500) ?k1 ?k2 ?k3 ?k4 ?k5 ?kK ?kq ?h0 ?hN ?hp ?hp2 ?hn ?hn2 ?kd ?ku ?_ | refine' pow_use (powCt2 w mean mg mb 500) ?k1 ?k2 ?k3 ?k4 ?k5 ?kK ?kq ?h0 ?hN ?hp ?hp2 ?hn ?hn2 ?kd ?ku ?_)
    (case k1 => k_asm)
    (case k2 => k_asm)
    (case k3 => k_asm)
    (case k4 => k_asm)
    (case k5 => k_asm)
    (case kK => exact rfl)
    (case kq => exact ⟨_, _, _, _, _, by k_mem, by k_mem⟩)
    (case h0 => exact hhn)
    (case hN => exact hhl)
    (case hp => assumption)
    (case hp2 => assumption)
    (case hn => exact Int.emod_nonneg _ (by omega))
    (case hn2 => exact Int.emod_lt_of_pos _ (by omega))
    (case kd => (try simp only [depth_deeper]); (try dsimp only [ktrTop]); omega)
    (case ku => (try simp only [units_deeper, units_in1]); (try dsimp only [ktrTop]); omega)
    intro y9 nw9 h9 tk9 F9 N9 sub9 q9
    have hs9 : ∀ q ∈ news, q ∈ nw9 := fun q hq => sub9 _ (sub8 _ hq)
    obtain ⟨dx9, k19, k29, t19, t29, hy9, hdy9⟩ := q9
    (try dsimp only [PySem.W.CmpBack])
    (try k_fold))
  refine wpAny_call ?_
  k_dflt cell_enter
  k_steps
  all_goals k_with_none
  all_goals (refine' cb_retI ret ?e1 ?e2 ?e3; (case e2 => k_asm); (case e3 => exact cb_drop (by k_asm) (fun q hq => List.Mem.tail _ (hs9 q hq))); (case e1 => first | exact mark0 (by assumption) | exact mark1 (by assumption) (by assumption) | exact mark2 (by assumption) (by assumption) (by assumption) | exact mark3 (by assumption) (by assumption) (by assumption)))
end Mine

namespace Mine
def TurnedCt (w : World) (mean : ExcName → Option Value) (mg mb : Str → Option Value) : Prop :=
  ∀ (nn pp : Int) (t1 t2 : Tok), 2 < pp → pp < 1000 →
  ∀ (dp un : Nat) (gd : Option (List Code)) (cn : Str) (cs : Scope) (a : Addr) (ccd : Value) (cl : List (Str × Addr)) (outer : List Env) (A₀ : Around) (base h₀ : Heap) (L : Addr) (m : Str → Option Value) (news : List (Addr × Obj)) (s : Shared) (Q E : Value → Shared → Prop),
    Below A₀ base outer h₀ → Fr h₀ L s.heap m → (hd.heap_39 w.params).In h₀ → News h₀ L s.heap news → Top hd.view_39 looseN mean mg mb h₀ → cs.kind = .function →
    dp + 5 < recursionLimit → un + 100 < cLine → CbRet h₀ L m news s Q (fun t => .int (turnedZ nn pp) t) →
    wpAny (model rowP w) (ktrTop dp un gd cn cs L a ccd cl outer) (call (.ref 379) [.int nn t1, .int pp t2]) Q E s

local macro_rules | `(tactic| k_room) => `(tactic| ((try dsimp only [ktrTop]); (try simp only [depth_under_make, depth_under_kw, depth_in1, depth_deeper, depth_caller, recursionLimit] at *); (try dsimp only [ktrTop] at *); omega))
local macro_rules | `(tactic| walk_at "exec While Compare cons nil") => `(tactic| (k_here; (with_reducible show wpAny _ _ (exec (Stmt.While (Expr.Compare (Expr.Name _ _) _ _ _) _ _ _) _) _ _ _); k_extra "while outer"))
local macro_rules | `(tactic| walk_at "exec While Compare cons nil") => `(tactic| (k_here; (with_reducible show wpAny _ _ (exec (Stmt.While (Expr.Compare (Expr.BinOp _ _ _ _) _ _ _) _ _ _) _) _ _ _); k_extra "while inner"))
set_option maxRecDepth 100000 in
set_option maxHeartbeats 8000000 in
theorem turnedCt (w : World) (mean : ExcName → Option Value) (mg mb : Str → Option Value) : TurnedCt w mean mg mb := by
  intro nn pp t1 t2 hp1 hp2 dp un gd cn cs a ccd cl outer A₀ base h₀ L m news s Q E B F X Nw T hk hdp hun ret
  have kf : (PySem.Challenge.rw_bw0038_01 = PySem.Challenge.rw_bw0038_01) ∧ (hd.heap_39 w.params = hd.heap_39 w.params) := by
    k_fill
    exact laid _
  clear kf
  have hst := out_start (nn := nn) hp1 hp2
  w_top off
  k_with_none
  k_with "while outer" => k_while (fun _ m n p => (0 ≤ n ∧ n < 1000 ∧ 0 < p ∧ p < 1000 ∧ (m = 1 ∨ m = -1)) ∧ OutI (turnedZ nn pp) m n p) (fun _ m n p => n.toNat) "mark" "number" "p"
  k_with "while inner" => k_while_given ["number!", "p"] (fun n0 p _ m n => (0 < n ∧ n < 1000 ∧ 0 < p ∧ p < 1000 ∧ (m = 1 ∨ m = -1)) ∧ InI (turnedZ nn pp) n0 m n p) (fun _ _ _ m n => n.toNat) "mark" "number"
  k_with "state" => first
    | exact pairO hst
    | exact pairI (out_in (by assumption) (by assumption))
    | exact pairI (in_flip (by assumption) (by assumption) (any35 (by assumption)))
    | exact pairI (in_keep (by assumption) (by assumption) (any35n (by assumption)))
    | exact pairO (in_out1 (by assumption) (by assumption) (by assumption) (by assumption))
    | exact pairO (in_out2 (by assumption) (by assumption) (fun h => absurd h.1 (by assumption)))
    | exact pairO (in_out2 (by assumption) (by assumption) (fun h => absurd h.2 (by assumption)))
  k_with "measure" => first
    | exact in_less (by assumption)
    | exact half_less (by assumption)
  refine wpAny_call ?_
  k_dflt cell_enter
  k_steps
  all_goals k_with_none
  all_goals (refine' cb_retI ret ?e1 ?e2 ?e3; (case e2 => k_asm); (case e3 => first | k_asm | exact cb_drop (by k_asm) (fun q hq => List.Mem.tail _ hq)); (case e1 => first | exact out_end1 (by assumption) (by omega) (by assumption) | exact out_end0 (by assumption) (by omega) (by assumption)))
end Mine

namespace Mine
def lawAt (script : List Int) (k : Int) : Int :=
  let number := if k < script.length then script.getD k.toNat 0 else 5 * k + 2
  if -1000000000 < number ∧ number < 1000000000 then number else number % 1000003

def AtCt (w : World) (mean : ExcName → Option Value) (mg mb : Str → Option Value) : Prop :=
  ∀ (l : Addr) (vs : List Value) (ns : List Int) (k : Int) (t1 : Tok), 0 ≤ k → k < 100 →
  ∀ (dp un : Nat) (gd : Option (List Code)) (cn : Str) (cs : Scope) (a : Addr) (ccd : Value) (cl : List (Str × Addr)) (outer : List Env) (A₀ : Around) (base h₀ : Heap) (L : Addr) (m : Str → Option Value) (news : List (Addr × Obj)) (s : Shared) (Q E : Value → Shared → Prop),
    Below A₀ base outer h₀ → Fr h₀ L s.heap m → (hd.heap_39 w.params).In h₀ → News h₀ L s.heap news → Top hd.view_39 looseN mean mg mb h₀ → cs.kind = .function →
    base.IsList l vs.toArray → IntsAre vs ns → ns.length < 2 ^ 62 →
    dp + 5 < recursionLimit → un + 100 < cLine → CbRet h₀ L m news s Q (fun t => .int (lawAt ns k) t) →
    wpAny (model rowP w) (ktrTop dp un gd cn cs L a ccd cl outer) (call (.ref 358) [.ref l, .int k t1]) Q E s

set_option maxRecDepth 100000 in
set_option maxHeartbeats 8000000 in
theorem atCt (w : World) (mean : ExcName → Option Value) (mg mb : Str → Option Value) : AtCt w mean mg mb := by
  intro l vs ns k t1 hk0 hk1 dp un gd cn cs a ccd cl outer A₀ base h₀ L m news s Q E B F X Nw T hk hl hi hfit hdp hun ret
  have kf : (PySem.Challenge.rw_bw0038_01 = PySem.Challenge.rw_bw0038_01) ∧ (hd.heap_39 w.params = hd.heap_39 w.params) := by
    k_fill
    exact laid _
  clear kf
  w_top off
  k_with_none
  k_with "tree" => simp only [lawAt]
  refine wpAny_call ?_
  k_dflt cell_enter
  k_steps
  all_goals cb_end ret
  all_goals k_with_none
end Mine

namespace Mine
def MulCt (w : World) (mean : ExcName → Option Value) (mg mb : Str → Option Value) (C f : Addr) : Prop :=
  ∀ (n n' p : Int) (x x' : Addr), 2 < p → p < 1000 → 0 ≤ n → n < p → 0 ≤ n' → n' < p →
  ∀ (dp un : Nat) (gd : Option (List Code)) (cn : Str) (cs : Scope) (a : Addr) (ccd : Value) (cl : List (Str × Addr)) (outer : List Env) (A₀ : Around) (base h₀ : Heap) (L : Addr) (m : Str → Option Value) (news : List (Addr × Obj)) (s : Shared) (Q E : Value → Shared → Prop),
    Below A₀ base outer h₀ → Fr h₀ L s.heap m → (hd.heap_39 w.params).In h₀ → News h₀ L s.heap news → Top hd.view_39 looseN mean mg mb h₀ → cs.kind = .function →
    FQAt w C news x p n → FQAt w C news x' p n' → dp + 10 < recursionLimit → un + 60 < cLine → PowBack w C h₀ L m news s Q p (n * n' % p) →
    wpAny (model rowP w) (ktrTop dp un gd cn cs L a ccd cl outer) (call (.ref f) [.ref x, .ref x']) Q E s
theorem mul_val {a p : Int} (h : 2 < p) : Int.fmod (Int.fmod a p) p = a % p := by
  rw [fmodP h, fmodP h, Int.emod_emod_of_dvd _ (Int.dvd_refl p)]
local macro_rules | `(tactic| k_room) => `(tactic| ((try dsimp only [ktrTop]); (try simp only [depth_under_make, depth_under_kw, depth_in1, depth_deeper, depth_caller, recursionLimit] at *); (try dsimp only [ktrTop] at *); omega))
set_option maxRecDepth 100000 in
set_option maxHeartbeats 8000000 in
theorem mulCt1 (w : World) (mean : ExcName → Option Value) (mg mb : Str → Option Value) : MulCt w mean mg mb 171 56 := by
  intro n n' p x x' hp1 hp2 hn1 hn2 hn3 hn4 dp un gd cn cs a ccd cl outer A₀ base h₀ L m news s Q E B F X Nw T hk hq hq' hdp hun ret
  have kf : (PySem.Challenge.rw_bw0038_01 = PySem.Challenge.rw_bw0038_01) ∧ (hd.heap_39 w.params = hd.heap_39 w.params) := by
    k_fill
    exact laid _
  clear kf
  obtain ⟨dx, k1, k2, t1, t2, hx, hdx⟩ := hq
  obtain ⟨dx', k1', k2', t1', t2', hx', hdx'⟩ := hq'
  w_top off
  k_with_none
  refine wpAny_call ?_
  k_dflt cell_enter
  k_steps
  · exact ret _ _ _ _ (by k_asm) (by k_asm) (fun q hq => List.Mem.tail _ (List.Mem.tail _ hq)) (FQAt.eq ⟨_, _, _, _, _, by k_mem, by k_mem⟩ (mul_val hp1))
set_option maxRecDepth 100000 in
set_option maxHeartbeats 8000000 in
theorem mulCt2 (w : World) (mean : ExcName → Option Value) (mg mb : Str → Option Value) : MulCt w mean mg mb 333 203 := by
  intro n n' p x x' hp1 hp2 hn1 hn2 hn3 hn4 dp un gd cn cs a ccd cl outer A₀ base h₀ L m news s Q E B F X Nw T hk hq hq' hdp hun ret
  have kf : (PySem.Challenge.rw_bw0038_01 = PySem.Challenge.rw_bw0038_01) ∧ (hd.heap_39 w.params = hd.heap_39 w.params) := by
    k_fill
    exact laid _
  clear kf
  obtain ⟨dx, k1, k2, t1, t2, hx, hdx⟩ := hq
  obtain ⟨dx', k1', k2', t1', t2', hx', hdx'⟩ := hq'
  w_top off
  k_with_none
  refine wpAny_call ?_
  k_dflt cell_enter
  k_steps
  · exact ret _ _ _ _ (by k_asm) (by k_asm) (fun q hq => List.Mem.tail _ (List.Mem.tail _ hq)) (FQAt.eq ⟨_, _, _, _, _, by k_mem, by k_mem⟩ (mul_val hp1))
end Mine

namespace Mine
theorem markZ_range (n p : Int) : -1 ≤ markZ n p ∧ markZ n p ≤ 2 := by
  unfold markZ
  dsimp only
  split
  · decide
  · split
    · decide
    · split <;> decide
section
variable {w : World} {mean : ExcName → Option Value} {mg mb : Str → Option Value}
    {dp un : Nat} {gd : Option (List Code)} {cn : Str} {cs : Scope} {a : Addr} {ccd : Value} {cl : List (Str × Addr)} {outer : List Env} {A₀ : Around} {base h₀ : Heap} {L : Addr} {m : Str → Option Value} {news : List (Addr × Obj)} {s : Shared} {Q E : Value → Shared → Prop}
theorem mark_use {nn pp kk : Int} {t1 t2 t3 : Tok} 
    (B : Below A₀ base outer h₀) (F : Fr h₀ L s.heap m) (X : (hd.heap_39 w.params).In h₀) (Nw : News h₀ L s.heap news) (T : Top hd.view_39 looseN mean mg mb h₀) (hk : cs.kind = .function)
    (hp : 2 < pp) (hp2 : pp < 1000) (hdp : dp + 530 < recursionLimit) (hun : un + 4500 < cLine)
    (ret : ∀ v, v = markZ nn pp → -1 ≤ v → v ≤ 2 → CbRet h₀ L m news s Q (fun t => .int v t)) :
    wpAny (model rowP w) (ktrTop dp un gd cn cs L a ccd cl outer) (call (.ref 372) [.int nn t1, .int pp t2, .int kk t3]) Q E s :=
  markCt w mean mg mb nn pp kk t1 t2 t3 hp hp2 dp un gd cn cs a ccd cl outer A₀ base h₀ L m news s Q E B F X Nw T hk hdp hun (ret _ rfl (markZ_range nn pp).1 (markZ_range nn pp).2)
theorem turned_use {nn pp : Int} {t1 t2 : Tok} 
    (B : Below A₀ base outer h₀) (F : Fr h₀ L s.heap m) (X : (hd.heap_39 w.params).In h₀) (Nw : News h₀ L s.heap news) (T : Top hd.view_39 looseN mean mg mb h₀) (hk : cs.kind = .function)
    (hp : 2 < pp) (hp2 : pp < 1000) (hdp : dp + 5 < recursionLimit) (hun : un + 100 < cLine)
    (ret : CbRet h₀ L m news s Q (fun t => .int (turnedZ nn pp) t)) :
    wpAny (model rowP w) (ktrTop dp un gd cn cs L a ccd cl outer) (call (.ref 379) [.int nn t1, .int pp t2]) Q E s :=
  turnedCt w mean mg mb nn pp t1 t2 hp hp2 dp un gd cn cs a ccd cl outer A₀ base h₀ L m news s Q E B F X Nw T hk hdp hun ret
theorem at_use {l : Addr} {vs : List Value} {ns : List Int} {k : Int} {t1 : Tok}
    (B : Below A₀ base outer h₀) (F : Fr h₀ L s.heap m) (X : (hd.heap_39 w.params).In h₀) (Nw : News h₀ L s.heap news) (T : Top hd.view_39 looseN mean mg mb h₀) (hk : cs.kind = .function)
    (hl : base.IsList l vs.toArray) (hi : IntsAre vs ns) (hfit : ns.length < 2 ^ 62) (hk0 : 0 ≤ k) (hk1 : k < 100) (hdp : dp + 5 < recursionLimit) (hun : un + 100 < cLine)
    (ret : CbRet h₀ L m news s Q (fun t => .int (lawAt ns k) t)) :
    wpAny (model rowP w) (ktrTop dp un gd cn cs L a ccd cl outer) (call (.ref 358) [.ref l, .int k t1]) Q E s :=
  atCt w mean mg mb l vs ns k t1 hk0 hk1 dp un gd cn cs a ccd cl outer A₀ base h₀ L m news s Q E B F X Nw T hk hl hi hfit hdp hun ret
theorem menu_use {value slice : PySem.Expr} {l : Addr} {vs : List Value} {ns : List Int} {k : Int} {u : Tok} {A : Around} (hl : s.heap.IsList l vs.toArray) (hi : IntsAre vs ns) (h0 : 0 ≤ k) (h1 : k < ns.length) (hfit : k < 2 ^ 63)
    (hb : ∀ p ∈ ns, 2 < p ∧ p < 1000) (h : ∀ p t, p ∈ ns → 2 < p → p < 1000 → Q (.int p t) s)
    (hs : subscripted slice false (.ref l) (.int k u) = operate [.ref l, .int k u] (getItem (.ref l) (.int k u)) := by with_unfolding_all rfl) :
    wpAny (model rowP w) A (subscriptTail value slice (.ref l) (.int k u)) Q E s := by
  refine item_anyK hl hi h0 h1 hfit (fun t => ?_) hs
  have hm : ns.getD k.toNat 0 ∈ ns := by
    have hl : k.toNat < ns.length := by omega
    rw [List.getD_eq_getElem?_getD, List.getElem?_eq_getElem hl, Option.getD_some]
    exact List.getElem_mem hl
  exact h _ t hm (hb _ hm).1 (hb _ hm).2
theorem made_use1 {nn pp kk : Int} {t1 t2 t3 : Tok} (hkk : kk = 0)
    (B : Below A₀ base outer h₀) (F : Fr h₀ L s.heap m) (X : (hd.heap_39 w.params).In h₀) (Nw : News h₀ L s.heap news) (T : Top hd.view_39 looseN mean mg mb h₀) (hk : cs.kind = .function)
    (hp : 2 < pp) (hp2 : pp < 1000) (hdp : dp + 6 < recursionLimit) (hun : un + 30 < cLine)
    (ret1 : PowBack w 171 h₀ L m news s Q pp (nn % pp)) :
    wpAny (model rowP w) (ktrTop dp un gd cn cs L a ccd cl outer) (call (.ref 365) [.int nn t1, .int pp t2, .int kk t3]) Q E s :=
  made_use B F X Nw T hk hp hp2 hdp hun (fun _ => ret1) (fun h => absurd hkk h)
theorem made_use2 {nn pp kk : Int} {t1 t2 t3 : Tok} (hkk : kk ≠ 0)
    (B : Below A₀ base outer h₀) (F : Fr h₀ L s.heap m) (X : (hd.heap_39 w.params).In h₀) (Nw : News h₀ L s.heap news) (T : Top hd.view_39 looseN mean mg mb h₀) (hk : cs.kind = .function)
    (hp : 2 < pp) (hp2 : pp < 1000) (hdp : dp + 6 < recursionLimit) (hun : un + 30 < cLine)
    (ret1 : PowBack w 333 h₀ L m news s Q pp (nn % pp)) :
    wpAny (model rowP w) (ktrTop dp un gd cn cs L a ccd cl outer) (call (.ref 365) [.int nn t1, .int pp t2, .int kk t3]) Q E s :=
  made_use B F X Nw T hk hp hp2 hdp hun (fun h => absurd h hkk) (fun _ => ret1)
theorem mul_use {C f : Addr} (M : MulCt w mean mg mb C f) {n n' p : Int} {x x' : Addr}
    (B : Below A₀ base outer h₀) (F : Fr h₀ L s.heap m) (X : (hd.heap_39 w.params).In h₀) (Nw : News h₀ L s.heap news) (T : Top hd.view_39 looseN mean mg mb h₀) (hk : cs.kind = .function)
    (hq : FQAt w C news x p n) (hq' : FQAt w C news x' p n') (hp : 2 < p) (hp2 : p < 1000) (hn : 0 ≤ n) (hn2 : n < p) (hn3 : 0 ≤ n') (hn4 : n' < p) (hdp : dp + 10 < recursionLimit) (hun : un + 60 < cLine)
    (ret : PowBack w C h₀ L m news s Q p (n * n' % p)) :
    wpAny (model rowP w) (ktrTop dp un gd cn cs L a ccd cl outer) (call (.ref f) [.ref x, .ref x']) Q E s :=
  M n n' p x x' hp hp2 hn hn2 hn3 hn4 dp un gd cn cs a ccd cl outer A₀ base h₀ L m news s Q E B F X Nw T hk hq hq' hdp hun ret
end
theorem half_up {p : Int} (h : 2 < p) (h2 : p < 1000) : 1 < Int.fdiv (p + 1) 2 ∧ Int.fdiv (p + 1) 2 < 501 := by
  rw [ed2 _ (by decide)]; omega
theorem boundA' : ∀ p ∈ ([3, 5, 7, 11, 13, 17, 19, 23, 29, 31, 37, 41, 43, 47, 53, 59, 61, 67, 71, 73, 79, 83, 89, 97] : List Int), 2 < p ∧ p < 1000 := by decide
theorem boundB' : ∀ p ∈ ([101, 127, 163, 211, 257, 331, 401, 499, 577, 641, 769, 853, 929, 997] : List Int), 2 < p ∧ p < 1000 := by decide
end Mine

namespace Mine
/-- the distinct ints of a list, each where it is first met -/
def dist (ns : List Int) : List Int := ns.foldl step_dedup []
theorem dist_len_le : ∀ (ns acc : List Int), (ns.foldl step_dedup acc).length ≤ acc.length + ns.length
  | [], acc => by simp
  | k :: r, acc => by
    rw [List.foldl_cons]
    have h := dist_len_le r (step_dedup acc k)
    have h2 : (step_dedup acc k).length ≤ acc.length + 1 := by
      unfold step_dedup
      split
      · omega
      · rw [List.length_append, List.length_singleton]; omega
    rw [List.length_cons]
    omega
theorem range_getD (ns : List Int) : (List.range ns.length).map (fun i => ns.getD i 0) = ns := by
  apply List.ext_getElem
  · simp
  · intro i h1 h2
    simp [List.getD, h2]
theorem firstMet_dist (ns : List Int) : firstMet (fun i => ns.getD i 0) ns.length = dist ns := by
  unfold firstMet dist
  rw [range_getD]
theorem set_use {prog : Program} {w : World} {A : Around} {E : Value → Shared → Prop} {s : Shared} {h₀ : Heap} {L l : Addr} {m : Str → Option Value} {news : List (Addr × Obj)} {vs : List Value} {ns : List Int} {Q : Value → Shared → Prop}
    (F : Fr h₀ L s.heap m) (N : News h₀ L s.heap news) (hh : A.handled = none) (hl : s.heap.IsList l vs.toArray) (hi : IntsAre vs ns) (hb : ns.length < 1000)
    (h : ∀ (D : Addr) (h' : Heap) (tk : Nat) (o : Obj), Fr h₀ L h' m → News h₀ L h' ((D, o) :: news) → (∀ p ∈ news, p.1 < D) →
      o.SetObjOf (PySem.intKind prog w) (fun k' => (dist ns).any (· == k')) (dist ns).length → (dist ns).length ≤ 1000 → Q (.ref D) { s with heap := h', toks := tk }) :
    wpAny (model prog w) A (call (.type "set") [.ref l]) Q E s := by
  have hlen : vs.length = ns.length := hi.length
  have hsz : vs.toArray.size = ns.length := by rw [List.size_toArray]; exact hlen
  refine PySem.call_set_list (ns := ns) hh hl hi (by rw [hsz]; unfold scanBound; omega) fun h' tk hS hk => ?_
  rw [hsz, firstMet_dist] at hS
  obtain ⟨o, ho, hso⟩ := hS.objOf
  have hk' : ∀ b o, s.heap.get? b = some o → h'.get? b = some o := fun b o e => hk b o (Heap.lt_size e) e
  have hle := dist_len_le ns []
  exact h _ h' tk o (F.keeps hk') (news_pushed F N hk' ho rfl) (fun p hp => Heap.lt_size (N p hp).1) hso (by
    show (ns.foldl step_dedup []).length ≤ 1000
    simp only [List.length_nil] at hle
    omega)
theorem end_true {C : ClaimW} {cls : Str → Option Addr} {mean : ExcName → Option Value} {as : List WData} {s₁ s' : Shared} {b : Bool} (hb : b = true) (h : GoodW C cls mean as s₁ (.ok (.ret (.bool true))) s') : GoodW C cls mean as s₁ (.ok (.ret (.bool b))) s' := hb ▸ h
end Mine

namespace Mine
/-! the plain law: numbers alone, reckoned in Nat -/
section
variable {α : Type}
noncomputable def frc (n : Nat) (k : Nat → α) : α := Nat.rec (motive := fun _ => α) (k 0) (fun m _ => k (m + 1)) n
theorem frc_eq (n : Nat) (k : Nat → α) : frc n k = k n := by cases n <;> rfl
end
noncomputable def aftN (g : Bool → Nat → Nat → Nat) (s : Bool) (n p : Nat) : Nat :=
  frc (p % n) fun m => g (xor s (Nat.beq (n % 4) 3 && Nat.beq (p % 4) 3)) m n
noncomputable def innN (g : Bool → Nat → Nat → Nat) (k : Nat) : Bool → Nat → Nat → Nat :=
  Nat.rec (motive := fun _ => Bool → Nat → Nat → Nat) (fun s n p => aftN g s n p)
    (fun _ ih s n p => bif Nat.beq (n % 2) 0 then frc (n / 2) (fun m => ih (xor s (Nat.beq (p % 8) 3 || Nat.beq (p % 8) 5)) m p) else aftN g s n p) k
noncomputable def turnN (f : Nat) : Bool → Nat → Nat → Nat :=
  Nat.rec (motive := fun _ => Bool → Nat → Nat → Nat) (fun _ _ _ => 9)
    (fun _ ih s n p => bif Nat.beq n 0 then (bif Nat.beq p 1 then (bif s then 2 else 1) else 0) else innN ih n s n p) f
def sg (s : Bool) : Int := bif s then -1 else 1
def decT : Nat → Int
  | 0 => 0
  | 1 => 1
  | 2 => -1
  | _ => 7
def decM : Nat → Int
  | 0 => 0
  | 1 => 1
  | 2 => -1
  | _ => 2
theorem sg_flip (s c : Bool) : sg (xor s c) = if c = true then 0 - sg s else sg s := by cases s <;> cases c <;> rfl
theorem beqN {a b : Nat} : (Nat.beq a b = true) = (a = b) := by
  apply propext
  exact ⟨Nat.eq_of_beq_eq_true, fun h => by subst h; exact Nat.beq_refl _⟩
theorem aft_code {g : Int → Int → Int → Int} {gN : Bool → Nat → Nat → Nat} (h : ∀ s (n p : Nat), g (sg s) n p = decT (gN s n p)) (s : Bool) (n p : Nat) : after g (sg s) n p = decT (aftN gN s n p) := by
  unfold after aftN
  rw [frc_eq, ← h, sg_flip]
  have e : ((n : Int) % 4 = 3 ∧ (p : Int) % 4 = 3) = ((Nat.beq (n % 4) 3 && Nat.beq (p % 4) 3) = true) := by
    rw [Bool.and_eq_true, beqN, beqN]
    apply propext
    constructor <;> intro h <;> omega
  simp only [e, Int.natCast_emod]
theorem inn_code {g : Int → Int → Int → Int} {gN : Bool → Nat → Nat → Nat} (h : ∀ s (n p : Nat), g (sg s) n p = decT (gN s n p)) : ∀ (k : Nat) (s : Bool) (n p : Nat), inn g k (sg s) n p = decT (innN gN k s n p)
  | 0, s, n, p => aft_code h s n p
  | k + 1, s, n, p => by
    show (if (n : Int) % 2 = 0 then _ else _) = decT (bif Nat.beq (n % 2) 0 then _ else _)
    by_cases hn : n % 2 = 0
    · have e : Nat.beq (n % 2) 0 = true := by rw [beqN]; exact hn
      rw [if_pos (by omega), e, cond_true, frc_eq]
      have ih := inn_code h k (xor s (Nat.beq (p % 8) 3 || Nat.beq (p % 8) 5)) (n / 2) p
      rw [sg_flip] at ih
      have e2 : ((p : Int) % 8 = 3 ∨ (p : Int) % 8 = 5) = ((Nat.beq (p % 8) 3 || Nat.beq (p % 8) 5) = true) := by
        rw [Bool.or_eq_true, beqN, beqN]
        apply propext
        constructor <;> intro h <;> omega
      simp only [e2]
      have e3 : (n : Int) / 2 = ((n / 2 : Nat) : Int) := by omega
      rw [e3]
      exact ih
    · have e : Nat.beq (n % 2) 0 = false := by
        rw [← Bool.not_eq_true, beqN]; exact hn
      rw [if_neg (by omega), e, cond_false]
      exact aft_code h s n p
theorem turn_code : ∀ (f : Nat) (s : Bool) (n p : Nat), turn f (sg s) n p = decT (turnN f s n p)
  | 0, s, n, p => rfl
  | f + 1, s, n, p => by
    show (if (0 : Int) < n then _ else _) = decT (bif Nat.beq n 0 then _ else _)
    by_cases hn : n = 0
    · subst hn
      show (if (p : Int) = 1 then sg s else 0) = decT (bif Nat.beq p 1 then (bif s then 2 else 1) else 0)
      by_cases hp : p = 1
      · subst hp
        cases s <;> rfl
      · have e : Nat.beq p 1 = false := by rw [← Bool.not_eq_true, beqN]; exact hp
        rw [if_neg (by omega), e]
        rfl
    · have e : Nat.beq n 0 = false := by rw [← Bool.not_eq_true, beqN]; exact hn
      rw [if_pos (by omega), e, cond_false]
      have := inn_code (turn_code f) n s n p
      rw [Int.toNat_natCast]
      exact this

def markC (r p : Nat) : Nat := bif Nat.beq (r ^ ((p - 1) / 2) % p) 0 then 0 else bif Nat.beq (r ^ ((p - 1) / 2) % p) 1 then 1 else bif Nat.beq (r ^ ((p - 1) / 2) % p) (p - 1) then 2 else 3
theorem mark_code {n : Int} {p r : Nat} (hp : 2 < p) (hr : n % (p : Int) = r) : markZ n p = decM (markC r p) := by
  unfold markZ powZ markC
  have e : (((p : Int) - 1) / 2).toNat = (p - 1) / 2 := by omega
  have e2 : ((r : Int) ^ ((p - 1) / 2)) % (p : Int) = ((r ^ ((p - 1) / 2) % p : Nat) : Int) := by
    rw [Int.natCast_emod, Int.natCast_pow]
  rw [hr, e, e2]
  generalize r ^ ((p - 1) / 2) % p = x
  dsimp only
  by_cases h0 : x = 0
  · have e : Nat.beq x 0 = true := by rw [beqN]; exact h0
    rw [if_pos (by omega), e]; rfl
  · have e : Nat.beq x 0 = false := by rw [← Bool.not_eq_true, beqN]; exact h0
    rw [if_neg (by omega), e, cond_false]
    by_cases h1 : x = 1
    · have e : Nat.beq x 1 = true := by rw [beqN]; exact h1
      rw [if_pos (by omega), e]; rfl
    · have e : Nat.beq x 1 = false := by rw [← Bool.not_eq_true, beqN]; exact h1
      rw [if_neg (by omega), e, cond_false]
      by_cases h2 : x = p - 1
      · have e : Nat.beq x (p - 1) = true := by rw [beqN]; exact h2
        rw [if_pos (by omega), e]; rfl
      · have e : Nat.beq x (p - 1) = false := by rw [← Bool.not_eq_true, beqN]; exact h2
        rw [if_neg (by omega), e]; rfl
/-- f holds below k -/
noncomputable def allN (k : Nat) (f : Nat → Bool) : Bool := Nat.rec (motive := fun _ => Bool) true (fun i ih => bif f i then ih else false) k
theorem allN_at : ∀ {k : Nat} {f : Nat → Bool}, allN k f = true → ∀ i, i < k → f i = true
  | 0, _, _, _, h => absurd h (Nat.not_lt_zero _)
  | k + 1, f, h, i, hi => by
    have h' : (bif f k then allN k f else false) = true := h
    cases hf : f k with
    | false => rw [hf] at h'; cases h'
    | true =>
      rw [hf, cond_true] at h'
      by_cases e : i = k
      · rw [e]; exact hf
      · exact allN_at h' i (by omega)
noncomputable def chk1 (p : Nat) : Bool := allN p fun r => frc (markC r p) fun a => Nat.beq a (turnN 1000 false r p) && Nat.blt a 3
theorem dec_eq {a : Nat} (h : a < 3) : decM a = decT a := by
  match a, h with
  | 0, _ => rfl
  | 1, _ => rfl
  | 2, _ => rfl
theorem law1_of {p : Nat} (hp : 2 < p) (h : chk1 p = true) (n : Int) : markZ n p = turnedZ n p := by
  have h1 := Int.emod_nonneg n (show (p : Int) ≠ 0 by omega)
  have h2 := Int.emod_lt_of_pos n (show (0 : Int) < p by omega)
  obtain ⟨r, hr⟩ : ∃ r : Nat, n % (p : Int) = r := ⟨(n % (p : Int)).toNat, by omega⟩
  have hrp : r < p := by omega
  have hc := allN_at h r hrp
  rw [frc_eq, Bool.and_eq_true, beqN] at hc
  have hlt : markC r p < 3 := by
    have := hc.2
    unfold Nat.blt at this
    exact Nat.le_of_ble_eq_true this
  rw [mark_code hp hr, dec_eq hlt, hc.1]
  unfold turnedZ
  rw [hr]
  exact (turn_code 1000 false r p).symm
end Mine

namespace Mine
theorem c101 : chk1 101 = true := by decide +kernel
theorem c127 : chk1 127 = true := by decide +kernel
theorem c163 : chk1 163 = true := by decide +kernel
theorem c211 : chk1 211 = true := by decide +kernel
theorem c257 : chk1 257 = true := by decide +kernel
theorem c331 : chk1 331 = true := by decide +kernel
theorem c401 : chk1 401 = true := by decide +kernel
theorem c499 : chk1 499 = true := by decide +kernel
theorem c577 : chk1 577 = true := by decide +kernel
theorem c641 : chk1 641 = true := by decide +kernel
theorem c769 : chk1 769 = true := by decide +kernel
theorem c853 : chk1 853 = true := by decide +kernel
theorem c929 : chk1 929 = true := by decide +kernel
theorem c997 : chk1 997 = true := by decide +kernel
def gN : List Nat := [101, 127, 163, 211, 257, 331, 401, 499, 577, 641, 769, 853, 929, 997]
def pN : List Nat := [3, 5, 7, 11, 13, 17, 19, 23, 29, 31, 37, 41, 43, 47, 53, 59, 61, 67, 71, 73, 79, 83, 89, 97]
theorem gN_ok : ∀ P ∈ gN, 2 < P ∧ chk1 P = true := by
  intro P h
  simp only [gN, List.mem_cons, List.not_mem_nil, or_false] at h
  rcases h with rfl | rfl | rfl | rfl | rfl | rfl | rfl | rfl | rfl | rfl | rfl | rfl | rfl | rfl
  · exact ⟨by decide, c101⟩
  · exact ⟨by decide, c127⟩
  · exact ⟨by decide, c163⟩
  · exact ⟨by decide, c211⟩
  · exact ⟨by decide, c257⟩
  · exact ⟨by decide, c331⟩
  · exact ⟨by decide, c401⟩
  · exact ⟨by decide, c499⟩
  · exact ⟨by decide, c577⟩
  · exact ⟨by decide, c641⟩
  · exact ⟨by decide, c769⟩
  · exact ⟨by decide, c853⟩
  · exact ⟨by decide, c929⟩
  · exact ⟨by decide, c997⟩
theorem of_gN {p : Int} (h : p ∈ ([101, 127, 163, 211, 257, 331, 401, 499, 577, 641, 769, 853, 929, 997] : List Int)) : ∃ P : Nat, p = P ∧ P ∈ gN := by
  have e : ([101, 127, 163, 211, 257, 331, 401, 499, 577, 641, 769, 853, 929, 997] : List Int) = gN.map (fun (n : Nat) => (n : Int)) := rfl
  rw [e] at h
  obtain ⟨P, hP, rfl⟩ := List.mem_map.mp h
  exact ⟨P, rfl, hP⟩
theorem of_pN {p : Int} (h : p ∈ ([3, 5, 7, 11, 13, 17, 19, 23, 29, 31, 37, 41, 43, 47, 53, 59, 61, 67, 71, 73, 79, 83, 89, 97] : List Int)) : ∃ P : Nat, p = P ∧ P ∈ pN := by
  have e : ([3, 5, 7, 11, 13, 17, 19, 23, 29, 31, 37, 41, 43, 47, 53, 59, 61, 67, 71, 73, 79, 83, 89, 97] : List Int) = pN.map (fun (n : Nat) => (n : Int)) := rfl
  rw [e] at h
  obtain ⟨P, hP, rfl⟩ := List.mem_map.mp h
  exact ⟨P, rfl, hP⟩
/-- way 1 -/
theorem way1 {p n v : Int} (hp : p ∈ ([101, 127, 163, 211, 257, 331, 401, 499, 577, 641, 769, 853, 929, 997] : List Int)) (hv : v = markZ n p) : (v == turnedZ n p) = true := by
  obtain ⟨P, rfl, hP⟩ := of_gN hp
  obtain ⟨h2, hc⟩ := gN_ok P hP
  rw [hv, law1_of h2 hc n, beq_self_eq_true]

/-! way 0 -/
noncomputable def chk0 (p q : Nat) : Bool :=
  bif Nat.beq p q then Nat.beq (markC (q % p) p) 0
  else frc (markC (p % q) q) fun a => frc (markC (q % p) p) fun b => (Nat.beq a 1 || Nat.beq a 2) && (Nat.beq b 1 || Nat.beq b 2) && Nat.beq (bif Nat.beq (p % 4) 3 && Nat.beq (q % 4) 3 then 2 else 1) (bif Nat.beq a b then 1 else 2)
noncomputable def allL (l : List Nat) (f : Nat → Bool) : Bool := List.rec (motive := fun _ => Bool) true (fun a _ ih => bif f a then ih else false) l
theorem allL_at : ∀ {l : List Nat} {f : Nat → Bool}, allL l f = true → ∀ i, i ∈ l → f i = true
  | [], _, _, _, h => absurd h List.not_mem_nil
  | a :: l, f, h, i, hi => by
    have h' : (bif f a then allL l f else false) = true := h
    cases hf : f a with
    | false => rw [hf] at h'; cases h'
    | true =>
      rw [hf, cond_true] at h'
      rcases List.mem_cons.mp hi with rfl | hi
      · exact hf
      · exact allL_at h' i hi
theorem pN_chk0 : allL pN (fun p => allL pN (fun q => chk0 p q)) = true := by decide +kernel
theorem pN_low : ∀ P ∈ pN, 2 < P := by decide
theorem mark_mod {p q : Nat} (hp : 2 < p) : markZ (q : Int) (p : Int) = decM (markC (q % p) p) := mark_code hp (Int.natCast_emod q p).symm
theorem way0_same {p q v : Int} (hp : p ∈ ([3, 5, 7, 11, 13, 17, 19, 23, 29, 31, 37, 41, 43, 47, 53, 59, 61, 67, 71, 73, 79, 83, 89, 97] : List Int)) (e : p = q) (hv : v = markZ q p) : (v == 0) = true := by
  obtain ⟨P, rfl, hP⟩ := of_pN hp
  subst e
  have h := allL_at (allL_at pN_chk0 P hP) P hP
  unfold chk0 at h
  rw [Nat.beq_refl, cond_true, beqN] at h
  rw [hv, mark_mod (pN_low P hP), h]
  rfl
theorem way0_two {p q : Nat} (hp : p ∈ pN) (hq : q ∈ pN) (e : p ≠ q) : markZ (p : Int) (q : Int) * markZ (q : Int) (p : Int) = if p % 4 = 3 ∧ q % 4 = 3 then -1 else 1 := by
  have h := allL_at (allL_at pN_chk0 p hp) q hq
  unfold chk0 at h
  have e' : Nat.beq p q = false := by rw [← Bool.not_eq_true, beqN]; exact e
  rw [e', cond_false, frc_eq, frc_eq] at h
  rw [mark_mod (pN_low q hq), mark_mod (pN_low p hp)]
  generalize markC (p % q) q = a at h ⊢
  generalize markC (q % p) p = b at h ⊢
  simp only [Bool.and_eq_true, Bool.or_eq_true, beqN] at h
  obtain ⟨⟨ha, hb⟩, h⟩ := h
  by_cases hc : p % 4 = 3 ∧ q % 4 = 3
  · have e : (Nat.beq (p % 4) 3 && Nat.beq (q % 4) 3) = true := by rw [Bool.and_eq_true, beqN, beqN]; exact hc
    rw [if_pos hc]
    rw [e, cond_true] at h
    rcases ha with rfl | rfl <;> rcases hb with rfl | rfl <;> first | rfl | (exact absurd h (by decide))
  · have e : (Nat.beq (p % 4) 3 && Nat.beq (q % 4) 3) = false := by rw [← Bool.not_eq_true, Bool.and_eq_true, beqN, beqN]; exact hc
    rw [if_neg hc]
    rw [e, cond_false] at h
    rcases ha with rfl | rfl <;> rcases hb with rfl | rfl <;> first | rfl | (exact absurd h (by decide))
theorem way0_ne {p q v v' r : Int} (hp : p ∈ ([3, 5, 7, 11, 13, 17, 19, 23, 29, 31, 37, 41, 43, 47, 53, 59, 61, 67, 71, 73, 79, 83, 89, 97] : List Int)) (hq : q ∈ ([3, 5, 7, 11, 13, 17, 19, 23, 29, 31, 37, 41, 43, 47, 53, 59, 61, 67, 71, 73, 79, 83, 89, 97] : List Int)) (e : p ≠ q)
    (hv : v = markZ p q) (hv' : v' = markZ q p) (hr : r = if Int.fmod p 4 = 3 ∧ Int.fmod q 4 = 3 then -1 else 1) : (v * v' == r) = true := by
  obtain ⟨P, rfl, hP⟩ := of_pN hp
  obtain ⟨Q, rfl, hQ⟩ := of_pN hq
  rw [hv, hv', hr, way0_two hP hQ (fun h => e (by rw [h]))]
  have e2 : (Int.fmod (P : Int) 4 = 3 ∧ Int.fmod (Q : Int) 4 = 3) = (P % 4 = 3 ∧ Q % 4 = 3) := by
    rw [em2 _ (by decide), em2 _ (by decide)]
    apply propext
    constructor <;> intro h <;> omega
  simp only [e2, beq_self_eq_true]
end Mine

namespace Mine
/-! way 2 -/
noncomputable def parN (k : Nat) (f : Nat → Bool) : Bool := Nat.rec (motive := fun _ => Bool) false (fun i ih => bif f i then !ih else ih) k
noncomputable def chk2 (p : Nat) : Bool := allN (p - 1) fun i => Nat.beq (markC (i + 1) p) (bif parN ((p + 1) / 2 - 1) (fun k => Nat.blt p (2 * ((1 + k) * (i + 1) % p))) then 2 else 1)
theorem pN_chk2 : allL pN chk2 = true := by decide +kernel
theorem rangeKs_succ (a : Int) (n : Nat) : rangeKs a (n + 1) = rangeKs a n ++ [a + (n : Int)] := by
  unfold rangeKs
  rw [List.range_succ, List.map_append]
  rfl
theorem par_len (c : Int → Prop) [DecidablePred c] (f : Nat → Bool) (hcf : ∀ i : Nat, c (1 + (i : Int)) ↔ f i = true) : ∀ n : Nat,
    (((rangeKs 1 n).foldl (fun l k => if c k then l ++ [k] else l) []).length % 2 = 1) ↔ parN n f = true
  | 0 => by simp [rangeKs, parN]
  | n + 1 => by
    have ih := par_len c f hcf n
    rw [rangeKs_succ, List.foldl_append, List.foldl_cons, List.foldl_nil]
    show _ ↔ (bif f n then !(parN n f) else parN n f) = true
    by_cases h : c (1 + (n : Int))
    · rw [if_pos h, (hcf n).mp h, cond_true, List.length_append, List.length_singleton, Bool.not_eq_true', ← Bool.not_eq_true, ← ih]
      omega
    · have hf : f n = false := by rw [← Bool.not_eq_true, ← hcf]; exact h
      rw [if_neg h, hf, cond_false]
      exact ih
theorem number_of {P : Nat} (hP : 2 < P) (x : Int) : ∃ i : Nat, 1 + Int.fmod x ((P : Int) - 1) = ((i + 1 : Nat) : Int) ∧ i < P - 1 := by
  rw [em2 _ (by omega)]
  have h1 := Int.emod_nonneg x (show (P : Int) - 1 ≠ 0 by omega)
  have h2 := Int.emod_lt_of_pos x (show (0 : Int) < (P : Int) - 1 by omega)
  exact ⟨(x % ((P : Int) - 1)).toNat, by omega, by omega⟩
theorem mark_num {P i : Nat} (hP : 2 < P) (hi : i < P - 1) : markZ ((i + 1 : Nat) : Int) (P : Int) = decM (markC (i + 1) P) :=
  mark_code hP (by rw [← Int.natCast_emod, Nat.mod_eq_of_lt (by omega)])
theorem way2_core {P i : Nat} (hP : P ∈ pN) (hi : i < P - 1) {L : Nat}
    (hL : L = ((rangeKs 1 (Int.toNat (Int.fdiv ((P : Int) + 1) 2 - 1))).foldl (fun l k => if (P : Int) < 2 * Int.fmod (k * ((i + 1 : Nat) : Int)) (P : Int) then l ++ [k] else l) []).length) :
    markZ ((i + 1 : Nat) : Int) (P : Int) = if L % 2 = 1 then -1 else 1 := by
  have h2 := pN_low P hP
  have e1 : Int.toNat (Int.fdiv ((P : Int) + 1) 2 - 1) = (P + 1) / 2 - 1 := by rw [ed2 _ (by decide)]; omega
  rw [e1] at hL
  have hc := allN_at (allL_at pN_chk2 P hP) i hi
  rw [beqN] at hc
  have hp := par_len (fun k => (P : Int) < 2 * Int.fmod (k * ((i + 1 : Nat) : Int)) (P : Int)) (fun k => Nat.blt P (2 * ((1 + k) * (i + 1) % P))) (fun k => by
    have e : Int.fmod ((1 + (k : Int)) * ((i + 1 : Nat) : Int)) (P : Int) = (((1 + k) * (i + 1) % P : Nat) : Int) := by
      rw [em2 _ (by omega), Int.natCast_emod, Int.natCast_mul, Int.natCast_add 1 k]
      rfl
    rw [e]
    unfold Nat.blt
    rw [Nat.ble_eq]
    omega) ((P + 1) / 2 - 1)
  rw [mark_num h2 hi, hc]
  cases hb : parN ((P + 1) / 2 - 1) (fun k => Nat.blt P (2 * ((1 + k) * (i + 1) % P))) with
  | true =>
    rw [hb] at hp
    rw [if_pos (by rw [hL]; exact hp.mpr rfl)]
    rfl
  | false =>
    rw [hb] at hp
    rw [if_neg (by rw [hL]; exact fun h => absurd (hp.mp h) (by decide))]
    rfl
theorem way2 {p x v : Int} (hp : p ∈ ([3, 5, 7, 11, 13, 17, 19, 23, 29, 31, 37, 41, 43, 47, 53, 59, 61, 67, 71, 73, 79, 83, 89, 97] : List Int)) (hv : v = markZ (1 + Int.fmod x (p - 1)) p) {L : Nat}
    (hL : L = ((rangeKs 1 (Int.toNat (Int.fdiv (p + 1) 2 - 1))).foldl (fun l k => if p < 2 * Int.fmod (k * (1 + Int.fmod x (p - 1))) p then l ++ [k] else l) []).length) : v = if L % 2 = 1 then -1 else 1 := by
  obtain ⟨P, rfl, hP⟩ := of_pN hp
  obtain ⟨i, e, hi⟩ := number_of (pN_low P hP) x
  rw [e] at hv hL
  rw [hv]
  exact way2_core hP hi hL
theorem way2_even {p x v : Int} (hp : p ∈ ([3, 5, 7, 11, 13, 17, 19, 23, 29, 31, 37, 41, 43, 47, 53, 59, 61, 67, 71, 73, 79, 83, 89, 97] : List Int)) (hv : v = markZ (1 + Int.fmod x (p - 1)) p)
    (hL : Int.fmod (((rangeKs 1 (Int.toNat (Int.fdiv (p + 1) 2 - 1))).foldl (fun l k => if p < 2 * Int.fmod (k * (1 + Int.fmod x (p - 1))) p then l ++ [k] else l) []).length : Int) 2 = 0) : (v == 1) = true := by
  have h := way2 hp hv rfl
  rw [em2 _ (by decide)] at hL
  rw [h, if_neg (by omega)]
  rfl
theorem way2_odd {p x v : Int} (hp : p ∈ ([3, 5, 7, 11, 13, 17, 19, 23, 29, 31, 37, 41, 43, 47, 53, 59, 61, 67, 71, 73, 79, 83, 89, 97] : List Int)) (hv : v = markZ (1 + Int.fmod x (p - 1)) p)
    (hL : Int.fmod (((rangeKs 1 (Int.toNat (Int.fdiv (p + 1) 2 - 1))).foldl (fun l k => if p < 2 * Int.fmod (k * (1 + Int.fmod x (p - 1))) p then l ++ [k] else l) []).length : Int) 2 ≠ 0) : (v == -1) = true := by
  have h := way2 hp hv rfl
  rw [em2 _ (by decide)] at hL
  rw [h, if_pos (by omega)]
  rfl

/-! way 3 -/
noncomputable def anyN (k : Nat) (f : Nat → Bool) : Bool := Nat.rec (motive := fun _ => Bool) false (fun i ih => bif f i then true else ih) k
def sqN (p j : Nat) : Nat := (1 + j) % p * ((1 + j) % p) % p
noncomputable def memL (k : Nat) (l : List Nat) : Bool := List.rec (motive := fun _ => Bool) false (fun a _ ih => bif Nat.beq a k then true else ih) l
/-- the first-met ints among the values of f below n, newest first -/
noncomputable def metN (f : Nat → Nat) (n : Nat) : List Nat := Nat.rec (motive := fun _ => List Nat) [] (fun i ih => bif memL (f i) ih then ih else f i :: ih) n
noncomputable def chk3 (p : Nat) : Bool :=
  (Nat.beq (metN (sqN p) (p - 1)).length ((p - 1) / 2)) && allN (p - 1) fun i => Nat.beq (markC (i + 1) p) (bif anyN (p - 1) (fun j => Nat.beq (sqN p j) (i + 1)) then 1 else 2)
theorem pN_chk3 : allL pN chk3 = true := by decide +kernel
end Mine

namespace Mine
theorem memL_iff (k : Nat) : ∀ l : List Nat, memL k l = true ↔ k ∈ l
  | [] => by
    show false = true ↔ _
    simp
  | a :: l => by
    show (bif Nat.beq a k then true else memL k l) = true ↔ _
    have ih := memL_iff k l
    cases h : Nat.beq a k with
    | true =>
      rw [beqN] at h
      subst h
      simp
    | false =>
      rw [← Bool.not_eq_true, beqN] at h
      rw [cond_false, ih, List.mem_cons]
      constructor
      · exact Or.inr
      · rintro (e | e)
        · exact absurd e.symm h
        · exact e
theorem dist_met (g : Int → Int) (f : Nat → Nat) (h : ∀ i : Nat, g (1 + (i : Int)) = (f i : Int)) : ∀ n : Nat, dist ((rangeKs 1 n).map g) = (metN f n).reverse.map (fun (k : Nat) => (k : Int))
  | 0 => rfl
  | n + 1 => by
    have ih := dist_met g f h n
    unfold dist at ih ⊢
    rw [rangeKs_succ, List.map_append, List.foldl_append, ih, List.map_cons, List.map_nil, List.foldl_cons, List.foldl_nil, h]
    show step_dedup _ _ = ((bif memL (f n) (metN f n) then metN f n else f n :: metN f n).reverse.map _)
    unfold step_dedup
    have e : (((metN f n).reverse.map (fun (k : Nat) => (k : Int))).any (· == (f n : Int)) = true) = (memL (f n) (metN f n) = true) := by
      apply propext
      rw [memL_iff, List.any_eq_true]
      constructor
      · rintro ⟨x, hx, hxe⟩
        obtain ⟨k, hk, rfl⟩ := List.mem_map.mp hx
        have : k = f n := by
          have := beq_iff_eq.mp hxe
          omega
        rw [← this]
        exact List.mem_reverse.mp hk
      · intro hm
        exact ⟨(f n : Int), List.mem_map.mpr ⟨f n, List.mem_reverse.mpr hm, rfl⟩, beq_self_eq_true _⟩
    cases hb : memL (f n) (metN f n) with
    | true =>
      rw [hb] at e
      rw [if_pos (e.mpr rfl), cond_true]
    | false =>
      rw [hb] at e
      rw [if_neg (by rw [e]; decide), cond_false, List.reverse_cons, List.map_append]
      rfl
theorem any_any (g : Int → Int) (f : Nat → Nat) (h : ∀ i : Nat, g (1 + (i : Int)) = (f i : Int)) (k : Nat) : ∀ n : Nat, (((rangeKs 1 n).map g).any (fun x => x == ((k : Nat) : Int)) = true) ↔ anyN n (fun j => Nat.beq (f j) k) = true
  | 0 => by
    show (([] : List Int).any _ = true) ↔ false = true
    simp
  | n + 1 => by
    have ih := any_any g f h k n
    rw [rangeKs_succ, List.map_append, List.any_append, Bool.or_eq_true, ih]
    show _ ↔ (bif Nat.beq (f n) k then true else anyN n _) = true
    rw [List.map_cons, List.map_nil, List.any_cons, List.any_nil, Bool.or_false, h, beq_iff_eq]
    cases hb : Nat.beq (f n) k with
    | true =>
      rw [beqN] at hb
      rw [cond_true]
      constructor
      · intro _; rfl
      · intro _; exact Or.inr (by omega)
    | false =>
      rw [← Bool.not_eq_true, beqN] at hb
      rw [cond_false]
      constructor
      · rintro (e | e)
        · exact e
        · exact absurd (by omega) hb
      · exact Or.inl
section
variable {c : Prop} {dc : Decidable c} {p x v : Int}
theorem sq_cast {P : Nat} (i : Nat) : (fun k' : Int => if c then k' % (P : Int) * (k' % (P : Int)) % (P : Int) else k' % (P : Int) * (k' % (P : Int)) % (P : Int)) (1 + (i : Int)) = (sqN P i : Int) := by
  have e : (1 + (i : Int)) % (P : Int) = (((1 + i) % P : Nat) : Int) := by rw [Int.natCast_emod, Int.natCast_add 1 i]; rfl
  dsimp only
  rw [ite_self, e]
  unfold sqN
  rw [← Int.natCast_mul, ← Int.natCast_emod]
theorem way3_len (hp : p ∈ ([3, 5, 7, 11, 13, 17, 19, 23, 29, 31, 37, 41, 43, 47, 53, 59, 61, 67, 71, 73, 79, 83, 89, 97] : List Int)) :
    ((dist (List.map (fun k' => if c then k' % p * (k' % p) % p else k' % p * (k' % p) % p) (rangeKs 1 (Int.toNat (p - 1))))).length : Int) = Int.fdiv (p - 1) 2 := by
  obtain ⟨P, rfl, hP⟩ := of_pN hp
  have h2 := pN_low P hP
  have hc := allL_at pN_chk3 P hP
  unfold chk3 at hc
  rw [Bool.and_eq_true, beqN] at hc
  have e : Int.toNat ((P : Int) - 1) = P - 1 := by omega
  rw [e, dist_met _ (sqN P) sq_cast (P - 1), List.length_map, List.length_reverse, hc.1, ed2 _ (by decide)]
  omega
theorem way3_core {P i : Nat} (hP : P ∈ pN) (hi : i < P - 1) : markZ ((i + 1 : Nat) : Int) (P : Int) = if (List.map (fun k' : Int => if c then k' % (P : Int) * (k' % (P : Int)) % (P : Int) else k' % (P : Int) * (k' % (P : Int)) % (P : Int)) (rangeKs 1 (Int.toNat ((P : Int) - 1)))).any (fun y => y == ((i + 1 : Nat) : Int)) = true then 1 else -1 := by
  have h2 := pN_low P hP
  have hc := allL_at pN_chk3 P hP
  unfold chk3 at hc
  rw [Bool.and_eq_true] at hc
  have hc2 := allN_at hc.2 i hi
  rw [beqN] at hc2
  have e : Int.toNat ((P : Int) - 1) = P - 1 := by omega
  have ha := any_any (fun k' : Int => if c then k' % (P : Int) * (k' % (P : Int)) % (P : Int) else k' % (P : Int) * (k' % (P : Int)) % (P : Int)) (sqN P) sq_cast (i + 1) (P - 1)
  rw [mark_num h2 hi, hc2, e]
  cases hb : anyN (P - 1) (fun j => Nat.beq (sqN P j) (i + 1)) with
  | true =>
    rw [hb] at ha
    rw [if_pos (ha.mpr rfl)]
    rfl
  | false =>
    rw [hb] at ha
    rw [if_neg (fun h => absurd (ha.mp h) (by decide))]
    rfl
theorem way3_in (hp : p ∈ ([3, 5, 7, 11, 13, 17, 19, 23, 29, 31, 37, 41, 43, 47, 53, 59, 61, 67, 71, 73, 79, 83, 89, 97] : List Int)) (hv : v = markZ (1 + Int.fmod x (p - 1)) p)
    (h : (List.map (fun k' => if c then k' % p * (k' % p) % p else k' % p * (k' % p) % p) (rangeKs 1 (Int.toNat (p - 1)))).any (fun y => y == 1 + Int.fmod x (p - 1)) = true) : (v == 1) = true := by
  obtain ⟨P, rfl, hP⟩ := of_pN hp
  obtain ⟨i, e, hi⟩ := number_of (pN_low P hP) x
  rw [e] at hv h
  rw [hv, way3_core (c := c) hP hi, if_pos h]
  rfl
theorem way3_out (hp : p ∈ ([3, 5, 7, 11, 13, 17, 19, 23, 29, 31, 37, 41, 43, 47, 53, 59, 61, 67, 71, 73, 79, 83, 89, 97] : List Int)) (hv : v = markZ (1 + Int.fmod x (p - 1)) p)
    (h : (List.map (fun k' => if c then k' % p * (k' % p) % p else k' % p * (k' % p) % p) (rangeKs 1 (Int.toNat (p - 1)))).any (fun y => y == 1 + Int.fmod x (p - 1)) = false) : (v == -1) = true := by
  obtain ⟨P, rfl, hP⟩ := of_pN hp
  obtain ⟨i, e, hi⟩ := number_of (pN_low P hP) x
  rw [e] at hv h
  rw [hv, way3_core (c := c) hP hi, if_neg (by rw [h]; decide)]
  rfl
theorem way3_beq (hp : p ∈ ([3, 5, 7, 11, 13, 17, 19, 23, 29, 31, 37, 41, 43, 47, 53, 59, 61, 67, 71, 73, 79, 83, 89, 97] : List Int)) :
    (((dist (List.map (fun k' => if c then k' % p * (k' % p) % p else k' % p * (k' % p) % p) (rangeKs 1 (Int.toNat (p - 1))))).length : Int) == Int.fdiv (p - 1) 2) = true := by
  rw [way3_len (c := c) hp, beq_self_eq_true]
end
end Mine

namespace Mine
local macro_rules | `(tactic| walk_at "call ref") => `(tactic| (k_here; k_extra "call 0"))
local macro_rules | `(tactic| walk_at "eval ListComp") => `(tactic| (k_here; lct_look; k_dflt (refine LCt.ListComp_T (F₀ := by k_asm) (by with_unfolding_all rfl) (by decide) (by rfl) (by decide) (by rfl) ?_)))
local macro_rules | `(tactic| walk_at "CompSrcT") => `(tactic| (k_here; (have hfd9 := half_up (by assumption) (by assumption)); (try k_fmods); k_dflt ((refine LCt.CompSrcT.range (by rfl) (by k_asm) (by k_asm) (by assumption) (by exact small_one (by l_bnd) (by l_bnd) (by l_bnd) (by l_bnd)) (by exact rangeSize_nat _ _) (by (rw [PySem.sizeLine_eq]; omega)) ?_; intro g'; (refine' kci_range _ (fun k' t' I' oI' C' oC' D' m' ys' l' h' tk' E' hlo' hhi' hI' hC' hx' F' N' off' ne' => ?_) ?_ ?_); (all_goals (try (simp only [LCg.Off3, and_true] at off'))); (all_goals (try ((show KPfMark → _); intro hMark'))); kcf_last))))
local macro_rules | `(tactic| walk_at "call type:set cons nil") => `(tactic| (k_here; k_dflt ((refine' set_use ?F ?N ?hh ?hl ?hi ?hb ?_; (case F => k_asm); (case N => k_asm); (case hh => exact rfl); (case hl => is_list); (case hi => l_ints); (case hb => (simp only [List.length_map, rangeKs_length]; omega)); k_whole; intro d' h' tk' o' F' N' l1 hs' hz'; (try k_lt l1)))))
local macro_rules | `(tactic| wrow_close) => `(tactic| (w_end; (show GoodW _ _ _ _ _ (.ok (.ret (.bool _))) _); refine end_true ?hb ?hg; (case hb => k_extra "the end"); (case hg => exact goodW_bool (by assumption) (by assumption) (raisesW_false (by wrow_none_raised)) (by wrow_post)); walk_say "MY END"))
local macro_rules | `(tactic| walk_at "subscriptTail") => `(tactic| (k_here; (with_reducible show wpAny _ _ (subscriptTail _ _ (Value.ref _) (Value.int _ _)) _ _ _); (with_unfolding_all refine' menu_use ?k1 ?k2 ?k3 ?k4 ?k5 ?kb ?_ ?k6; (case k1 => is_list); (case k2 => l_ints); (case k3 => l_idx); (case k4 => l_idx); (case k5 => l_idx); (case kb => first | exact boundA' | exact boundB'); (case k6 => with_unfolding_all rfl); k_whole); intro p9 t9 hp9 hp9a hp9b))
set_option maxRecDepth 100000 in
set_option maxHeartbeats 8000000 in
theorem whole : PySem.Challenge.rw_bw0038_01.Holds := hd (by
  k_with_none
  k_with "call 0" => k_dflt (
    refine' at_use ?k1 ?k2 ?k3 ?k4 ?k5 ?kK ?hl ?hi ?hf ?h0 ?h1 ?kd ?ku ?_
    (case k1 => k_asm)
    (case k2 => k_asm)
    (case k3 => k_asm)
    (case k4 => k_asm)
    (case k5 => k_asm)
    (case kK => exact rfl)
    (case hl => k_asm)
    (case hi => assumption)
    (case hf => omega)
    (case h0 => decide)
    (case h1 => decide)
    (case kd => decide)
    (case ku => decide)
    intro t9 h9 tk9 F9 N9
    (try dsimp only)
    (try k_fold))
  k_with "call 0" => k_dflt (
    refine' made_use ?k1 ?k2 ?k3 ?k4 ?k5 ?kK ?hp ?hp2 ?kd ?ku ?_ ?_
    (case k1 => k_asm)
    (case k2 => k_asm)
    (case k3 => k_asm)
    (case k4 => k_asm)
    (case k5 => k_asm)
    (case kK => exact rfl)
    (case hp => assumption)
    (case hp2 => assumption)
    (case kd => decide)
    (case ku => decide)
    all_goals (
      intro hk8 y8 nw8 h8 tk8 F8 N8 sub8 q8
      obtain ⟨dx8, k18, k28, t18, t28, hy8, hdy8⟩ := q8
      have N8' := cb_drop N8 (List.forall_mem_cons.mpr ⟨hy8, List.forall_mem_cons.mpr ⟨hdy8, sub8⟩⟩)
      clear N8 sub8 hy8 hdy8 nw8
      (try dsimp only)
      (try k_fold)))
  k_with "call 0" => k_dflt (
    (first | refine' made_use1 (by assumption) ?k1 ?k2 ?k3 ?k4 ?k5 ?kK ?hp ?hp2 ?kd ?ku ?_ | refine' made_use2 (by assumption) ?k1 ?k2 ?k3 ?k4 ?k5 ?kK ?hp ?hp2 ?kd ?ku ?_)
    (case k1 => k_asm)
    (case k2 => k_asm)
    (case k3 => k_asm)
    (case k4 => k_asm)
    (case k5 => k_asm)
    (case kK => exact rfl)
    (case hp => assumption)
    (case hp2 => assumption)
    (case kd => decide)
    (case ku => decide)
    intro y7 nw7 h7 tk7 F7 N7 sub7 q7
    obtain ⟨dx7, k17, k27, t17, t27, hy7, hdy7⟩ := q7
    have N7' := cb_drop N7 (List.forall_mem_cons.mpr ⟨hy7, List.forall_mem_cons.mpr ⟨hdy7, sub7⟩⟩)
    clear N7 sub7 hy7 hdy7 nw7
    (try dsimp only)
    (try k_fold))
  k_with "call 0" => k_dflt (
    (first | refine' mul_use (mulCt1 _ _ _ _) ?k1 ?k2 ?k3 ?k4 ?k5 ?kK ?q1 ?q2 ?hp ?hp2 ?hn1 ?hn2 ?hn3 ?hn4 ?kd ?ku ?_ | refine' mul_use (mulCt2 _ _ _ _) ?k1 ?k2 ?k3 ?k4 ?k5 ?kK ?q1 ?q2 ?hp ?hp2 ?hn1 ?hn2 ?hn3 ?hn4 ?kd ?ku ?_)
    (case k1 => k_asm)
    (case k2 => k_asm)
    (case k3 => k_asm)
    (case k4 => k_asm)
    (case k5 => k_asm)
    (case kK => exact rfl)
    (case q1 => exact ⟨_, _, _, _, _, by k_mem, by k_mem⟩)
    (case q2 => exact ⟨_, _, _, _, _, by k_mem, by k_mem⟩)
    (case hp => assumption)
    (case hp2 => assumption)
    (case hn1 => exact Int.emod_nonneg _ (by omega))
    (case hn2 => exact Int.emod_lt_of_pos _ (by omega))
    (case hn3 => exact Int.emod_nonneg _ (by omega))
    (case hn4 => exact Int.emod_lt_of_pos _ (by omega))
    (case kd => decide)
    (case ku => decide)
    intro y6 nw6 h6 tk6 F6 N6 sub6 q6
    obtain ⟨dx6, k16, k26, t16, t26, hy6, hdy6⟩ := q6
    have N6' := cb_drop N6 (List.forall_mem_cons.mpr ⟨hy6, List.forall_mem_cons.mpr ⟨hdy6, fun q hq => sub6 _ (List.Mem.tail _ (List.Mem.tail _ (List.Mem.tail _ (List.Mem.tail _ hq))))⟩⟩)
    clear N6 sub6 hy6 hdy6 nw6
    (try dsimp only [PySem.W.CmpBack])
    (try k_fold))
  k_with "call 0" => k_dflt (
    refine' mark_use ?k1 ?k2 ?k3 ?k4 ?k5 ?kK ?hp ?hp2 ?kd ?ku ?_
    (case k1 => k_asm)
    (case k2 => k_asm)
    (case k3 => k_asm)
    (case k4 => k_asm)
    (case k5 => k_asm)
    (case kK => exact rfl)
    (case hp => assumption)
    (case hp2 => assumption)
    (case kd => decide)
    (case ku => decide)
    intro v9 hv9 hlo9 hhi9 t9 h9 tk9 F9 N9
    (try dsimp only)
    (try k_fold))
  k_with "call 0" => k_dflt (
    refine' turned_use ?k1 ?k2 ?k3 ?k4 ?k5 ?kK ?hp ?hp2 ?kd ?ku ?_
    (case k1 => k_asm)
    (case k2 => k_asm)
    (case k3 => k_asm)
    (case k4 => k_asm)
    (case k5 => k_asm)
    (case kK => exact rfl)
    (case hp => assumption)
    (case hp2 => assumption)
    (case kd => decide)
    (case ku => decide)
    intro t9 h9 tk9 F9 N9
    (try dsimp only)
    (try k_fold))
  k_with "the end" => first
    | (refine' way1 ?hp ?hv; (case hv => assumption); (case hp => assumption))
    | (refine' way0_same ?hp ?he ?hv; (case hv => assumption); (case he => assumption); (case hp => assumption))
    | (refine' way0_ne ?hp ?hq ?he ?hv ?hv' ?hr; (case hv => assumption); (case hv' => assumption); (case he => assumption); (case hp => assumption); (case hq => assumption); (case hr => first | exact (if_pos ⟨by assumption, by assumption⟩).symm | exact (if_neg (fun h => absurd h.1 (by assumption))).symm | exact (if_neg (fun h => absurd h.2 (by assumption))).symm))
    | (refine' way2_even ?hp ?hv ?hL; (case hv => assumption); (case hp => assumption); (case hL => assumption))
    | (refine' way2_odd ?hp ?hv ?hL; (case hv => assumption); (case hp => assumption); (case hL => assumption))
    | (refine' way3_in ?hp ?hv ?hL; (case hv => assumption); (case hp => assumption); (case hL => assumption))
    | (refine' way3_out ?hp ?hv ?hL; (case hv => assumption); (case hp => assumption); (case hL => assumption))
    | (refine' way3_beq ?hp; (case hp => assumption))
  w_strict (k_go0; (all_goals try k_fold); (repeat' (first | (k_unfold; (try dsimp only)) | (k_end; wrow_close) | walk1 | (dsimp only; walk1) | (leave1; walk_say "STEP leave1"; try dsimp only) | fail "no step")); (all_goals (try k_data)); all_goals w_report))
end Mine


theorem PySem.Challenge.cw_bw0038_01_holds : PySem.Challenge.rw_bw0038_01.Holds := by
  exact Mine.whole
