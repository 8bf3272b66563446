import PyProof.Rows.All
import Wide.All
import OpenK.AllK
import Wide.FinOn
import PySem.Challenge.RW_ag5013_01

open PySem PySem.W PyProof.Rows
set_option Elab.async false
set_option maxRecDepth 100000
set_option maxHeartbeats 8000000
namespace Mine
open_top hd for PySem.Challenge.rw_ag5013_01
theorem calm : True := by
  w_top off
  trivial
end Mine

section
open PySem PySem.W PyProof.Rows
set_option Elab.async false
namespace Mine
noncomputable abbrev looseM : List Str := looseW hd.view_39 [] ++ List.map (fun x => x.name) (recsOf hd.view_39) ++ List.map (fun x => x.fst) (litsOf hd.view_39) ++ List.map (fun x => x.name) (clssOf hd.view_39 (looseW hd.view_39 []))
/-- what a call of the def at f gives back, for every frame that may call it -/
abbrev Gives1 (w : World) (mean : ExcName → Option Value) (mg mb : Str → Option Value) (f : Addr) (room : Nat) (vs : List Value) (R : Tok → Value) : Prop :=
  ∀ (news : List (Addr × Obj)) (dp un : Nat) (gd : Option (List Code)) (cn : Str) (cs : Scope) (a : Addr) (ccd : Value) (cl : List (Str × Addr)) (outer : List Env) (A₀ : Around) (base h₀ : Heap) (L : Addr) (m : Str → Option Value) (s : Shared) (Q E : Value → Shared → Prop),
    Below A₀ base outer h₀ → Fr h₀ L s.heap m → (hd.heap_39 w.params).In h₀ → News h₀ L s.heap news → Top topProg looseM mean mg mb h₀ → cs.kind = .function →
    dp + room < recursionLimit → un + 8 * room < cLine → CbRet h₀ L m news s Q R →
      wpAny (model PySem.Challenge.rw_ag5013_01.row.prog w) (ktrTop dp un gd cn cs L a ccd cl outer) (call (.ref f) vs) Q E s
end Mine
end

section
open PySem PySem.W PyProof.Rows
set_option Elab.async false
namespace Mine
/-- r is the whole root of x -/
structure Root (x r : Int) : Prop where
  nn : 0 ≤ r
  le : r * r ≤ x
  lt : x < (r + 1) * (r + 1)
theorem sq_le {a b : Int} (h0 : 0 ≤ a) (h : a ≤ b) : a * a ≤ b * b := Int.mul_le_mul h h h0 (Int.le_trans h0 h)
theorem le_of_sq {a b : Int} (h0 : 0 ≤ b) (h : a * a < (b + 1) * (b + 1)) : a ≤ b := by
  apply Int.not_lt.mp
  intro hlt
  have := sq_le (a := b + 1) (b := a) (by omega) (by omega)
  omega
theorem Root.unique {x r s : Int} (h : Root x r) (k : Root x s) : r = s := by
  have a := le_of_sq k.nn (Int.lt_of_le_of_lt h.le k.lt)
  have b := le_of_sq h.nn (Int.lt_of_le_of_lt k.le h.lt)
  omega
theorem Root.exists (n : Nat) : ∃ r, Root n r := by
  induction n with
  | zero => exact ⟨0, ⟨by omega, by omega, by omega⟩⟩
  | succ n ih =>
    obtain ⟨r, h⟩ := ih
    by_cases hc : ((n + 1 : Nat) : Int) < (r + 1) * (r + 1)
    · exact ⟨r, ⟨h.nn, by have := h.le; omega, hc⟩⟩
    · refine ⟨r + 1, ⟨by have := h.nn; omega, by omega, ?_⟩⟩
      have h1 := h.lt
      have h2 := h.nn
      have : (r + 1 + 1) * (r + 1 + 1) = (r + 1) * (r + 1) + 2 * r + 3 := by grind
      omega
theorem Root.ex {x : Int} (h : 0 ≤ x) : ∃ r, Root x r := by
  obtain ⟨r, hr⟩ := Root.exists x.toNat
  rw [Int.toNat_of_nonneg h] at hr
  exact ⟨r, hr⟩
/-- the whole root -/
noncomputable def isq (x : Int) : Int := if h : 0 ≤ x then Classical.choose (Root.ex h) else 0
theorem isq_root {x : Int} (h : 0 ≤ x) : Root x (isq x) := by
  unfold isq
  rw [dif_pos h]
  exact Classical.choose_spec (Root.ex h)
theorem Root.isq {x r : Int} (h : Root x r) : Mine.isq x = r := by
  have h0 : 0 ≤ x := Int.le_trans (Int.mul_nonneg h.nn h.nn) h.le
  exact (isq_root h0).unique h
theorem fdiv_bounds {x r : Int} (hr : 0 < r) : x.fdiv r * r ≤ x ∧ x < (x.fdiv r + 1) * r := by
  have e : x.fdiv r = x / r := Int.fdiv_eq_ediv_of_nonneg x (Int.le_of_lt hr)
  rw [e]
  have h1 := Int.mul_ediv_add_emod x r
  have h2 := Int.emod_nonneg x (Int.ne_of_gt hr)
  have h3 := Int.emod_lt_of_pos x hr
  have h4 : x / r * r = r * (x / r) := Int.mul_comm _ _
  have h5 : (x / r + 1) * r = r * (x / r) + r := by rw [Int.add_mul, Int.one_mul, h4]
  omega
theorem fdiv2 (a : Int) : 2 * a.fdiv 2 ≤ a ∧ a ≤ 2 * a.fdiv 2 + 1 := by
  have e : a.fdiv 2 = a / 2 := Int.fdiv_eq_ediv_of_nonneg a (by decide)
  rw [e]; omega
theorem newton_ge {x r S : Int} (hr : 0 < r) (hx : 0 ≤ x) (hS : Root x S) : S ≤ (r + x.fdiv r).fdiv 2 := by
  obtain ⟨h1, h2⟩ := fdiv_bounds (x := x) hr
  obtain ⟨h3, h4⟩ := fdiv2 (r + x.fdiv r)
  generalize hq : x.fdiv r = q at *
  generalize hy : (r + q).fdiv 2 = y at *
  apply Int.not_lt.mp
  intro hlt
  have q0 : 0 ≤ q := by rw [← hq]; exact Int.fdiv_nonneg hx (Int.le_of_lt hr)
  have a : r + (q + 1) ≤ 2 * S := by omega
  have b := sq_le (a := r + (q + 1)) (b := 2 * S) (by omega) a
  have c : (r - (q + 1)) * (r - (q + 1)) ≥ 0 := by
    rcases Int.le_total 0 (r - (q + 1)) with h | h
    · exact Int.mul_nonneg h h
    · exact Int.mul_nonneg_of_nonpos_of_nonpos h h
  have d := hS.le
  have e1 : (r + (q + 1)) * (r + (q + 1)) = (r - (q + 1)) * (r - (q + 1)) + 4 * ((q + 1) * r) := by grind
  have e2 : 2 * S * (2 * S) = 4 * (S * S) := by grind
  omega
theorem newton_stop {x r S : Int} (hr : 0 < r) (hS : Root x S) (hSr : S ≤ r) (h : ¬ (r + x.fdiv r).fdiv 2 < r) : r = S := by
  obtain ⟨h1, h2⟩ := fdiv_bounds (x := x) hr
  obtain ⟨h3, h4⟩ := fdiv2 (r + x.fdiv r)
  generalize hq : x.fdiv r = q at *
  have a : r ≤ q := by omega
  have b : r * r ≤ q * r := Int.mul_le_mul_of_nonneg_right a (Int.le_of_lt hr)
  have c := le_of_sq hS.nn (a := r) (by have := hS.lt; omega)
  omega
theorem newton_pos {x r : Int} (hr : 0 < r) (hx : 0 < x) (h : (r + x.fdiv r).fdiv 2 < r) : 0 < (r + x.fdiv r).fdiv 2 := by
  obtain ⟨h1, h2⟩ := fdiv_bounds (x := x) hr
  obtain ⟨h3, h4⟩ := fdiv2 (r + x.fdiv r)
  have q0 : 0 ≤ x.fdiv r := Int.fdiv_nonneg (Int.le_of_lt hx) (Int.le_of_lt hr)
  by_cases h5 : x.fdiv r = 0
  · rw [h5] at h1 h2 h3 h4 ⊢
    have : r ≠ 1 := by rintro rfl; omega
    omega
  · omega
theorem start_ge {x S : Int} (hS : Root x S) (hx : 0 < x) : S ≤ 1 * 2 ^ ((((Builtin.Int.intBits x : Nat) : Int) + 1).fdiv (2 ^ (1 : Int).toNat)).toNat := by
  have hb : x.natAbs < 2 ^ (Builtin.Int.intBits x) := lt_pow_of_bits (Nat.le_refl _) (Nat.le_refl _)
  generalize Builtin.Int.intBits x = k at *
  have e : (((k : Int) + 1).fdiv (2 ^ (1 : Int).toNat)).toNat = (k + 1) / 2 := by
    rw [show (2 : Int) ^ (1 : Int).toNat = 2 from rfl, Int.fdiv_eq_ediv_of_nonneg _ (by decide)]
    omega
  rw [e, Int.one_mul]
  have hx' : x < 2 ^ k := by
    have : ((x.natAbs : Nat) : Int) < ((2 ^ k : Nat) : Int) := by exact_mod_cast hb
    rw [Int.natCast_pow] at this
    change ((x.natAbs : Nat) : Int) < 2 ^ k at this
    omega
  have h2 : (2 : Int) ^ k ≤ 2 ^ ((k + 1) / 2) * 2 ^ ((k + 1) / 2) := by
    rw [← Int.pow_add]
    exact_mod_cast Nat.pow_le_pow_right (by decide : 0 < 2) (by omega : k ≤ (k + 1) / 2 + (k + 1) / 2)
  have hp : (0 : Int) ≤ 2 ^ ((k + 1) / 2) := Int.le_of_lt (Int.pow_pos (by decide))
  generalize (2 : Int) ^ ((k + 1) / 2) = p at *
  refine le_of_sq hp ?_
  have := hS.le
  have : (p + 1) * (p + 1) = p * p + 2 * p + 1 := by grind
  omega
end Mine
end

section
open PySem PySem.W PyProof.Rows
set_option Elab.async false
set_option maxRecDepth 100000
set_option maxHeartbeats 8000000
namespace Mine
local macro_rules | `(tactic| walk_at "no such key 0") => `(tactic| done)
theorem log2_le {y c : Int} (h0 : 0 < y) (h : y ≤ c) (hc : c.natAbs.log2 < 9000) : y.natAbs.log2 < 9000 := by
  have h2 : c.natAbs < 2 ^ 9000 := (Nat.log2_lt (by omega)).mp hc
  have h1 : y.natAbs < 2 ^ 9000 := Nat.lt_of_le_of_lt (by omega) h2
  exact (Nat.log2_lt (by omega)).mpr h1
theorem start_n {x : Int} (hb : Builtin.Int.intBits x ≤ 1000) : 0 ≤ (((Builtin.Int.intBits x : Nat) : Int) + 1).fdiv (2 ^ (1 : Int).toNat) ∧ (((Builtin.Int.intBits x : Nat) : Int) + 1).fdiv (2 ^ (1 : Int).toNat) ≤ 600 := by
  rw [show (2 : Int) ^ (1 : Int).toNat = 2 from rfl, Int.fdiv_eq_ediv_of_nonneg _ (by decide)]
  omega
theorem start_log {n : Int} (h1 : n ≤ 600) : ((1 : Int) * 2 ^ n.toNat).natAbs.log2 < 9000 := by
  rw [Int.one_mul]
  have e : ((2 : Int) ^ n.toNat).natAbs = 2 ^ n.toNat := by rw [Int.natAbs_pow]; rfl
  rw [e, Nat.log2_two_pow]
  omega
theorem start_pos {n : Int} : 0 < (1 : Int) * 2 ^ n.toNat := by
  rw [Int.one_mul]
  exact Int.pow_pos (by decide)
local macro_rules | `(tactic| walk_at "binaryOp FloorDiv int int") => `(tactic| (k_here; (with_reducible refine floordiv_int ?kbe ?_ (Or.inl (PyProof.noPylong_of_log2 ?kbp))); (case kbe => omega); (case kbp => exact log2_le (by omega) (by assumption) (by assumption))))
local macro_rules | `(tactic| walk_at "binaryOp LShift int int") => `(tactic| (k_here; (with_reducible refine lshift_int_small ?kb1 ?kb2 ?kb3 ?_); (case kb1 => exact (start_n (by assumption)).1); (case kb2 => exact Int.le_trans (start_n (by assumption)).2 (by decide)); (case kb3 => decide)))
local macro_rules | `(tactic| walk_at "binaryOp RShift int int") => `(tactic| (k_here; (with_reducible refine rshift_int ?kb1 ?_); (case kb1 => decide)))
theorem ns_end {x v r : Int} (hr : Root x r) (h1 : r ≤ v) (h2 : 0 < v) (h : v ≤ (v + x.fdiv v).fdiv (2 ^ (1 : Int).toNat)) : v = r := by
  rw [show (2 : Int) ^ (1 : Int).toNat = 2 from rfl] at h
  exact newton_stop h2 hr h1 (Int.not_lt.mpr h)
theorem ns_state {x v r c : Int} (hx : 0 < x) (hr : Root x r) (h2 : 0 < v) (h3 : v ≤ c) (h : ¬ v ≤ (v + x.fdiv v).fdiv (2 ^ (1 : Int).toNat)) :
    r ≤ (v + x.fdiv v).fdiv (2 ^ (1 : Int).toNat) ∧ 0 < (v + x.fdiv v).fdiv (2 ^ (1 : Int).toNat) ∧ (v + x.fdiv v).fdiv (2 ^ (1 : Int).toNat) ≤ c := by
  rw [show (2 : Int) ^ (1 : Int).toNat = 2 from rfl] at h ⊢
  have h4 := Int.not_le.mp h
  exact ⟨newton_ge h2 (Int.le_of_lt hx) hr, newton_pos h2 hx h4, by omega⟩
theorem ns_less {x v : Int} (h2 : 0 < v) (h : ¬ v ≤ (v + x.fdiv v).fdiv (2 ^ (1 : Int).toNat)) : ((v + x.fdiv v).fdiv (2 ^ (1 : Int).toNat)).toNat < v.toNat := by omega
theorem isqrt_small_gives (w : World) (mean : ExcName → Option Value) (mg mb : Str → Option Value) (x : Int) (t : Tok) (h0 : 0 ≤ x) (h1 : Builtin.Int.intBits x ≤ 1000) : Gives1 w mean mg mb 28 1 [.int x t] (fun t => .int (isq x) t) := by
  have hr := isq_root h0
  generalize isq x = r at *
  unfold Gives1; k_fill
  intro news dp un gd cn cs a ccd cl outer A₀ base h₀ L m s Q E B F X N T hk hdp hun hret
  refine wpAny_call ?_
  k_dflt cell_enter
  iterate 28 (any_goals walk1)
  rotate_left
  · obtain rfl : x = 0 := by assumption
    obtain rfl : r = 0 := hr.unique ⟨by decide, by decide, by decide⟩
    cb_end hret
  generalize hc : (1 : Int) * 2 ^ ((((Builtin.Int.intBits x : Nat) : Int) + 1).fdiv (2 ^ (1 : Int).toNat)).toNat = c at *
  have hc0 : 0 < c := hc ▸ start_pos
  have hcl : c.natAbs.log2 < 9000 := hc ▸ start_log (start_n h1).2
  have hx0 : 0 < x := by omega
  have hrc : r ≤ c := hc ▸ start_ge hr hx0
  clear hc
  k_with "state" => exact ns_state hx0 hr (by assumption) (by assumption) (by assumption)
  k_with "measure" => exact ns_less (by assumption) (by assumption)
  k_with "tree" => exact ns_end hr (by assumption) (by assumption) (by assumption)
  k_while (fun _ v => r ≤ v ∧ 0 < v ∧ v ≤ c) (fun _ v => v.toNat) "r"
  k_steps
  cb_end hret
end Mine
end

section
open PySem PySem.W PyProof.Rows
set_option Elab.async false
set_option maxRecDepth 100000
set_option maxHeartbeats 8000000
namespace Mine
local macro_rules | `(tactic| walk_at "no such key 0") => `(tactic| done)
local macro_rules | `(tactic| walk_at "no such key 1") => `(tactic| done)
local macro_rules | `(tactic| walk_at "no such key 2") => `(tactic| done)
local macro_rules | `(tactic| walk_at "no such key 3") => `(tactic| done)
local macro_rules | `(tactic| walk_at "no such key 4") => `(tactic| done)
theorem gives_ask {w : World} {mean : ExcName → Option Value} {mg mb : Str → Option Value} {f : Addr} {room : Nat} {vs : List Value} {R : Tok → Value} {news : List (Addr × Obj)} {dp un : Nat} {gd : Option (List Code)} {cn : Str} {cs : Scope} {a : Addr} {ccd : Value} {cl : List (Str × Addr)} {outer : List Env} {A₀ : Around} {base h₀ : Heap} {L : Addr} {m : Str → Option Value} {s : Shared} {Q E : Value → Shared → Prop}
    (G : Gives1 w mean mg mb f room vs R) (B : Below A₀ base outer h₀) (F : Fr h₀ L s.heap m) (X : (hd.heap_39 w.params).In h₀) (N : News h₀ L s.heap news) (T : Top topProg looseM mean mg mb h₀) (hk : cs.kind = .function)
    (hd : dp + room < recursionLimit) (hu : un + 8 * room < cLine) (ret : CbRet h₀ L m news s Q R) :
      wpAny (model PySem.Challenge.rw_ag5013_01.row.prog w) (ktrTop dp un gd cn cs L a ccd cl outer) (call (.ref f) vs) Q E s := G _ _ _ _ _ _ _ _ _ _ _ _ _ _ _ _ _ _ B F X N T hk hd hu ret
theorem isqrt_small_use {w : World} {mean : ExcName → Option Value} {mg mb : Str → Option Value} {x : Int} {t : Tok} (h0 : 0 ≤ x) (h1 : Builtin.Int.intBits x ≤ 1000) : Gives1 w mean mg mb 28 1 [.int x t] (fun t => .int (isq x) t) := isqrt_small_gives w mean mg mb x t h0 h1
theorem isq_mul_ok {x : Int} (h0 : 0 ≤ x) (h1 : Builtin.Int.intBits x ≤ 1000) : IntMulOk (isq x) (isq x) := by
  have h := isq_root h0
  have h2 : isq x ≤ x := by
    rcases Int.lt_or_le (isq x) 1 with h3 | h3
    · omega
    · have := Int.mul_le_mul_of_nonneg_left h3 h.nn
      have := h.le
      omega
  have h3 : Builtin.Int.intBits (isq x) ≤ 1000 := bits_of_natAbs_le (by have := h.nn; omega) h1
  exact IntMulOk.of_le h3 h3 (by decide)
local macro_rules | `(tactic| walk_at "call ref") => `(tactic| (k_here; (with_reducible show wpAny _ _ (call (Value.ref 28) [Value.int _ _]) _ _ _); k_dflt (refine' gives_ask (isqrt_small_use ?h0 ?h1) ?k1 ?k2 ?k3 ?k4 ?k5 ?kK ?kd ?ku ?_; (case h0 => assumption); (case h1 => assumption); (case k1 => k_asm); (case k2 => k_asm); (case k3 => k_asm); (case k4 => k_asm); (case k5 => k_asm); (case kK => first | exact rfl | assumption); (case kd => ktr_room); (case ku => ktr_units)); intro t9 h9 tk9 F9 N9; (try dsimp only); (try k_fold)))
local macro_rules | `(tactic| walk_at "binaryOp Mult int int") => `(tactic| (k_here; (with_reducible refine mul_int ?_ ?km); (case km => exact isq_mul_ok (by assumption) (by assumption))))
/-- a call that gives back a new pair of ints -/
abbrev GivesPair (w : World) (mean : ExcName → Option Value) (mg mb : Str → Option Value) (f : Addr) (room : Nat) (vs : List Value) (x y : Int) : Prop :=
  ∀ (news : List (Addr × Obj)) (dp un : Nat) (gd : Option (List Code)) (cn : Str) (cs : Scope) (a : Addr) (ccd : Value) (cl : List (Str × Addr)) (outer : List Env) (A₀ : Around) (base h₀ : Heap) (L : Addr) (m : Str → Option Value) (s : Shared) (Q E : Value → Shared → Prop),
    Below A₀ base outer h₀ → Fr h₀ L s.heap m → (hd.heap_39 w.params).In h₀ → News h₀ L s.heap news → Top topProg looseM mean mg mb h₀ → cs.kind = .function →
    dp + room < recursionLimit → un + 8 * room < cLine →
    (∀ (q : Addr) (t u : Tok) (h' : Heap) (tk' : Nat), Fr h₀ L h' m → News h₀ L h' ((q, { cls := .type "tuple", data := .seq #[.int x t, .int y u] }) :: news) → (∀ p ∈ news, p.1 < q) → Q (.ref q) { s with heap := h', toks := tk' }) →
      wpAny (model PySem.Challenge.rw_ag5013_01.row.prog w) (ktrTop dp un gd cn cs L a ccd cl outer) (call (.ref f) vs) Q E s
theorem sqrtrem_gives (w : World) (mean : ExcName → Option Value) (mg mb : Str → Option Value) (x : Int) (t : Tok) (h0 : 0 ≤ x) (h1 : Builtin.Int.intBits x ≤ 1000) : GivesPair w mean mg mb 35 2 [.int x t] (isq x) (x - isq x * isq x) := by
  unfold GivesPair; k_fill
  intro news dp un gd cn cs a ccd cl outer A₀ base h₀ L m s Q E B F X N T hk hdp hun hret
  refine wpAny_call ?_
  k_dflt cell_enter
  k_steps
  exact hret _ _ _ _ _ (by assumption) (by assumption) (by assumption)
theorem pair_ask {w : World} {mean : ExcName → Option Value} {mg mb : Str → Option Value} {f : Addr} {room : Nat} {vs : List Value} {x y : Int} {news : List (Addr × Obj)} {dp un : Nat} {gd : Option (List Code)} {cn : Str} {cs : Scope} {a : Addr} {ccd : Value} {cl : List (Str × Addr)} {outer : List Env} {A₀ : Around} {base h₀ : Heap} {L : Addr} {m : Str → Option Value} {s : Shared} {Q E : Value → Shared → Prop}
    (G : GivesPair w mean mg mb f room vs x y) (B : Below A₀ base outer h₀) (F : Fr h₀ L s.heap m) (X : (hd.heap_39 w.params).In h₀) (N : News h₀ L s.heap news) (T : Top topProg looseM mean mg mb h₀) (hk : cs.kind = .function)
    (hd : dp + room < recursionLimit) (hu : un + 8 * room < cLine)
    (ret : ∀ (q : Addr) (t u : Tok) (h' : Heap) (tk' : Nat), Fr h₀ L h' m → News h₀ L h' ((q, { cls := .type "tuple", data := .seq #[.int x t, .int y u] }) :: news) → (∀ p ∈ news, p.1 < q) → Q (.ref q) { s with heap := h', toks := tk' }) :
      wpAny (model PySem.Challenge.rw_ag5013_01.row.prog w) (ktrTop dp un gd cn cs L a ccd cl outer) (call (.ref f) vs) Q E s := G _ _ _ _ _ _ _ _ _ _ _ _ _ _ _ _ _ _ B F X N T hk hd hu ret
theorem sqrtrem_use {w : World} {mean : ExcName → Option Value} {mg mb : Str → Option Value} {x : Int} {t : Tok} (h0 : 0 ≤ x) (h1 : Builtin.Int.intBits x ≤ 1000) : GivesPair w mean mg mb 35 2 [.int x t] (isq x) (x - isq x * isq x) := sqrtrem_gives w mean mg mb x t h0 h1
local macro_rules | `(tactic| walk_at "call ref") => `(tactic| (k_here; (with_reducible show wpAny _ _ (call (Value.ref 35) [Value.int _ _]) _ _ _); k_dflt (refine' pair_ask (sqrtrem_use ?h0 ?h1) ?k1 ?k2 ?k3 ?k4 ?k5 ?kK ?kd ?ku ?_; (case h0 => assumption); (case h1 => assumption); (case k1 => k_asm); (case k2 => k_asm); (case k3 => k_asm); (case k4 => k_asm); (case k5 => k_asm); (case kK => first | exact rfl | assumption); (case kd => ktr_room); (case ku => ktr_units)); intro q9 t9 u9 h9 tk9 F9 N9 l9; (try dsimp only); (try k_lt l9); (try k_fold)))
theorem isqrt_gives (w : World) (mean : ExcName → Option Value) (mg mb : Str → Option Value) (x : Int) (t : Tok) (h0 : 0 ≤ x) (h1 : Builtin.Int.intBits x ≤ 1000) : Gives1 w mean mg mb 42 3 [.int x t] (fun t => .int (isq x) t) := by
  unfold Gives1; k_fill
  intro news dp un gd cn cs a ccd cl outer A₀ base h₀ L m s Q E B F X N T hk hdp hun hret
  refine wpAny_call ?_
  k_dflt cell_enter
  k_steps
  all_goals cb_end hret
theorem isqrt_use {w : World} {mean : ExcName → Option Value} {mg mb : Str → Option Value} {x : Int} {t : Tok} (h0 : 0 ≤ x) (h1 : Builtin.Int.intBits x ≤ 1000) : Gives1 w mean mg mb 42 3 [.int x t] (fun t => .int (isq x) t) := isqrt_gives w mean mg mb x t h0 h1
local macro_rules | `(tactic| walk_at "call ref") => `(tactic| (k_here; (with_reducible show wpAny _ _ (call (Value.ref 42) [Value.int _ _]) _ _ _); k_dflt (refine' gives_ask (isqrt_use ?h0 ?h1) ?k1 ?k2 ?k3 ?k4 ?k5 ?kK ?kd ?ku ?_; (case h0 => assumption); (case h1 => assumption); (case k1 => k_asm); (case k2 => k_asm); (case k3 => k_asm); (case k4 => k_asm); (case k5 => k_asm); (case kK => first | exact rfl | assumption); (case kd => ktr_room); (case ku => ktr_units)); intro t9 h9 tk9 F9 N9; (try dsimp only); (try k_fold)))
local macro_rules | `(tactic| walk_at "binaryOp LShift int int") => `(tactic| (k_here; (with_reducible refine lshift_int ?kb1 ?kb2 ?_); (case kb1 => assumption); (case kb2 => assumption)))
theorem sqrt_fixed_gives (w : World) (mean : ExcName → Option Value) (mg mb : Str → Option Value) (x n : Int) (t u : Tok) (hn : 0 ≤ n) (hs : ((Builtin.Int.intBits x : Nat) : Int) + n ≤ 2 ^ 27) (h0 : 0 ≤ x * 2 ^ n.toNat) (h1 : Builtin.Int.intBits (x * 2 ^ n.toNat) ≤ 1000) :
    Gives1 w mean mg mb 49 4 [.int x t, .int n u] (fun t => .int (isq (x * 2 ^ n.toNat)) t) := by
  unfold Gives1; k_fill
  intro news dp un gd cn cs a ccd cl outer A₀ base h₀ L m s Q E B F X N T hk hdp hun hret
  refine wpAny_call ?_
  k_dflt cell_enter
  k_steps
  all_goals cb_end hret
end Mine
end

section
open PySem PySem.W PyProof.Rows
set_option Elab.async false
set_option maxRecDepth 100000
set_option maxHeartbeats 8000000
namespace Mine
def facI : Nat → Int
  | 0 => 1
  | n + 1 => facI n * ((n : Int) + 1)
theorem facI_bits (n : Nat) (h : n ≤ 200) : Builtin.Int.intBits (facI n) ≤ 8 * n + 1 := by
  induction n with
  | zero => decide
  | succ n ih =>
    have h1 : Builtin.Int.intBits ((n : Int) + 1) ≤ 8 := intBits_le_iff.mpr (by omega)
    have h2 := bits_mul (ih (by omega)) h1
    show Builtin.Int.intBits (facI n * ((n : Int) + 1)) ≤ _
    omega
theorem fold_fac (k : Nat) : (List.foldl (fun (σ : Int × Unit) k => (σ.1 * k, ())) (1, ()) (rangeInts 2 1 k)).1 = facI (k + 1) := by
  induction k with
  | zero => rfl
  | succ k ih =>
    rw [rangeInts_snoc, List.foldl_append]
    show (List.foldl (fun (σ : Int × Unit) k => (σ.1 * k, ())) (1, ()) (rangeInts 2 1 k)).1 * (2 + (k : Int) * 1) = facI (k + 1) * (((k + 1 : Nat) : Int) + 1)
    rw [ih]
    congr 1
    omega
theorem ifac_gives (w : World) (mean : ExcName → Option Value) (mg mb : Str → Option Value) (n : Int) (t : Tok) (h0 : 1 ≤ n) (h1 : n ≤ 200) : Gives1 w mean mg mb 56 1 [.int n t] (fun t => .int (facI n.toNat) t) := by
  unfold Gives1; k_fill
  intro news dp un gd cn cs a ccd cl outer A₀ base h₀ L m s Q E B F X N T hk hdp hun hret
  refine wpAny_call ?_
  k_dflt cell_enter
  k_steps
  refine cb_retI hret ?_ (by assumption) (by assumption)
  refine (fold_fac _).trans ?_
  congr 1
  omega
end Mine
end

section
open PySem PySem.W PyProof.Rows
set_option Elab.async false
set_option maxRecDepth 100000
set_option maxHeartbeats 4000000
namespace Mine
theorem slot_int_pow3 : Slot "int" "__pow__" "int.__pow__" :=
  .of (owner := "int") (n := "__pow__") (by rw [typeLookup_type, builtinLookup_eq_fast]; kernel_rfl) (by decide +kernel) (by decide +kernel) (by decide +kernel)
    (by first | exact .inl (by decide +kernel) | exact .inr (by decide +kernel)) (by rw [isSubtype_type]; kernel_rfl)
theorem args_int_pow3 (a b c : Value) : argsOk "int.__pow__" ⟨[a, b, c], []⟩ := by unfold argsOk; kernel_rfl
theorem entry_powT : entryFor table "pow" = some Builtin.«pow» := entryFor_of_fast (by kernel_rfl)
theorem kind_powT : builtinKind "pow" = none := by decide +kernel
theorem plain_powT : plainId "pow" = true := by decide +kernel
theorem args_pow3 (a b c : Value) : argsOk "pow" ⟨[a, b, c], []⟩ := by unfold argsOk; kernel_rfl
theorem bind_pow (a b c : Value) : Builtin.Builtins.bindParams "pow" ["base", "exp", "mod"] 2 ⟨[a, b, c], []⟩ = pure [some a, some b, some c] := by with_unfolding_all rfl
section
variable {prog : Program} {w : World} {A : Around} {E : Value → Shared → Prop} {s : Shared} {a d n : Int} {t u v : Tok} {Q : Value → Shared → Prop}
theorem call_int_pow3 (hd : 0 ≤ d) (hn : 1 < n) (h : Q (.int ((Builtin.powMod (a % n).toNat d.natAbs n.natAbs : Nat) : Int) s.toks) { s with toks := s.toks + 1 }) :
    wpAny (model prog w) A (call (.builtin "int.__pow__") [.int a t, .int d u, .int n v]) (fun v s' => v ≠ .notImplemented ∧ Q v s') E s := by
  refine wpAny_call_entry slot_int_pow3 (typeIs_int s a t) entry_int_pow ?_ (args_int_pow3 _ _ _)
  have e0 : (n == 0) = false := by simp; omega
  have e1 : (n.natAbs == 1) = false := by simp; omega
  have e2 : ((n.natAbs : Nat) : Int) = n := by omega
  have e3 : ¬ d < 0 := by omega
  have e4 : (decide (n < 0)) = false := decide_eq_false (by omega)
  show wpAny _ _ (if (n == 0) = true then _ else _) _ _ s
  rw [if_neg (by rw [e0]; exact Bool.false_ne_true)]
  show wpAny _ _ (if (n.natAbs == 1) = true then _ else _) _ _ s
  rw [if_neg (by rw [e1]; exact Bool.false_ne_true)]
  show wpAny _ _ (if d < 0 then _ else _) _ _ s
  rw [if_neg e3]
  show wpAny _ _ (retInt (if (decide (n < 0) && _) = true then _ else _)) _ _ s
  rw [e4, Bool.false_and, if_neg Bool.false_ne_true, e2]
  exact wpAny_ret_mkInt ⟨by simp, h⟩
theorem pow3 (hd : 0 ≤ d) (hn : 1 < n) (h : Q (.int ((Builtin.powMod (a % n).toNat d.natAbs n.natAbs : Nat) : Int) s.toks) { s with toks := s.toks + 1 }) :
    wpAny (model prog w) A (call (.builtin "pow") [.int a t, .int d u, .int n v]) Q E s := by
  refine Calls.call_function_entry kind_powT plain_powT entry_powT (args_pow3 _ _ _) ?_
  unfold Builtin.«pow»
  rw [bind_pow]
  refine wpAny_bind (wpAny_pure ?_)
  show wpAny _ _ (rule "pow.mod" >>= _) _ _ s
  refine wpAny_bind (wpAny_rule ?_)
  refine wpAny_bind (wpAny_pure (a := Value.type "int") ?_)
  dsimp only
  refine wpAny_bind (wpAny_of_eq slot_int_pow3.lookup ?_)
  dsimp only
  refine wpAny_bind (wpAny_callSpecial?_slot (typeIs_int s a t) slot_int_pow3 (wpAny_mono (call_int_pow3 hd hn h) (fun r s' h' => ?_) fun _ _ x => x))
  obtain ⟨h1, h2⟩ := h'
  dsimp only
  rw [if_pos (bne_iff_ne.mpr h1)]
  exact wpAny_pure ⟨_, rfl, h2⟩
end
end Mine
end

section
open PySem PySem.W PyProof.Rows
set_option Elab.async false
set_option maxRecDepth 100000
set_option maxHeartbeats 8000000
namespace Mine
def trI (n : Int) : Int := ((Builtin.Int.intBits (Builtin.bitAnd n (-n)) : Nat) : Int) - 1
theorem trailing_gives (w : World) (mean : ExcName → Option Value) (mg mb : Str → Option Value) (n : Int) (t : Tok) (h0 : n ≠ 0) : Gives1 w mean mg mb 21 1 [.int n t] (fun t => .int (trI n) t) := by
  unfold Gives1; k_fill
  intro news dp un gd cn cs a ccd cl outer A₀ base h₀ L m s Q E B F X N T hk hdp hun hret
  refine wpAny_call ?_
  k_dflt cell_enter
  k_steps
  all_goals (first | exact absurd (by assumption) h0 | exact cb_retI hret rfl (by assumption) (by assumption))
end Mine
end

section
open PySem PySem.W PyProof.Rows
set_option Elab.async false
set_option maxRecDepth 100000
namespace Mine
/-- the heap below the frame at L, the cells in hid hidden -/
def cutAt (h : Heap) (L : Nat) (hid : List Addr) : Heap := hideAll ⟨h.objs.extract 0 L, h.life⟩ hid
theorem cut_size {h : Heap} {L : Nat} {hid : List Addr} (hL : L ≤ h.objs.size) : (cutAt h L hid).objs.size = L := by
  unfold cutAt
  rw [hideAll_size]
  simp only [Array.size_extract]
  omega
theorem cut0_get {h : Heap} {L b : Nat} (hb : b < L) : (Heap.get? ⟨h.objs.extract 0 L, h.life⟩ b) = h.get? b := by
  unfold Heap.get?
  rw [show (h.objs.extract 0 L)[b]? = h.objs[b]? by
    rw [Array.getElem?_extract]
    simp only [Nat.zero_add, Nat.sub_zero]
    by_cases h2 : b < h.objs.size
    · rw [if_pos (by omega)]
    · rw [if_neg (by omega), Array.getElem?_eq_none (by omega)]]
theorem cut_get {h : Heap} {L b : Nat} {hid : List Addr} {o : Obj} (hb : b < L) (hn : b ∉ hid) (e : h.get? b = some o) : (cutAt h L hid).get? b = some o :=
  hideAll_get _ ((cut0_get hb).trans e) hn
theorem of_cut {h : Heap} {L b : Nat} {hid : List Addr} {o : Obj} (hL : L ≤ h.objs.size) (e : (cutAt h L hid).get? b = some o) : h.get? b = some o := by
  have hb : b < L := by
    have := Heap.lt_size e
    rwa [cut_size hL] at this
  have e1 := of_hideAll hid e
  rw [cut0_get hb] at e1
  exact e1
structure Rebased (g g' h : Heap) (L : Addr) (m : Str → Option Value) (own news : List (Addr × Obj)) : Prop where
  stays : ∀ b o, g.get? b = some o → g'.get? b = some o
  size : g.objs.size ≤ g'.objs.size
  fr : Fr g' L h m
  ns : News g' L h own
  old : ∀ p ∈ news, g'.get? p.1 = some p.2
theorem rebase {g h : Heap} {L : Addr} {m : Str → Option Value} {own news : List (Addr × Obj)} (hid : List Addr) (F : Fr g L h m) (N : News g L h (own ++ news)) (hlt : ∀ p ∈ news, p.1 < L) (hn : ∀ p ∈ news, p.1 ∉ hid)
    (ho : ∀ p ∈ own, L ≤ p.1 ∨ p.1 ∈ hid) (hg : ∀ a ∈ hid, g.get? a = none) : ∃ g', Rebased g g' h L m own news := by
  have hL : L ≤ h.objs.size := Nat.le_of_lt F.ns.lt
  refine ⟨cutAt h L hid, fun b o e => ?_, ?_, ⟨F.ns, fun b o e => of_cut hL e, by rw [cut_size hL]; exact Nat.le_refl _⟩, fun p hp => ?_, fun p hp => ?_⟩
  · refine cut_get (Nat.lt_of_lt_of_le (Heap.lt_size e) F.above) (fun q => ?_) (F.keep _ _ e)
    rw [hg b q] at e
    cases e
  · rw [cut_size hL]
    exact F.above
  · have h1 := N p (List.mem_append_left _ hp)
    refine ⟨h1.1, h1.2.1, ?_⟩
    rcases ho p hp with h2 | h2
    · exact Heap.get?_none_of_le (by rw [cut_size hL]; exact h2)
    · exact hideAll_none _ h2
  · have h1 := N p (List.mem_append_right _ hp)
    exact cut_get (hlt p hp) (hn p hp) h1.1
/-- what stands behind the body, told by the rebased frame -/
theorem leave_rebased {h₀ g g' h : Heap} {L L₁ : Addr} {m m₁ : Str → Option Value} {own news : List (Addr × Obj)} {R : Result → Shared → Prop} {v : Value} {s' : Shared} (B : Rebased g g' h L₁ m₁ own news) (hng : ∀ p ∈ news, g.get? p.1 = none)
    (k : LeaveK h₀ L m g' (fun r s'' => News h₀ L s''.heap news → R r s'') v s') : LeaveK h₀ L m g R v s' := by
  obtain ⟨L', m', own', F', N', k⟩ := k
  have hnews : ∀ p ∈ news, s'.heap.get? p.1 = some p.2 := fun p hp => F'.keep _ _ (B.old p hp)
  have hlt : ∀ p ∈ news, p.1 < L' := fun p hp => Nat.lt_of_lt_of_le (Heap.lt_size (B.old p hp)) F'.above
  refine ⟨L', m', own' ++ news, ⟨F'.ns, fun b o e => F'.keep _ _ (B.stays b o e), Nat.le_trans B.size F'.above⟩, fun p hp => ?_, fun F N => ?_⟩
  · rcases List.mem_append.mp hp with hp | hp
    · have h1 := N' p hp
      refine ⟨h1.1, h1.2.1, ?_⟩
      cases q : g.get? p.1 with
      | none => rfl
      | some o => rw [B.stays _ _ q] at h1; cases h1.2.2
    · exact ⟨hnews p hp, Nat.ne_of_lt (hlt p hp), hng p hp⟩
  · exact k F (fun p hp => N p (List.mem_append_left _ hp)) fun p hp => N p (List.mem_append_right _ hp)
theorem below_on {A : Around} {base h₀ h₁ : Heap} {outer : List Env} (B : Below A base outer h₀) (k : ∀ b o, h₀.get? b = some o → h₁.get? b = some o) : Below A base outer h₁ :=
  ⟨B.stack, fun b o e => k _ _ (B.stays b o e), B.frames.of_keeps fun b o e _ => ⟨o, k _ _ e, rfl⟩⟩
/-- into the body, with a ledger that is written out -/
theorem body_rebased {M : Model} {A A' : Around} {body : List Stmt} {env : Env} {h₀ g h : Heap} {L L₁ : Addr} {m m₁ : Str → Option Value} {own news : List (Addr × Obj)} {R : Result → Shared → Prop} {E : Value → Shared → Prop} {s : Shared}
    {base : Heap} {outer : List Env} {K : Frag} {p : Program} {loose : List Str} {mean : ExcName → Option Value} {mg mb : Str → Option Value}
    (hid : List Addr) (FG : Fr h₀ L g m) (F : Fr g L₁ h m₁) (N : News g L₁ h (own ++ news)) (B : Below A' base outer g) (X : K.In g) (T : Top p loose mean mg mb g) (hlt : ∀ p ∈ news, p.1 < L₁) (hn : ∀ p ∈ news, p.1 ∉ hid)
    (ho : ∀ p ∈ own, L₁ ≤ p.1 ∨ p.1 ∈ hid) (hg : ∀ a ∈ hid, g.get? a = none)
    (k : ∀ g', Fr h₀ L g' m → Fr g' L₁ h m₁ → News g' L₁ h own → Below A' base outer g' → K.In g' → Top p loose mean mg mb g' → (∀ b o, g.get? b = some o → g'.get? b = some o) → (∀ p ∈ news, g'.get? p.1 = some p.2) →
      wpAny M A (execs body env) (fun fl s' => LeaveK h₀ L m g' (fun r s'' => News h₀ L s''.heap news → R r s'') (match fl with | .ret v => v | _ => .none) s') E s) :
    wpAny M A (execs body env) (fun fl s' => LeaveK h₀ L m g R (match fl with | .ret v => v | _ => .none) s') E s := by
  obtain ⟨g', Z⟩ := rebase hid F N hlt hn ho hg
  refine wpAny_mono (k g' ⟨FG.ns.keeps Z.stays, fun b o e => Z.stays _ _ (FG.keep _ _ e), FG.above⟩ Z.fr Z.ns (below_on B Z.stays) (X.keeps Z.stays) (T.keeps Z.stays) Z.stays Z.old) (fun fl s' q => ?_) fun _ _ x => x
  exact leave_rebased Z (fun p hp => (N p (List.mem_append_right _ hp)).2.2) q
end Mine
end

section
open PySem PySem.W PyProof.Rows
set_option Elab.async false
set_option maxRecDepth 100000
set_option maxHeartbeats 4000000
namespace Mine
local macro_rules | `(tactic| walk_at "no such key 0") => `(tactic| done)
local macro_rules | `(tactic| walk_at "no such key 1") => `(tactic| done)
local macro_rules | `(tactic| walk_at "no such key 2") => `(tactic| done)
local macro_rules | `(tactic| walk_at "no such key 3") => `(tactic| done)
local macro_rules | `(tactic| walk_at "no such key 4") => `(tactic| done)
local macro_rules | `(tactic| walk_at "no such key 5") => `(tactic| done)
local macro_rules | `(tactic| walk_at "no such key 6") => `(tactic| done)
local macro_rules | `(tactic| walk_at "no such key 7") => `(tactic| done)
local macro_rules | `(tactic| walk_at "no such key 8") => `(tactic| done)
local macro_rules | `(tactic| walk_at "no such key 9") => `(tactic| done)
local macro_rules | `(tactic| walk_at "no such key 10") => `(tactic| done)
theorem app_news {h₀ h : Heap} {L : Addr} {a b : List (Addr × Obj)} (N : News h₀ L h (a ++ b)) : News h₀ L h b := fun p hp => N p (List.mem_append_right _ hp)
theorem app_newsL {h₀ h : Heap} {L : Addr} {a b : List (Addr × Obj)} (N : News h₀ L h (a ++ b)) : News h₀ L h a := fun p hp => N p (List.mem_append_left _ hp)
/-- a place to stop at -/
def Hold (P : Prop) : Prop := P
structure HoldOff : Prop where
theorem Hold.of {P : Prop} (h : Hold P) : P := h
theorem all_ne {d e : Nat} {l : List (Addr × Obj)} (h : AllLt d l) (k : d ≤ e) : ∀ p ∈ l, p.1 ≠ e := fun p hp => Nat.ne_of_lt (Nat.lt_of_lt_of_le (ktn_ltOf h p hp) k)
theorem ge_own {L : Addr} {a b c d : Nat} {o₁ o₂ o₃ o₄ o₅ : Obj} (ha : L ≤ a) (hb : L ≤ b) (hc : L ≤ c) (hd : L ≤ d) : ∀ p ∈ [(a, o₁), (b, o₂), (c, o₃), (d, o₄), (64, o₅)], L ≤ p.1 ∨ p.1 ∈ [64] := by
  intro p hp
  simp only [List.mem_cons, List.not_mem_nil, or_false] at hp
  rcases hp with rfl | rfl | rfl | rfl | rfl
  · exact .inl ha
  · exact .inl hb
  · exact .inl hc
  · exact .inl hd
  · exact .inr (by simp)
theorem for_trial {prog : Program} {w : World} {A : Around} {E : Value → Shared → Prop} {s : Shared} {env : Env} {h₀ : Heap} {K : Frag} {ax : Addr} {k : Nat} {l : List Value} {dd : Option Addr} {sl : Array (Option Value)} {ns : List Int} {x y : Str} {px py pos ipos : Pos} {test : Expr} {suite : List Stmt} {m : Str → Option Value} {news : List (Addr × Obj)} {Q : Flow → Shared → Prop}
    (pz : Int → Bool) (hh : A.handled = none) (hx : env.kindOf x = some .local) (hp : (env.scope.kind == .class || (env.scope.kind == .module && env.locals != env.globals)) = false)
    (F : Fr h₀ env.locals s.heap m) (N : News h₀ env.locals s.heap news) (X : K.In h₀) (hl : K.lookup ax = some ⟨.type "tuple", dd, .seq l.toArray k, sl⟩) (hi : IntsAre l ns)
    (hE : PassesOwn (model prog w) A env E)
    (g0 : ∀ R : Value → Shared → Prop, R (.ref ax) s → wpAny (model prog w) A (eval (.Name y py) env) R E s)
    (g1 : ∀ (a : Int) (t : Tok) (s₁ : Shared) (own : List (Addr × Obj)), a ∈ ns → Fr h₀ env.locals s₁.heap (bindM m x (some (.int a t))) → News h₀ env.locals s₁.heap (own ++ news) →
      wpAny (model prog w) A (isTrue test env (eval test env)) (fun b s₄ => b = pz a ∧ Keeps s₁ s₄) E s₁)
    (g2 : ∀ (a : Int) (t : Tok) (own : List (Addr × Obj)) (h₄ : Heap) (tk₄ : Nat), a ∈ ns → pz a = true → Fr h₀ env.locals h₄ (bindM m x (some (.int a t))) → News h₀ env.locals h₄ (own ++ news) →
      wpAny (model prog w) A (execs suite env) (LeaveOnly Q) E { s with heap := h₄, toks := tk₄ })
    (g3 : ∀ h' tk vl, Fr h₀ env.locals h' (bindM m x vl) → News h₀ env.locals h' news → (∀ a ∈ ns, pz a = false) → Q .next { s with heap := h', toks := tk })
    (hs : ∀ v, foldedSetIterable (.Name y py) env v = pure v) : wpAny (model prog w) A (exec (.For (.Name x px) (.Name y py) [.If test suite [] ipos] [] pos) env) Q E s := by
  refine For_inv3 h₀ hx hp (g0 _ ?_) hs hE
  refine Iter_tuple_leave (pz := pz) hh (tupK X hl) (IntsAre.areOf hi) F N (fun a v s₁ own ha hk F₁ N₁ => ?_) (fun a v own h₄ tk₄ ha hp _ hk F₄ N₄ => ?_) g3
  · obtain ⟨t, rfl⟩ := ItemKind.int_is hk
    exact g1 a t s₁ own ha F₁ N₁
  · obtain ⟨t, rfl⟩ := ItemKind.int_is hk
    exact g2 a t own h₄ tk₄ ha hp F₄ N₄
local macro_rules | `(tactic| walk_at "exec For Name Name cons nil") => `(tactic| (k_here; (with_reducible show wpAny _ _ (exec (Stmt.For (Expr.Name (Str.ofString "p") _) (Expr.Name _ _) _ _ _) _) _ _ _); refine Hold.of ?_))
abbrev smallPs : List Int := [3, 5, 7, 11, 13, 17, 19, 23, 29, 31, 37, 41, 43, 47]
theorem in_tupK {prog : Program} {w : World} {A : Around} {E : Value → Shared → Prop} {s : Shared} {h₀ : Heap} {L : Addr} {m : Str → Option Value} {K : Frag} {a : Addr} {n : Nat} {l : List Value} {dd : Option Addr} {sl : Array (Option Value)} {ns : List Int} {x : Int} {u : Tok} {Q : Value → Shared → Prop}
    (F : Fr h₀ L s.heap m) (X₀ : K.In h₀) (hl : K.lookup a = some ⟨.type "tuple", dd, .seq l.toArray n, sl⟩) (hi : IntsAre l ns) (h : Q (.bool (ns.any (· == x))) s) : wpAny (model prog w) A (compareOp .In (.int x u) (.ref a)) Q E s :=
  in_tuple_ints (tupK (X₀.keeps F.keep) hl) (by simpa using hi) h
local macro_rules | `(tactic| walk_at "compareOp In int ref") => `(tactic| (k_here; k_dflt (refine' in_tupK (ns := smallPs) ?kF ?kX ?kl ?ki ?_; (case kF => k_asm); (case kX => k_asm); (case kl => k_is); (case ki => ((repeat refine IntsAre.cons _ _ ?_); exact IntsAre.nil)); k_whole)))
theorem trailing_use {w : World} {mean : ExcName → Option Value} {mg mb : Str → Option Value} {n : Int} {t : Tok} (h0 : n ≠ 0) : Gives1 w mean mg mb 21 1 [.int n t] (fun t => .int (trI n) t) := trailing_gives w mean mg mb n t h0
local macro_rules | `(tactic| walk_at "call ref") => `(tactic| (k_here; (with_reducible show wpAny _ _ (call (Value.ref 21) [Value.int _ _]) _ _ _); k_dflt (refine' gives_ask (trailing_use ?h0) ?k1 ?k2 ?k3 ?k4 ?k5 ?kK ?kd ?ku ?_; (case h0 => omega); (case k1 => k_asm); (case k2 => k_asm); (case k3 => k_asm); (case k4 => k_asm); (case k5 => k_asm); (case kK => first | exact rfl | assumption); (case kd => ktr_room); (case ku => ktr_units)); intro t9 h9 tk9 F9 N9; (try dsimp only); (try k_fold)))
theorem tr_nonneg {n : Int} (h : ¬ n < 50) : 0 ≤ trI (n - 1) := by
  have hpos : 0 < Builtin.bitAnd (n - 1) (-(n - 1)) := by
    unfold Builtin.bitAnd
    rw [decide_eq_true (show 0 ≤ n - 1 by omega), decide_eq_false (show ¬ 0 ≤ -(n - 1) by omega)]
    dsimp only
    have : (n - 1).toNat &&& (Builtin.bitNot (-(n - 1))).toNat ≤ (Builtin.bitNot (-(n - 1))).toNat := Nat.and_le_right
    have e : Builtin.bitNot (-(n - 1)) = n - 2 := by unfold Builtin.bitNot; omega
    rw [e] at this ⊢
    omega
  unfold trI Builtin.Int.intBits
  generalize Builtin.bitAnd (n - 1) (-(n - 1)) = z at hpos
  rw [if_neg (by simp; omega)]
  omega
theorem tr_le {n : Int} (h : ¬ n < 50) (h1 : n < 10000) : trI (n - 1) < 100 := by
  have hb : Builtin.bitAnd (n - 1) (-(n - 1)) ≤ n - 1 ∧ 0 ≤ Builtin.bitAnd (n - 1) (-(n - 1)) := by
    unfold Builtin.bitAnd
    rw [decide_eq_true (show 0 ≤ n - 1 by omega), decide_eq_false (show ¬ 0 ≤ -(n - 1) by omega)]
    dsimp only
    have : (n - 1).toNat &&& (Builtin.bitNot (-(n - 1))).toNat ≤ (n - 1).toNat := Nat.and_le_left
    omega
  have hb2 : Builtin.Int.intBits (Builtin.bitAnd (n - 1) (-(n - 1))) ≤ 14 := intBits_le_iff.mpr (by
    generalize Builtin.bitAnd (n - 1) (-(n - 1)) = z at *
    omega)
  unfold trI
  omega
local macro_rules | `(tactic| walk_at "binaryOp RShift int int") => `(tactic| (k_here; (with_reducible refine rshift_int ?kb1 ?_); (case kb1 => exact tr_nonneg (by assumption))))
local macro_rules | `(tactic| walk_at "call ref") => `(tactic| (k_here; (with_reducible show wpAny _ _ (call (Value.ref _) [Value.int 2 _]) _ _ _); refine Hold.of ?_))
def pw (a d n : Int) : Int := ((Builtin.powMod (a % n).toNat d.natAbs n.natAbs : Nat) : Int)
theorem pow3' {prog : Program} {w : World} {A : Around} {E : Value → Shared → Prop} {s : Shared} {a d n : Int} {t u v : Tok} {Q : Value → Shared → Prop} (hd : 0 ≤ d) (hn : 1 < n) (h : Q (.int (pw a d n) s.toks) { s with toks := s.toks + 1 }) :
    wpAny (model prog w) A (call (.builtin "pow") [.int a t, .int d u, .int n v]) Q E s := pow3 hd hn h
def dI (n : Int) : Int := (n - 1).fdiv (2 ^ (trI (n - 1)).toNat)
def x0I (n a : Int) : Int := pw a (dI n) n
def sqI (n x : Int) : Nat → Int
  | 0 => x
  | j + 1 => (sqI n x j ^ (2 : Int).toNat).fmod n
def testF (n a : Int) : Bool := (x0I n a == 1) || (x0I n a == n - 1) || (List.range (trI (n - 1) - 1).toNat).any fun j => sqI n (x0I n a) (j + 1) == n - 1
theorem d_nonneg {n : Int} (h : ¬ n < 50) : 0 ≤ (n - 1).fdiv (2 ^ (trI (n - 1)).toNat) := Int.fdiv_nonneg (by omega) (Int.le_of_lt (Int.pow_pos (by decide)))
theorem powMod_lt (b e : Nat) {m : Nat} (hm : 0 < m) : Builtin.powMod b e m < m := by
  have key : ∀ (l : List Nat) (p : Nat), p < m → l.foldl (fun p i => if e.testBit i then p * p % m * b % m else p * p % m) p < m := by
    intro l
    induction l with
    | nil => intro p hp; exact hp
    | cons i r ih =>
      intro p hp
      refine ih _ ?_
      dsimp only
      split <;> exact Nat.mod_lt _ hm
  exact key _ _ (Nat.mod_lt _ hm)
theorem x0_range {n a : Int} (h : ¬ n < 50) : 0 ≤ x0I n a ∧ x0I n a < n := by
  have := powMod_lt (a % n).toNat (dI n).natAbs (m := n.natAbs) (by omega)
  unfold x0I pw
  omega
structure TP (n a : Int) (pre : List Int) (x : Int) : Prop where
  eq : x = sqI n (x0I n a) pre.length
  lo : 0 ≤ x
  hi : x < n
  no : ∀ j, j < pre.length → sqI n (x0I n a) (j + 1) ≠ n - 1
theorem tp_start {n a : Int} (h : ¬ n < 50) : TP n a [] (x0I n a) := ⟨rfl, (x0_range h).1, (x0_range h).2, fun j hj => absurd hj (Nat.not_lt_zero j)⟩
theorem tp_turn {n a x k : Int} {pre : List Int} (h : ¬ n < 50) (T : TP n a pre x) (e : ¬ (x ^ (2 : Int).toNat).fmod n = n - 1) : TP n a (pre ++ [k]) ((x ^ (2 : Int).toNat).fmod n) := by
  have hl : (pre ++ [k]).length = pre.length + 1 := by simp
  have h2 : (x ^ (2 : Int).toNat).fmod n = sqI n (x0I n a) (pre.length + 1) := by
    show _ = (sqI n (x0I n a) pre.length ^ (2 : Int).toNat).fmod n
    rw [← T.eq]
  refine ⟨by rw [hl]; exact h2, Int.fmod_nonneg_of_pos _ (by omega), Int.fmod_lt_of_pos _ (by omega), fun j hj => ?_⟩
  rw [hl] at hj
  by_cases q : j < pre.length
  · exact T.no j q
  · have : j = pre.length := by omega
    rw [this, ← h2]
    exact e
theorem tp_hit {n a x : Int} {pre : List Int} (T : TP n a pre x) (hl : pre.length < (trI (n - 1) - 1).toNat) (e : (x ^ (2 : Int).toNat).fmod n = n - 1) : testF n a = true := by
  have h2 : sqI n (x0I n a) (pre.length + 1) = n - 1 := by
    show (sqI n (x0I n a) pre.length ^ (2 : Int).toNat).fmod n = n - 1
    rw [← T.eq]
    exact e
  unfold testF
  rw [Bool.or_eq_true]
  exact .inr (List.any_eq_true.mpr ⟨pre.length, List.mem_range.mpr hl, by simp [h2]⟩)
theorem tp_miss {n a x : Int} {pre : List Int} (h1 : ¬ x0I n a = 1) (h2 : ¬ x0I n a = n - 1) (T : TP n a pre x) (hl : pre.length = (trI (n - 1) - 1).toNat) : testF n a = false := by
  unfold testF
  rw [← hl]
  simp only [Bool.or_eq_false_iff, beq_eq_false_iff_ne, ne_eq]
  refine ⟨⟨h1, h2⟩, List.any_eq_false.mpr fun j hj => ?_⟩
  simpa using T.no j (List.mem_range.mp hj)
theorem tp_small {n a x : Int} {pre : List Int} (T : TP n a pre x) (h1 : n < 10000) : x.natAbs < 2 ^ 64 := by
  have := T.lo
  have := T.hi
  omega
theorem tp_missR {n a x : Int} (h1 : pw a ((n - 1).fdiv (2 ^ (trI (n - 1)).toNat)) n ≠ 1) (h2 : pw a ((n - 1).fdiv (2 ^ (trI (n - 1)).toNat)) n ≠ n - 1) (T : TP n a (rangeKs 1 (trI (n - 1) - 1).toNat) x) : false = testF n a :=
  (tp_miss h1 h2 T (by unfold rangeKs; simp)).symm
theorem tf_one {n a : Int} (h : pw a ((n - 1).fdiv (2 ^ (trI (n - 1)).toNat)) n = 1) : true = testF n a := by
  unfold testF x0I dI
  rw [h]
  rfl
theorem tf_m {n a : Int} (h : pw a ((n - 1).fdiv (2 ^ (trI (n - 1)).toNat)) n = n - 1) : true = testF n a := by
  unfold testF x0I dI
  rw [h]
  simp
theorem retT {g h' : Heap} {L : Addr} {m : Str → Option Value} {led : List (Addr × Obj)} {s : Shared} {Q : Value → Shared → Prop} {b b' : Bool} {tk' : Nat} (r : ∀ h' tk', Fr g L h' m → News g L h' led → Q (.bool b) { s with heap := h', toks := tk' }) (e : b' = b) (F : Fr g L h' m) (N : News g L h' led) : Q (.bool b') { s with heap := h', toks := tk' } := by
  subst e
  exact r h' tk' F N
def TestSays (prog : Program) (w : World) (A : Around) (g : Heap) (L : Addr) (led : List (Addr × Obj)) (f : Addr) (R : Int → Bool) : Prop :=
  ∀ (i : Addr) (it : Obj) (m : Str → Option Value) (s : Shared) (a : Int) (t : Tok) (Q E : Value → Shared → Prop), 0 < a → a < 50 → Fr g L s.heap m → News g L s.heap ((i, it) :: led) →
    (∀ h' tk', Fr g L h' m → News g L h' ((i, it) :: led) → Q (.bool (R a)) { s with heap := h', toks := tk' }) → wpAny (model prog w) A (call (.ref f) [.int a t]) Q E s
theorem test_step {prog : Program} {w : World} {A : Around} {g : Heap} {L f i : Addr} {it : Obj} {led : List (Addr × Obj)} {R : Int → Bool} {s : Shared} {a : Int} {t : Tok} {Q E : Value → Shared → Prop}
    (_N : News g L s.heap ((i, it) :: led)) (H : TestSays prog w A g L led f R) (k : TestSays prog w A g L led f R → wpAny (model prog w) A (call (.ref f) [.int a t]) Q E s) : Hold (wpAny (model prog w) A (call (.ref f) [.int a t]) Q E s) := k H
theorem test_use {prog : Program} {w : World} {A : Around} {g : Heap} {L f i : Addr} {it : Obj} {m : Str → Option Value} {led : List (Addr × Obj)} {R : Int → Bool} {s : Shared} {a : Int} {t : Tok} {Q E : Value → Shared → Prop}
    (H : TestSays prog w A g L led f R) (F : Fr g L s.heap m) (N : News g L s.heap ((i, it) :: led)) (h0 : 0 < a) (h1 : a < 50)
    (k : ∀ h' tk', Fr g L h' m → News g L h' ((i, it) :: led) → Q (.bool (R a)) { s with heap := h', toks := tk' }) : wpAny (model prog w) A (call (.ref f) [.int a t]) Q E s := H _ _ _ _ _ _ _ _ h0 h1 F N k
local macro_rules | `(tactic| walk_at "call builtin:pow") => `(tactic| (k_here; (with_reducible refine pow3' ?kd ?kn ?_); (case kd => exact d_nonneg (by assumption)); (case kn => omega)))
local macro_rules | `(tactic| walk_at "binaryOp Pow int int") => `(tactic| (k_here; (with_reducible refine pow_int_small ?kb1 ?kb2 ?kb3 ?_); (case kb1 => decide); (case kb2 => decide); (case kb3 => exact tp_small (by assumption) (by assumption))))
def isprF (n : Int) : Bool :=
  if Builtin.bitAnd n 1 = 0 then n == 2
  else if n < 50 then smallPs.any (· == n)
  else if smallPs.any (fun p => n.fmod p == 0) then false
  else testF n 2 && testF n 3
theorem ispr_even {n : Int} (h : Builtin.bitAnd n 1 = 0) : (n == 2) = isprF n := by unfold isprF; rw [if_pos h]
theorem ispr_small {n : Int} (h : Builtin.bitAnd n 1 ≠ 0) (k : n < 50) : smallPs.any (· == n) = isprF n := by unfold isprF; rw [if_neg h, if_pos k]
theorem ispr_hit {n p : Int} (h : Builtin.bitAnd n 1 ≠ 0) (k : ¬ n < 50) (hp : p ∈ smallPs) (e : (n.fmod p == 0) = true) : false = isprF n := by
  unfold isprF
  rw [if_neg h, if_neg k, if_pos (List.any_eq_true.mpr ⟨p, hp, e⟩)]
theorem and_tt {R : Bool} {a b : Bool} (hR : (a && b) = R) (h1 : a = true) (h2 : b = true) : true = R := by rw [← hR, h1, h2]; rfl
theorem and_tf {R : Bool} {a b : Bool} (hR : (a && b) = R) (h1 : a = true) (h2 : b = false) : false = R := by rw [← hR, h1, h2]; rfl
theorem and_ff {R : Bool} {a b : Bool} (hR : (a && b) = R) (h1 : a = false) : false = R := by rw [← hR, h1]; rfl
theorem ispr_test {n : Int} (h : Builtin.bitAnd n 1 ≠ 0) (k : ¬ n < 50) (hno : ∀ a ∈ smallPs, (n.fmod a == 0) = false) : (testF n 2 && testF n 3) = isprF n := by
  unfold isprF
  rw [if_neg h, if_neg k, if_neg]
  intro q
  obtain ⟨p, hp, e⟩ := List.any_eq_true.mp q
  rw [hno p hp] at e
  cases e
abbrev qTest : Str := Str.ofString "isprime.<locals>.test"
def MemoOk (ps : Array Value) (ex : List (Addr × Obj)) : Prop :=
  (ps = #[] ∧ ex = []) ∨ ∃ (c' : Addr) (oc : Obj) (vs : Array Value) (t : Tok), ps = #[rawInt 50, rawInt 4, .ref c'] ∧ ex = [(c', oc)] ∧ oc.data = .fields vs ∧ vs[1]? = some (.str qTest t) ∧ c' ≠ 64
def MemoOn (h₀ h : Heap) (L : Addr) (ex news : List (Addr × Obj)) : Prop := ∃ ps' ex', MemoOk ps' ex' ∧ News h₀ L h ((64, tabObj ps') :: ex') ∧ (ex' = ex ∨ ∀ q ∈ ex', ∀ p ∈ news, p.1 ≠ q.1)
theorem memo_keep {h₀ h : Heap} {L : Addr} {ps : Array Value} {ex led news : List (Addr × Obj)} (M : MemoOk ps ex) (N : News h₀ L h led) (hm : (64, tabObj ps) ∈ led) (a : News h₀ L h (ex ++ news)) : MemoOn h₀ h L ex news :=
  ⟨ps, ex, M, fun p hp => by
    rcases List.mem_cons.mp hp with rfl | hp
    · exact N _ hm
    · exact a p (List.mem_append_left _ hp), .inl rfl⟩
theorem memo_keepA {h₀ h : Heap} {L : Addr} {ps : Array Value} {ex own news : List (Addr × Obj)} {p₁ p₂ p₃ p₄ : Addr × Obj} (M : MemoOk ps ex) (N : News h₀ L h (own ++ [p₁, p₂, p₃, p₄, (64, tabObj ps)])) (a : News h₀ L h (ex ++ news)) : MemoOn h₀ h L ex news :=
  memo_keep M N (List.mem_append_right _ (by k_mem)) a
theorem memo_keepB {h₀ h : Heap} {L : Addr} {ps : Array Value} {ex news : List (Addr × Obj)} {p₁ p₂ p₃ p₄ : Addr × Obj} (M : MemoOk ps ex) (N : News h₀ L h [p₁, p₂, p₃, p₄, (64, tabObj ps)]) (a : News h₀ L h (ex ++ news)) : MemoOn h₀ h L ex news :=
  memo_keep M N (by k_mem) a
theorem memo_keepC {h₀ h : Heap} {L : Addr} {ps : Array Value} {ex news : List (Addr × Obj)} {q₁ q₂ p₁ p₂ p₃ p₄ : Addr × Obj} (M : MemoOk ps ex) (N : News h₀ L h [q₁, q₂, p₁, p₂, p₃, p₄, (64, tabObj ps)]) (a : News h₀ L h (ex ++ news)) : MemoOn h₀ h L ex news :=
  memo_keep M N (by k_mem) a
theorem memo_keepD {h₀ h : Heap} {L : Addr} {ps : Array Value} {ex news : List (Addr × Obj)} {q₀ q₁ q₂ p₁ p₂ p₃ p₄ : Addr × Obj} (M : MemoOk ps ex) (N : News h₀ L h [q₀, q₁, q₂, p₁, p₂, p₃, p₄, (64, tabObj ps)]) (a : News h₀ L h (ex ++ news)) : MemoOn h₀ h L ex news :=
  memo_keep M N (by k_mem) a
theorem memo_new {h₀ h g h₂ : Heap} {L L₂ c' : Addr} {oc : Obj} {vs : Array Value} {t : Tok} {led led₂ news : List (Addr × Obj)} (N : News h₀ L h led) (hm : (64, tabObj #[rawInt 50, rawInt 4, .ref c']) ∈ led) (hc : (c', oc) ∈ led) (hd : oc.data = .fields vs) (hv : vs[1]? = some (.str qTest t)) (hne : c' ≠ 64)
    (old : ∀ p ∈ [] ++ news, g.get? p.1 = some p.2) (Ng : News g L₂ h₂ led₂) (hm₂ : (c', oc) ∈ led₂) : MemoOn h₀ h L [] news :=
  ⟨_, _, .inr ⟨c', oc, vs, t, rfl, rfl, hd, hv, hne⟩, fun p hp => by
    rcases List.mem_cons.mp hp with rfl | hp
    · exact N _ hm
    · rw [List.mem_singleton.mp hp]; exact N _ hc, .inr fun q hq p hp e => by
    rw [List.mem_singleton.mp hq] at e
    have h1 := old p hp
    have h2 := (Ng _ hm₂).2.2
    rw [e, h2] at h1
    cases h1⟩
theorem memo_newA {h₀ h g h₂ : Heap} {L L₂ c' : Addr} {oc : Obj} {vs : Array Value} {t : Tok} {q : Str} {q₁ q₂ p₁ p₂ p₃ p₄ : Addr × Obj} {led₂ news : List (Addr × Obj)} (N : News h₀ L h [q₁, q₂, (c', oc), p₁, p₂, p₃, p₄, (64, tabObj (#[] ++ #[rawInt ((50 : Nat) : Int), rawInt ((4 : Nat) : Int), .ref c']))]) (hd : oc.data = .fields vs) (hv : vs[1]? = some (.str q t)) (hne : @LT.lt Nat _ 64 c') (hq : q = qTest)
    (old : ∀ p ∈ [] ++ news, g.get? p.1 = some p.2) (Ng : News g L₂ h₂ led₂) (hm₂ : (c', oc) ∈ led₂) : MemoOn h₀ h L [] news := by
  subst hq
  rw [Array.empty_append] at N
  exact memo_new N (by k_mem) (by k_mem) hd hv (Nat.ne_of_gt hne) old Ng hm₂
theorem memo_newB {h₀ h g h₂ : Heap} {L L₂ c' : Addr} {oc : Obj} {vs : Array Value} {t : Tok} {q : Str} {q₀ q₁ q₂ p₁ p₂ p₃ p₄ : Addr × Obj} {led₂ news : List (Addr × Obj)} (N : News h₀ L h [q₀, q₁, q₂, (c', oc), p₁, p₂, p₃, p₄, (64, tabObj (#[] ++ #[rawInt ((50 : Nat) : Int), rawInt ((4 : Nat) : Int), .ref c']))]) (hd : oc.data = .fields vs) (hv : vs[1]? = some (.str q t)) (hne : @LT.lt Nat _ 64 c') (hq : q = qTest)
    (old : ∀ p ∈ [] ++ news, g.get? p.1 = some p.2) (Ng : News g L₂ h₂ led₂) (hm₂ : (c', oc) ∈ led₂) : MemoOn h₀ h L [] news :=
  memo_newA (fun p hp => N p (List.mem_cons_of_mem _ hp)) hd hv hne hq old Ng hm₂
theorem memo_off {ps : Array Value} {ex news : List (Addr × Obj)} (M : MemoOk ps ex) (h : ∀ p ∈ news, p.1 ≠ 64) : ∀ p ∈ ex ++ news, p.1 ∉ [64] := by
  intro p hp q
  have q' := List.mem_singleton.mp q
  rcases List.mem_append.mp hp with hp | hp
  · rcases M with ⟨_, rfl⟩ | ⟨c', oc, vs, t, _, rfl, _, _, hne⟩
    · cases hp
    · rw [List.mem_singleton.mp hp] at q'
      exact hne q'
  · exact h p hp q'
theorem codeRec_kept {g h : Heap} {L c : Addr} {m : Str → Option Value} {oc : Obj} {vs : Array Value} {qual : Str} {t : Tok} (F : Fr g L h m) (hm : g.get? c = some oc) (hd : oc.data = .fields vs) (hv : vs[1]? = some (.str qual t)) : h.CodeRec (.ref c) qual :=
  ⟨c, oc, vs, t, rfl, F.keep _ _ hm, hd, hv⟩
/-- isprime's contract -/
abbrev RetP (h₀ : Heap) (L : Addr) (m : Str → Option Value) (ex news : List (Addr × Obj)) (s : Shared) (Q : Value → Shared → Prop) (b : Bool) : Prop :=
  ∀ (h' : Heap) (tk' : Nat), Fr h₀ L h' m → News h₀ L h' news → MemoOn h₀ h' L ex news → Q (.bool b) { s with heap := h', toks := tk' }
theorem retP {h₀ h' : Heap} {L : Addr} {m : Str → Option Value} {ex news : List (Addr × Obj)} {s : Shared} {Q : Value → Shared → Prop} {b b' : Bool} {tk' : Nat} (r : RetP h₀ L m ex news s Q b) (e : b' = b) (F : Fr h₀ L h' m) (N : News h₀ L h' news) (M : MemoOn h₀ h' L ex news) : Q (.bool b') { s with heap := h', toks := tk' } := by
  subst e
  exact r h' tk' F N M
local macro_rules | `(tactic| walk_at "call ref") => `(tactic| (k_here; (with_reducible show wpAny _ _ (call (Value.ref _) [Value.int _ _]) _ _ _); k_dflt (refine' test_use ?kH ?kF ?kN ?kp ?kq ?_; (case kH => with_reducible assumption); (case kF => k_asm); (case kN => k_asm); (case kp => decide); (case kq => decide); k_whole); intro h9 tk9 F9 N9; (try dsimp only); (try k_fold)))
local macro_rules | `(tactic| walk_at "exec For Name Call cons nil") => `(tactic| (k_here; (fail_if_success (have := (by assumption : HoldOff))); refine Hold.of ?_))
theorem isprime_t (w : World) (mean : ExcName → Option Value) (mg mb : Str → Option Value) (n : Int) (t : Tok) (h0 : 0 ≤ n) (h1 : n < 10000) (news ex : List (Addr × Obj)) (ps : Array Value) (hps : MemoOk ps ex) (hne : ∀ p ∈ ex ++ news, p.1 ∉ [64])
    (dp un : Nat) (gd : Option (List Code)) (cn : Str) (cs : Scope) (a : Addr) (ccd : Value) (cl : List (Str × Addr)) (outer : List Env) (A₀ : Around) (base h₀ : Heap) (L : Addr) (m : Str → Option Value) (s : Shared) (Q E : Value → Shared → Prop)
    (B : Below A₀ base outer h₀) (F : Fr h₀ L s.heap m) (X : (hd.heap_39 w.params).In h₀) (N : News h₀ L s.heap ((64, tabObj ps) :: (ex ++ news))) (T : Top topProg looseM mean mg mb h₀) (hk : cs.kind = .function)
    (C : CodeHd h₀ 68 64) (hdp : dp + 3 < recursionLimit) (hun : un + 8 * 3 < cLine) (hret : RetP h₀ L m ex news s Q (isprF n)) :
      wpAny (model PySem.Challenge.rw_ag5013_01.row.prog w) (ktrTop dp un gd cn cs L a ccd cl outer) (call (.ref 69) [.int n t]) Q E s := by
  revert X
  k_fill
  intro X
  refine wpAny_call ?_
  k_dflt (refine' code_defC ?k1 ?k2 ?k3 ?k4 ?k5 ?kA ?kF ?kK ?k6 ?k7 ?k8 ?k9 ?kB ?kD ?_ ?c2 ?c3 ?c4; (case kA => exact rfl); (case kF => exact rfl); (case kK => assumption); (case k1 => k_asm); (case k2 => k_asm); (case k3 => k_asm); (case k4 => k_asm); (case k5 => k_asm); (case k6 => k_is); (case k7 => k_is); (case k8 => ktr_room); (case k9 => first | exact BindsTo.of_eq rfl | exact binds_K (by k_in) rfl (by k_is) rfl rfl rfl | fail "k_enter: no rule for these arguments"); (case kB => exact rfl); (case kD => decide +kernel); (case c2 => exact rfl); (case c3 => exact rfl); (case c4 => exact rfl); k_whole; intro g' L' h' tk' cells' FG' F' N' Y' B' X' T' l1; (k_lt l1); (obtain ⟨l1a, l1b⟩ := l1); k_cells Y'; (try simp only [List.cons_append, List.nil_append] at N'); (try dsimp only))
  have hg64 : ∀ a ∈ [64], g'.get? a = none := fun a ha => by
    rw [List.mem_singleton.mp ha]
    exact (N' (64, tabObj ps) (by k_mem)).2.2
  have C' := C.keeps FG'.keep
  refine' body_rebased [64] (own := [_, _, _, _, _]) FG' F' N' B' X' T' (fun p hp => ktn_ltOf l1b p hp) hne ?hge hg64 ?_
  case hge => refine ge_own ?_ ?_ ?_ ?_ <;> (show @LE.le Nat _ _ _; omega)
  clear hne hg64 N'
  clear FG' F' B' X' T'
  intro g'' FG' F' N' B' X' T' st old
  have C'' := C'.keeps st
  clear C C' F N st
  k_here
  k_steps
  rotate_left
  · k_dflt (refine' for_trial (ax := 62) (ns := smallPs) (fun p => n.fmod p == 0) ?a1 ?a2 ?a3 ?a4 ?a5 ?a6 ?a7 ?a8 ?a9 ?b0 ?b1 ?b2 ?b3 ?b4; (case a1 => exact rfl); (case a2 => exact rfl); (case a3 => exact rfl); (case a4 => k_asm); (case a5 => k_asm); (case a6 => k_asm); (case a7 => k_is); (case a8 => ((repeat refine IntsAre.cons _ _ ?_); exact IntsAre.nil)); (case a9 => passes_own); (case b4 => intro _; exact rfl))
    case b0 =>
      intro R hR
      k_steps
      exact hR
    case b1 =>
      intro pp tt s₁ own hpp F₁ N₁
      have hp0 : pp ≠ 0 := by
        intro q
        rw [q] at hpp
        exact absurd hpp (by decide)
      k_steps
      · generalize n.fmod pp = z
        by_cases q : z = 0
        · rw [q]; rfl
        · rw [beq_eq_false_iff_ne.mpr q, bne_iff_ne.mpr q]; rfl
      · exact ⟨_, _, rfl, fun _ _ e => e⟩
    case b2 =>
      intro pp tt own h₄ tk₄ hpp hz F₄ N₄
      k_steps
      exact retP hret (ispr_hit (by assumption) (by assumption) hpp hz) (by assumption) (app_news (a := ex) (by assumption)) (memo_keepA hps (by assumption) (by assumption))
    case b3 =>
      intro h₅ tk₅ vl F₅ N₅ hno
      have hR := ispr_test (by assumption) (by assumption) hno
      have hM := hps
      rcases hps with ⟨rfl, rfl⟩ | ⟨c₀, oc₀, vs₀, t₀, rfl, rfl, hd₀, hv₀, hne₀⟩
      · k_steps
        k_dflt (refine' test_step (R := testF n) ?kN ?H ?k; (case kN => k_asm))
        case H =>
          unfold TestSays
          intro i₂ it₂ m₂ s₂ av ta Q₂ E₂ ha0 ha1 F₂ N₂ hret₂
          refine wpAny_call ?_
          k_dflt (refine' code_nest ?k1 ?k2 ?k3 ?k4 ?k5 ?kA ?kF ?kK ?k6 ?k7 ?k8 ?k9 ?kB ?_ ?c2 ?c3 ?c4 ?c5; (case kA => exact rfl); (case kF => exact rfl); (case kK => exact rfl); (case k1 => k_asm); (case k2 => k_asm); (case k3 => k_asm); (case k4 => k_asm); (case k5 => k_asm); (case k6 => k_mem); (case k7 => exact codeRec_news (by k_asm) (by k_mem) (by assumption) (by assumption)); (case k8 => ktr_room); (case k9 => exact BindsTo.of_eq rfl); (case c5 => decide); (case kB => exact locs rfl); (case c2 => exact rfl); (case c3 => exact rfl); (case c4 => exact rfl); k_whole; intro g' L' h' FG' F' N' B' X' T'; (try dsimp only); (try k_fold))
          have hs := tr_le (by assumption) h1
          have hs0 := tr_nonneg (by assumption)
          k_with "pyIter ref" => k_state (fun pre x => TP n av pre x) "x"
          k_with "state" => first | exact tp_start (by assumption) | exact tp_turn (by assumption) (by assumption) (by assumption)
          k_steps
          rotate_left
          rotate_left
          (show wpAny _ _ _ _ _ _)
          have ho : HoldOff := ⟨⟩
          iterate 10 walk1
          · k_state (fun pre x => TP n av pre x) "x"
            · k_steps
              exact retT hret₂ (tp_hit (by assumption) (by assumption) (by assumption)).symm (by assumption) (app_newsL (by assumption))
            · k_steps
              exact retT hret₂ (tp_missR (by assumption) (by assumption) (by assumption)) (by assumption) (by assumption)
          · exact retT hret₂ (tf_one (by assumption)) (by assumption) (by assumption)
          · exact retT hret₂ (tf_m (by assumption)) (by assumption) (by assumption)
        case k =>
          intro H9
          k_steps
          · exact retP hret (and_tt hR (by assumption) (by assumption)) (by assumption) (app_news (a := []) (by assumption)) (memo_newA (by assumption) (by assumption) (by assumption) (by omega) (by kernel_rfl) old (by assumption) (by k_mem))
          · exact retP hret (and_tf hR (by assumption) (by assumption)) (by assumption) (app_news (a := []) (by assumption)) (memo_newB (by assumption) (by assumption) (by assumption) (by omega) (by kernel_rfl) old (by assumption) (by k_mem))
          · exact retP hret (and_ff hR (by assumption)) (by assumption) (app_news (a := []) (by assumption)) (memo_newB (by assumption) (by assumption) (by assumption) (by omega) (by kernel_rfl) old (by assumption) (by k_mem))
      · k_steps
        k_dflt (refine' test_step (R := testF n) ?kNb ?Hb ?kb; (case kNb => k_asm))
        case Hb =>
          unfold TestSays
          intro i₂ it₂ m₂ s₂ av ta Q₂ E₂ ha0 ha1 F₂ N₂ hret₂
          refine wpAny_call ?_
          k_dflt (refine' code_nest ?k1 ?k2 ?k3 ?k4 ?k5 ?kA ?kF ?kK ?k6 ?k7 ?k8 ?k9 ?kB ?_ ?c2 ?c3 ?c4 ?c5; (case kA => exact rfl); (case kF => exact rfl); (case kK => exact rfl); (case k1 => k_asm); (case k2 => k_asm); (case k3 => k_asm); (case k4 => k_asm); (case k5 => k_asm); (case k6 => k_mem); (case k7 => exact codeRec_kept (by k_asm) (old _ (List.mem_cons_self ..)) hd₀ hv₀); (case k8 => ktr_room); (case k9 => exact BindsTo.of_eq rfl); (case c5 => decide); (case kB => exact locs rfl); (case c2 => exact rfl); (case c3 => exact rfl); (case c4 => exact rfl); k_whole; intro g' L' h' FG' F' N' B' X' T'; (try dsimp only); (try k_fold))
          have hs := tr_le (by assumption) h1
          have hs0 := tr_nonneg (by assumption)
          k_with "pyIter ref" => k_state (fun pre x => TP n av pre x) "x"
          k_with "state" => first | exact tp_start (by assumption) | exact tp_turn (by assumption) (by assumption) (by assumption)
          k_steps
          rotate_left
          rotate_left
          (show wpAny _ _ _ _ _ _)
          have ho : HoldOff := ⟨⟩
          iterate 10 walk1
          · k_state (fun pre x => TP n av pre x) "x"
            · k_steps
              exact retT hret₂ (tp_hit (by assumption) (by assumption) (by assumption)).symm (by assumption) (app_newsL (by assumption))
            · k_steps
              exact retT hret₂ (tp_missR (by assumption) (by assumption) (by assumption)) (by assumption) (by assumption)
          · exact retT hret₂ (tf_one (by assumption)) (by assumption) (by assumption)
          · exact retT hret₂ (tf_m (by assumption)) (by assumption) (by assumption)
        case kb =>
          intro H9
          k_steps
          · exact retP hret (and_tt hR (by assumption) (by assumption)) (by assumption) (app_news (a := [(c₀, oc₀)]) (by assumption)) (memo_keepC hM (by assumption) (by assumption))
          · exact retP hret (and_tf hR (by assumption) (by assumption)) (by assumption) (app_news (a := [(c₀, oc₀)]) (by assumption)) (memo_keepD hM (by assumption) (by assumption))
          · exact retP hret (and_ff hR (by assumption)) (by assumption) (app_news (a := [(c₀, oc₀)]) (by assumption)) (memo_keepD hM (by assumption) (by assumption))
  · exact retP hret (ispr_even (by assumption)) (by assumption) (app_news (a := ex) (by assumption)) (memo_keepB hps (by assumption) (by assumption))
  · exact retP hret (ispr_small (by assumption) (by assumption)) (by assumption) (app_news (a := ex) (by assumption)) (memo_keepB hps (by assumption) (by assumption))
end Mine
end

section
open PySem PySem.W PySem.Calls PyProof.Rows
set_option Elab.async false
set_option maxRecDepth 100000
set_option maxHeartbeats 4000000
namespace Mine
theorem wpAny_listItems {M : Model} {A : Around} {E : Value → Shared → Prop} {s : Shared} {a : Addr} {o : Obj} {items : Array Value} {n : Nat} {Q : Array Value → Shared → Prop} (ho : s.heap.get? a = some o) (hd : o.data = .seq items n) (h : Q items s) : wpAny M A (Builtin.List.listItems (.ref a)) Q E s := by
  unfold Builtin.List.listItems
  exact wpAny_bind (wpAny_seqItems ho hd (wpAny_pure h))
theorem wpAny_listAllItems {M : Model} {A : Around} {E : Value → Shared → Prop} {s : Shared} {a : Addr} {items : Array Value} {msg : String} {Q : Array Value → Shared → Prop} (hl : s.heap.IsList a items) (h : Q items s) : wpAny M A (Builtin.List.listAllItems (.ref a) msg) Q E s := by
  obtain ⟨o, ho, hc, n, hd⟩ := id hl
  unfold Builtin.List.listAllItems
  refine wpAny_bind (wpAny_typeOf hl.typeIs ?_)
  rw [if_pos (by decide)]
  exact wpAny_listItems ho hd h
section
variable {prog : Program} {w : World} {A : Around} {E : Value → Shared → Prop} {s : Shared} {h₀ : Heap} {L : Addr} {m : Str → Option Value} {news news' : List (Addr × Obj)}
/-- xs[:2] = ys, ys of two -/
theorem set_slice2 {D v : Addr} {vs new : List Value} {c c' : Nat} {t : Tok} {Q : Unit → Shared → Prop}
    (F : Fr h₀ L s.heap m) (N : News h₀ L s.heap news) (hv : (v, listOf new.toArray c') ∈ news) (hne : v ≠ D) (h2 : 2 ≤ vs.length) (hn : new.length = 2) (hsz : vs.length + 2 ≤ sizeLine) (U : Upd D (listOf vs.toArray c) (listOf (new ++ vs.drop 2).toArray c) news news')
    (h : ∀ h', Fr h₀ L h' m → News h₀ L h' news' → Q () { s with heap := h' }) :
    wpAny (model prog w) A (setItem (.ref D) (.ref s.heap.objs.size) (.ref v)) Q E { s with heap := s.heap.push { cls := .type "slice", data := .fields #[.none, .int 2 t, .none] } } := by
  obtain ⟨pre, post, rfl, rfl, a, b⟩ := U.split
  have F₁ := F.push { cls := .type "slice", data := .fields #[.none, .int 2 t, .none] }
  have N₁ : News h₀ L (s.heap.push { cls := .type "slice", data := .fields #[.none, .int 2 t, .none] }) (pre ++ (D, listOf vs.toArray c) :: post) := fun p hp => ⟨Heap.get?_push_of_some _ (N p hp).1, (N p hp).2⟩
  generalize hS : s.heap.push { cls := .type "slice", data := .fields #[.none, .int 2 t, .none] } = H at *
  have hs : H.IsSliceOf s.heap.objs.size .none (.int 2 t) .none := hS ▸ Heap.IsSliceOf.new ..
  generalize s.heap.objs.size = sl at *
  have z := N₁ (D, listOf vs.toArray c) (List.mem_append.mpr (.inr (.head _)))
  have hl : H.IsList D vs.toArray := PySem.IsL.isList (n := c) z.1
  have hlv : H.IsList v new.toArray := PySem.IsL.isList (n := c') (N₁ _ hv).1
  obtain ⟨os, hos, hcs, hds⟩ := id hs
  have hTs : ({ s with heap := H } : Shared).TypeIs (.ref sl) "slice" := ⟨os, hos, hcs⟩
  unfold setItem
  try with_reducible refine wpAny_holding ?_
  first | refine wpAny_bind (wpAny_pure ?_) | skip
  refine wpAny_bind (wpAny_sequenceKey hl.typeIs (by decide) ?_)
  refine wpAny_bind (wpAny_callSpecial?_slot (name := Str.ofString "__setitem__") hl.typeIs slot_list_setitem
    (wpAny_call_entry slot_list_setitem hl.typeIs entry_list_setitem ?_ (args_list_setitem _ _ _)))
  show wpAny _ _ (Builtin.List.listSubscript? (.ref sl) >>= _) _ _ _
  refine wpAny_bind ?_
  unfold Builtin.List.listSubscript?
  refine wpAny_bind (wpAny_specialOf hTs slice_no_index ?_)
  simp only [Option.isNone_none, if_true]
  refine wpAny_pure ?_
  show wpAny _ _ (typeOf (.ref sl) >>= _) _ _ _
  refine wpAny_bind (wpAny_typeOf hTs ?_)
  rw [if_neg (by decide)]
  rw [listSliceParts_eq]
  refine wpAny_bind (wpAny_bind (wpAny_field hos hds (x := .none) rfl (wpAny_bind (wpAny_listPart .none ?_))))
  rw [if_neg (by exact Bool.false_ne_true)]
  refine wpAny_bind (wpAny_field hos hds (x := .none) rfl (wpAny_bind (wpAny_listPart .none ?_)))
  refine wpAny_bind (wpAny_field hos hds (x := .int 2 t) rfl (wpAny_bind (wpAny_listPart (.int 2 t) (wpAny_pure ?_))))
  have hsame : Builtin.List.listSameRef (.ref D) (.ref v) = false := by
    show (D == v) = false
    exact beq_eq_false_iff_ne.mpr (Ne.symm hne)
  have hTv : ({ s with heap := H } : Shared).TypeIs (.ref v) "list" := hlv.typeIs
  obtain ⟨ov, hov, hcv, nv, hdv⟩ := id hlv
  dsimp only
  rw [hsame, if_neg Bool.false_ne_true]
  refine wpAny_bind (wpAny_listAllItems hlv ?_)
  refine wpAny_bind (wpAny_listItems z.1 rfl ?_)
  refine wpAny_bind (wpAny_of_eq (sliceIndices_raw none (some 2) none vs.toArray.size (by simp)) ?_)
  have e : sliceBounds none (some 2) none vs.toArray.size = (0, 2, 1) := by
    have h2' : 2 ≤ vs.toArray.size := by simpa using h2
    simp only [sliceBounds, Option.getD_none]
    have h3 : ¬ ((2 : Int) < 0) := by decide
    simp only [h3, if_false, show (1 : Int) > 0 by decide, if_true]
    rw [show min (2 : Int) (vs.toArray.size : Int) = 2 by omega]
    rfl
  rw [e]
  dsimp only
  rw [if_pos (by decide)]
  refine wpAny_bind (wpAny_rule ?_)
  have hlong : Builtin.List.listTooLong (vs.toArray.size + new.toArray.size) = false := by
    unfold Builtin.List.listTooLong
    simp only [List.size_toArray, hn]
    exact decide_eq_false (Nat.not_lt.mpr hsz)
  rw [hlong, if_neg Bool.false_ne_true]
  have hf : (fun xs : Array Value => xs.extract 0 (0 : Int).toNat ++ new.toArray ++ xs.extract (max (0 : Int) 2).toNat xs.size) vs.toArray = (new ++ vs.drop 2).toArray := by
    apply Array.toList_inj.mp
    simp
    exact List.take_of_length_le (by rw [List.length_drop]; exact Nat.le_refl _)
  have hsize : (new ++ vs.drop 2).length = vs.length := by simp [hn]; omega
  refine wpAny_bind ?_
  unfold Builtin.List.listUpdate
  refine wpAny_updateSeq z.1 rfl ?_ (by simp only [List.size_toArray]; omega) (by refine Nat.le_trans (Nat.le_of_eq (congrArg Array.size hf)) ?_; simp only [List.size_toArray, hsize]; omega)
  refine wpAny_bind (wpAny_letGo ?_)
  refine wpAny_pure ⟨.none, rfl, wpAny_pure (h _ (F₁.change (Heap.SameBut.update ..) z.2.1 z.2.2) (ki_turn _ N₁ a b hf ?_))⟩
  simp only [List.size_toArray, hsize]
  simp
end
section
variable {prog : Program} {w : World} {A : Around} {E : Value → Shared → Prop} {s : Shared} {env : Env} {h₀ : Heap} {x : Str} {body : List Stmt} {Q : Flow → Shared → Prop}
/-- a loop over any written-out range, by an invariant over the turn's number -/
theorem iter_rangeC {r : Addr} {a₀ b₀ c : Int} {t₀ u₀ v₀ : Tok} {n : Nat} {m₀ : Str → Option Value} {news : List (Addr × Obj)} (J : Nat → (Str → Option Value) → List (Addr × Obj) → Prop)
    (hh : A.handled = none) (hr : IsRange s.heap r a₀ b₀ c t₀ u₀ v₀) (hsmall : Builtin.Range.small a₀ b₀ c = true) (hn : Builtin.Range.rangeSize a₀ b₀ c = (n : Int)) (F : Fr h₀ env.locals s.heap m₀) (N : News h₀ env.locals s.heap news) (hj : J 0 m₀ news)
    (turn : ∀ i t m₁ news₁ h tk own, i < n → news₁.map (·.1) = news.map (·.1) → OwnOff own (news.map (·.1)) → J i m₁ news₁ → Fr h₀ env.locals h (fun y => if y = x then some (.int (a₀ + (i : Int) * c) t) else m₁ y) → News h₀ env.locals h (news₁ ++ own) →
      wpAny (model prog w) A (execs body env) (InvPostN h₀ env.locals (J (i + 1)) own (news.map (·.1)) { s with heap := h, toks := tk } Q) E { s with heap := h, toks := tk })
    (done : ∀ m₁ news₁ h tk, J n m₁ news₁ → Fr h₀ env.locals h m₁ → News h₀ env.locals h news₁ → Q .next { s with heap := h, toks := tk }) :
    wpAny (model prog w) A (pyIter (.ref r)) (fun it s₂ => LoopAtV prog w A h₀ env x body Q E it s₂) E s := by
  refine wpAny_pyIter_range hr hsmall ?_
  have W : Walks prog w A s.heap.objs.size [s.heap.objs.size] [s.heap.objs.size] n (fun i v => i < n ∧ ∃ t, v = .int (a₀ + i * c) t)
      (fun i h => IsRangeIter h s.heap.objs.size (a₀ + (i : Nat) * c) ((n : Int) - (i : Nat)) c) := (Walks.range hh _ a₀ c n).bound
  refine loop_invN J W ?_ ?_ ?_ ?_ (by show IsRangeIter _ _ _ _ _; rw [hn]; simpa using Heap.get?_push_size _ rfl) (F.push _) (fun p hp => ⟨Heap.get?_push_of_some _ (N p hp).1, (N p hp).2⟩) hj ?_ done
  · intro hm
    exact absurd F.ns.lt ((List.mem_singleton.mp hm) ▸ Nat.lt_irrefl _)
  · intro b hb
    rw [List.mem_singleton.mp hb]
    exact next_is_new F
  · intro p hp hI
    exact absurd (Heap.lt_size (N p hp).1) ((List.mem_singleton.mp hI) ▸ Nat.lt_irrefl _)
  · intro p hp hI
    exact absurd (Heap.lt_size (N p hp).1) ((List.mem_singleton.mp hI) ▸ Nat.lt_irrefl _)
  · rintro i v m₁ nx h tk own hi ⟨_, t, rfl⟩ ha hoff hJ F₁ N₁
    exact turn i t m₁ nx h tk own hi ha hoff hJ F₁ N₁
/-- what a loop over a range does to one list of ints of the frame's -/
def ListJ (D : Addr) (rest : List (Addr × Obj)) (x : Str) (st : List Str) (m₀ : Str → Option Value) (P : Nat → List Int → Prop) (i : Nat) (m : Str → Option Value) (nx : List (Addr × Obj)) : Prop :=
  ∃ (vs : List Value) (ns : List Int) (cnt : Nat), nx = (D, listOf vs.toArray cnt) :: rest ∧ IntsAre vs ns ∧ P i ns ∧ ∀ z, z ≠ x → st.contains z = false → m z = m₀ z
theorem iter_listC {r D : Addr} {a₀ b₀ c : Int} {t₀ u₀ v₀ : Tok} {n cnt₀ : Nat} {vs₀ : List Value} {ns₀ : List Int} {m₀ : Str → Option Value} {rest : List (Addr × Obj)} (st : List Str) (P : Nat → List Int → Prop)
    (hh : A.handled = none) (hr : IsRange s.heap r a₀ b₀ c t₀ u₀ v₀) (hsmall : Builtin.Range.small a₀ b₀ c = true) (hn : Builtin.Range.rangeSize a₀ b₀ c = (n : Int)) (F : Fr h₀ env.locals s.heap m₀) (N : News h₀ env.locals s.heap ((D, listOf vs₀.toArray cnt₀) :: rest)) (hD : ∀ p ∈ rest, p.1 ≠ D) (hi : IntsAre vs₀ ns₀) (hp : P 0 ns₀)
    (turn : ∀ i t vs ns cnt (u : Str → Option Value) h tk own, i < n → (∀ p ∈ rest ++ own, p.1 ≠ D) → IntsAre vs ns → P i ns → Fr h₀ env.locals h (fun y => if y = x then some (.int (a₀ + (i : Int) * c) t) else if st.contains y then u y else m₀ y) → News h₀ env.locals h ((D, listOf vs.toArray cnt) :: (rest ++ own)) →
      wpAny (model prog w) A (execs body env) (InvPostN h₀ env.locals (ListJ D rest x st m₀ P (i + 1)) own (D :: rest.map (·.1)) { s with heap := h, toks := tk } Q) E { s with heap := h, toks := tk })
    (done : ∀ vs ns cnt (u : Str → Option Value) h tk, IntsAre vs ns → P n ns → Fr h₀ env.locals h (fun y => if y = x then u y else if st.contains y then u y else m₀ y) → News h₀ env.locals h ((D, listOf vs.toArray cnt) :: rest) → Q .next { s with heap := h, toks := tk }) :
    wpAny (model prog w) A (pyIter (.ref r)) (fun it s₂ => LoopAtV prog w A h₀ env x body Q E it s₂) E s := by
  refine iter_rangeC (ListJ D rest x st m₀ P) hh hr hsmall hn F N ⟨vs₀, ns₀, cnt₀, rfl, hi, hp, fun _ _ _ => rfl⟩ ?_ ?_
  · rintro i t m₁ nx h tk own hi ha hoff ⟨vs, ns, cnt, rfl, h1, h2, h3⟩ F₁ N₁
    refine turn i t vs ns cnt m₁ h tk own hi (fun p hp => (List.mem_append.mp hp).elim (hD p) fun hp => hoff p hp D (.head _)) h1 h2 ?_ N₁
    have em : (fun y => if y = x then some (Value.int (a₀ + (i : Int) * c) t) else m₁ y) = fun y => if y = x then some (.int (a₀ + (i : Int) * c) t) else if st.contains y then m₁ y else m₀ y := by
      funext y
      by_cases e1 : y = x
      · rw [if_pos e1, if_pos e1]
      · rw [if_neg e1, if_neg e1]
        cases e2 : st.contains y with
        | true => rw [if_pos rfl]
        | false => rw [if_neg Bool.false_ne_true]; exact h3 y e1 e2
    rw [← em]
    exact F₁
  · rintro m₁ nx h tk ⟨vs, ns, cnt, rfl, h1, h2, h3⟩ F₁ N₁
    refine done vs ns cnt m₁ h tk h1 h2 ?_ N₁
    have em : m₁ = fun y => if y = x then m₁ y else if st.contains y then m₁ y else m₀ y := by
      funext y
      by_cases e1 : y = x
      · rw [if_pos e1]
      · rw [if_neg e1]
        cases e2 : st.contains y with
        | true => rw [if_pos rfl]
        | false => rw [if_neg Bool.false_ne_true]; exact h3 y e1 e2
    rw [em] at F₁
    exact F₁
theorem listJ_head {D L : Addr} {rest own : List (Addr × Obj)} {st : List Str} {m₀ m' : Str → Option Value} {P : Nat → List Int → Prop} {i cnt : Nat} {vs : List Value} {ns : List Int} {s₁ : Shared} {h' : Heap} {tk : Nat}
    (F : Fr h₀ L h' m') (N : News h₀ L h' ((D, listOf vs.toArray cnt) :: (rest ++ own))) (h1 : IntsAre vs ns) (h2 : P i ns) (h3 : ∀ z, z ≠ x → st.contains z = false → m' z = m₀ z) :
    InvEndN h₀ L (ListJ D rest x st m₀ P i) own (D :: rest.map (·.1)) s₁ { s₁ with heap := h', toks := tk } :=
  InvEndN.intro F N ⟨vs, ns, cnt, rfl, h1, h2, h3⟩ rfl (fun p hp => by
    rcases List.mem_cons.mp hp with rfl | hp
    · exact .head _
    · exact .tail _ (List.mem_append_left _ hp)) fun p hp => .tail _ (List.mem_append_right _ hp)
theorem set_head {s : Shared} {L D : Addr} {m : Str → Option Value} {rest : List (Addr × Obj)} {vs : List Value} {ns : List Int} {n : Nat} {k y : Int} {t u : Tok} {Q : Unit → Shared → Prop} (F : Fr h₀ L s.heap m) (N : News h₀ L s.heap ((D, listOf vs.toArray n) :: rest)) (hne : ∀ p ∈ rest, p.1 ≠ D) (hi : IntsAre vs ns) (h0 : 0 ≤ k) (h1 : k < ns.length) (hfit : k < 2 ^ 63)
    (h : ∀ h', Fr h₀ L h' m → News h₀ L h' ((D, listOf (vs.set k.toNat (.int y u)).toArray n) :: rest) → IntsAre (vs.set k.toNat (.int y u)) (ns.set k.toNat y) → Q () { s with heap := h' }) :
    wpAny (model prog w) A (setItem (.ref D) (.int k t) (.int y u)) Q E s :=
  ksa_set F N (Upd.head hne) hi h0 h1 hfit fun h' F' N' hi' _ _ => h h' F' N' hi'
end
end Mine
end

section
open PySem PySem.W PyProof.Rows
set_option Elab.async false
namespace Mine
def mk (r v : Nat) : Bool := decide (v < 2) || (List.range r).any fun i => decide (2 ≤ i) && decide (i * i ≤ v) && (v % i == 0)
theorem mk_iff {r v : Nat} : mk r v = true ↔ v < 2 ∨ ∃ i, i < r ∧ 2 ≤ i ∧ i * i ≤ v ∧ v % i = 0 := by
  unfold mk
  simp only [Bool.or_eq_true, decide_eq_true_eq, List.any_eq_true, List.mem_range, Bool.and_eq_true, beq_iff_eq]
  constructor
  · rintro (h | ⟨i, h1, ⟨h2, h3⟩, h4⟩)
    · exact .inl h
    · exact .inr ⟨i, h1, h2, h3, h4⟩
  · rintro (h | ⟨i, h1, h2, h3, h4⟩)
    · exact .inl h
    · exact .inr ⟨i, h1, ⟨h2, h3⟩, h4⟩
theorem mk_succ {r v : Nat} (hr : 2 ≤ r) : mk (r + 1) v = true ↔ mk r v = true ∨ (r * r ≤ v ∧ v % r = 0) := by
  rw [mk_iff, mk_iff]
  constructor
  · rintro (h | ⟨i, h1, h2, h3, h4⟩)
    · exact .inl (.inl h)
    · by_cases e : i = r
      · subst e; exact .inr ⟨h3, h4⟩
      · exact .inl (.inr ⟨i, by omega, h2, h3, h4⟩)
  · rintro ((h | ⟨i, h1, h2, h3, h4⟩) | ⟨h3, h4⟩)
    · exact .inl h
    · exact .inr ⟨i, by omega, h2, h3, h4⟩
    · exact .inr ⟨r, by omega, hr, h3, h4⟩
def tab (N : Nat) (g : Nat → Int) : List Int := (List.range N).map g
theorem tab_len (N : Nat) (g : Nat → Int) : (tab N g).length = N := by simp [tab]
theorem tab_congr {N : Nat} {g g' : Nat → Int} (h : ∀ v, v < N → g v = g' v) : tab N g = tab N g' := by
  unfold tab
  exact List.map_congr_left fun v hv => h v (List.mem_range.mp hv)
theorem tab_get {N j : Nat} {g : Nat → Int} (hj : j < N) : (tab N g).getD j 0 = g j := by
  unfold tab
  rw [List.getD_eq_getElem?_getD, List.getElem?_map, List.getElem?_range hj]
  rfl
theorem tab_set (N j : Nat) (g : Nat → Int) (x : Int) : (tab N g).set j x = tab N fun v => if v = j then x else g v := by
  unfold tab
  apply List.ext_getElem
  · simp
  · intro i h1 h2
    simp only [List.getElem_set, List.getElem_map, List.getElem_range]
    by_cases e : j = i
    · rw [if_pos e, if_pos e.symm]
    · rw [if_neg e, if_neg (Ne.symm e)]
def sv (N r : Nat) : List Int := tab N fun v => if mk r v = true then 0 else (v : Int)
def inn (N r t : Nat) : List Int := tab N fun v => if mk r v = true ∨ (r * r ≤ v ∧ v % r = 0 ∧ v < r * r + t * r) then 0 else (v : Int)
theorem inn_zero (N r : Nat) : inn N r 0 = sv N r := tab_congr fun v _ => by
  by_cases h : mk r v = true
  · rw [if_pos (.inl h), if_pos h]
  · rw [if_neg (by rintro (q | ⟨h1, _, h3⟩); exact h q; omega), if_neg h]
theorem inn_succ (N r t : Nat) (hr : 1 ≤ r) : (inn N r t).set (r * r + t * r) 0 = inn N r (t + 1) := by
  unfold inn
  rw [tab_set]
  refine tab_congr fun v _ => ?_
  have key : (r * r ≤ v ∧ v % r = 0 ∧ v < r * r + (t + 1) * r) ↔ v = r * r + t * r ∨ (r * r ≤ v ∧ v % r = 0 ∧ v < r * r + t * r) := by
    have e1 : (t + 1) * r = t * r + r := by rw [Nat.add_mul, Nat.one_mul]
    constructor
    · rintro ⟨h1, h2, h3⟩
      by_cases h4 : v < r * r + t * r
      · exact .inr ⟨h1, h2, h4⟩
      · left
        have h5 : (v - (r * r + t * r)) % r = 0 := by
          obtain ⟨q, hq⟩ := Nat.dvd_of_mod_eq_zero h2
          have h6 : r * r + t * r = r * (r + t) := by rw [Nat.mul_add, Nat.mul_comm t r]
          rw [h6, hq, ← Nat.mul_sub, Nat.mul_mod_right]
        have h7 : v - (r * r + t * r) < r := by omega
        rw [Nat.mod_eq_of_lt h7] at h5
        omega
    · rintro (h | ⟨h1, h2, h3⟩)
      · subst h
        refine ⟨by omega, ?_, by omega⟩
        rw [← Nat.add_mul, Nat.mul_mod_left]
      · exact ⟨h1, h2, by omega⟩
  by_cases e : v = r * r + t * r
  · rw [if_pos e, if_pos (.inr (key.mpr (.inl e)))]
  · rw [if_neg e]
    by_cases h : mk r v = true ∨ (r * r ≤ v ∧ v % r = 0 ∧ v < r * r + t * r)
    · rw [if_pos h, if_pos (h.imp id fun q => key.mpr (.inr q))]
    · rw [if_neg h, if_neg]
      rintro (q | q)
      · exact h (.inl q)
      · rcases key.mp q with q | q
        · exact e q
        · exact h (.inr q)
theorem inn_end {N r t : Nat} (hr : 2 ≤ r) (h : N ≤ r * r + t * r) : inn N r t = sv N (r + 1) := tab_congr fun v hv => by
  by_cases q : mk r v = true ∨ (r * r ≤ v ∧ v % r = 0 ∧ v < r * r + t * r)
  · rw [if_pos q, if_pos ((mk_succ hr).mpr (q.imp id fun z => ⟨z.1, z.2.1⟩))]
  · rw [if_neg q, if_neg]
    intro z
    rcases (mk_succ hr).mp z with z | ⟨z1, z2⟩
    · exact q (.inl z)
    · exact q (.inr ⟨z1, z2, by omega⟩)
theorem sv_skip {N r : Nat} (hr : 2 ≤ r) (hN : r < N) (h : (sv N r).getD r 0 = 0) : sv N r = sv N (r + 1) := by
  unfold sv at h
  rw [tab_get hN] at h
  have hm : mk r r = true := by
    by_cases q : mk r r = true
    · exact q
    · rw [if_neg q] at h; omega
  refine tab_congr fun v _ => ?_
  have key : mk (r + 1) v = true ↔ mk r v = true := by
    rw [mk_succ hr]
    constructor
    · rintro (q | ⟨q1, q2⟩)
      · exact q
      · rcases mk_iff.mp hm with z | ⟨i, h1, h2, h3, h4⟩
        · omega
        · refine mk_iff.mpr (.inr ⟨i, h1, h2, ?_, ?_⟩)
          · have : r ≤ r * r := Nat.le_mul_of_pos_left r (by omega)
            omega
          · exact Nat.mod_eq_zero_of_dvd (Nat.dvd_trans (Nat.dvd_of_mod_eq_zero h4) (Nat.dvd_of_mod_eq_zero q2))
    · exact .inl
  by_cases q : mk r v = true
  · rw [if_pos q, if_pos (key.mpr q)]
  · rw [if_neg q, if_neg (fun z => q (key.mp z))]
theorem sv_start {n : Int} (h : 4 ≤ n) : 0 :: 0 :: (rangeKs 0 (n + 1 - 0).toNat).drop 2 = sv (n + 1).toNat 2 := by
  obtain ⟨k, hk⟩ : ∃ k : Nat, (n + 1).toNat = k + 2 := ⟨(n + 1).toNat - 2, by omega⟩
  have e0 : (n + 1 - 0).toNat = k + 2 := by rw [Int.sub_zero]; exact hk
  rw [e0, hk]
  unfold sv tab rangeKs
  apply List.ext_getElem
  · simp
  · intro i h1 h2
    simp only [List.getElem_map, List.getElem_range]
    match i with
    | 0 => rfl
    | 1 => rfl
    | i + 2 =>
      rw [if_neg]
      · simp only [List.getElem_cons_succ, List.getElem_drop, List.getElem_map, List.getElem_range]
        omega
      · intro q
        rcases mk_iff.mp q with z | ⟨j, z1, z2, _⟩
        · omega
        · omega
end Mine
end

section
open PySem PySem.W PyProof.Rows
set_option Elab.async false
set_option maxRecDepth 100000
set_option maxHeartbeats 4000000
namespace Mine
local macro_rules | `(tactic| walk_at "no such key 0") => `(tactic| done)
local macro_rules | `(tactic| walk_at "no such key 1") => `(tactic| done)
local macro_rules | `(tactic| walk_at "no such key 2") => `(tactic| done)
local macro_rules | `(tactic| walk_at "no such key 3") => `(tactic| done)
local macro_rules | `(tactic| walk_at "no such key 4") => `(tactic| done)
local macro_rules | `(tactic| walk_at "no such key 5") => `(tactic| done)
local macro_rules | `(tactic| walk_at "no such key 6") => `(tactic| done)
local macro_rules | `(tactic| walk_at "no such key 7") => `(tactic| done)
local macro_rules | `(tactic| walk_at "no such key 8") => `(tactic| done)
local macro_rules | `(tactic| walk_at "no such key 9") => `(tactic| done)
local macro_rules | `(tactic| walk_at "no such key 10") => `(tactic| done)
local macro_rules | `(tactic| walk_at "no such key 11") => `(tactic| done)
local macro_rules | `(tactic| walk_at "no such key 12") => `(tactic| done)
local macro_rules | `(tactic| walk_at "no such key 13") => `(tactic| done)
local macro_rules | `(tactic| walk_at "no such key 14") => `(tactic| done)
local macro_rules | `(tactic| walk_at "no such key 15") => `(tactic| done)
local macro_rules | `(tactic| walk_at "no such key 16") => `(tactic| done)
local macro_rules | `(tactic| walk_at "no such key 17") => `(tactic| done)
local macro_rules | `(tactic| walk_at "no such key 18") => `(tactic| done)
local macro_rules | `(tactic| walk_at "no such key 19") => `(tactic| done)
local macro_rules | `(tactic| walk_at "no such key 20") => `(tactic| done)
local macro_rules | `(tactic| walk_at "call ref") => `(tactic| (k_here; (with_reducible show wpAny _ _ (call (Value.ref 42) [Value.int _ _]) _ _ _); k_dflt (refine' gives_ask (isqrt_use ?h0 ?h1) ?k1 ?k2 ?k3 ?k4 ?k5 ?kK ?kd ?ku ?_; (case h0 => omega); (case h1 => exact intBits_le_iff.mpr (Nat.lt_of_lt_of_le (show (Int.natAbs _) < 2 ^ 10 by omega) (Nat.pow_le_pow_right (by decide) (by decide)))); (case k1 => k_asm); (case k2 => k_asm); (case k3 => k_asm); (case k4 => k_asm); (case k5 => k_asm); (case kK => first | exact rfl | assumption); (case kd => ktr_room); (case ku => ktr_units)); intro t9 h9 tk9 F9 N9; (try dsimp only); (try k_fold)))
theorem seq_len {vs : List Value} {n : Int} (h : IntsAre vs (rangeKs 0 (n + 1 - 0).toNat)) : vs.length = (n + 1).toNat := by
  rw [h.length]
  unfold rangeKs
  simp
theorem len_two {vs : List Value} {n : Int} (h : IntsAre vs (rangeKs 0 (n + 1 - 0).toNat)) (h0 : 4 ≤ n) : 2 ≤ vs.length := by
  rw [seq_len h]; omega
theorem len_fits {vs : List Value} {n : Int} (h : IntsAre vs (rangeKs 0 (n + 1 - 0).toNat)) (h1 : n ≤ 400) : vs.length + 2 ≤ sizeLine := by
  rw [seq_len h, sizeLine_eq]; omega
local macro_rules | `(tactic| walk_at "setItem ref ref") => `(tactic| (k_here; k_dflt (refine' set_slice2 ?kF ?kN ?kv ?kn ?k2 ?kl ?kz ?kU ?_; (case kF => k_asm); (case kN => k_asm); (case kv => k_mem); (case kn => k_ne); (case k2 => exact len_two (by assumption) (by assumption)); (case kl => exact rfl); (case kz => exact len_fits (by assumption) (by assumption)); (case kU => k_upd); k_whole); intro h9 F9 N9; (try dsimp only at N9)))
theorem Hold.intro {P : Prop} (h : P) : Hold P := h
theorem ints_drop : ∀ {vs : List Value} {ns : List Int} (k : Nat), IntsAre vs ns → IntsAre (vs.drop k) (ns.drop k)
  | _, _, 0, h => h
  | _, _, _ + 1, .nil => .nil
  | _, _, k + 1, .cons _ _ h => ints_drop k h
theorem ints_start {vs : List Value} {n : Int} {t u : Tok} (h : IntsAre vs (rangeKs 0 (n + 1 - 0).toNat)) (h0 : 4 ≤ n) : IntsAre (.int 0 t :: .int 0 u :: vs.drop 2) (sv (n + 1).toNat 2) := by
  rw [← sv_start h0]
  exact .cons _ _ (.cons _ _ (ints_drop 2 h))
theorem q_le {n : Int} (h0 : 4 ≤ n) (h1 : n ≤ 400) : 2 ≤ isq (n + 1) ∧ isq (n + 1) ≤ 20 ∧ isq (n + 1) * isq (n + 1) ≤ n + 1 := by
  have hr := isq_root (x := n + 1) (by omega)
  generalize isq (n + 1) = q at *
  refine ⟨?_, ?_, hr.le⟩
  · apply Int.not_lt.mp
    intro h
    have h2 := sq_le (a := q + 1) (b := 2) (by have := hr.nn; omega) (by omega)
    have := hr.lt
    omega
  · apply Int.not_lt.mp
    intro h
    have h2 := sq_le (a := 21) (b := q) (by omega) (by omega)
    have := hr.le
    omega
theorem news_swap {h₀ h : Heap} {L : Addr} {p q : Addr × Obj} (N : News h₀ L h [p, q]) : News h₀ L h [q, p] := fun x hx => N x (by
  simp only [List.mem_cons, List.not_mem_nil, or_false] at hx ⊢
  exact hx.symm)
theorem outer_start {N : Nat} : sv N 2 = sv N (2 + 0) := rfl
local macro_rules | `(tactic| walk_at "pyIter ref") => `(tactic| (k_here; (with_reducible show wpAny _ _ (pyIter (Value.ref _)) (fun it s₂ => LoopAtV _ _ _ _ _ _ _ _ _ it s₂) _ _); refine Hold.of ?_))
theorem r_facts {n q : Int} {k r : Nat} (h0 : 4 ≤ n) (hq : q ≤ 20) (hqq : q * q ≤ n + 1) (hk : k < (q + 1 - 2).toNat) (hr : r = 2 + k) : 2 ≤ r ∧ r ≤ 20 ∧ r * r ≤ (n + 1).toNat ∧ r < (n + 1).toNat := by
  have h1 : (r : Int) ≤ q := by omega
  have h2 := sq_le (a := (r : Int)) (b := q) (by omega) h1
  have h3 : ((r * r : Nat) : Int) ≤ n + 1 := by push_cast; omega
  have h4 : 2 * r ≤ r * r := Nat.mul_le_mul_right r (by omega)
  exact ⟨by omega, by omega, by omega, by omega⟩
theorem pow_two (r : Nat) : ((r : Int) ^ (2 : Int).toNat) = ((r * r : Nat) : Int) := by
  rw [show (2 : Int).toNat = 2 from rfl]
  push_cast
  rw [Int.pow_succ, Int.pow_succ, Int.pow_zero, Int.one_mul]
theorem inner_idx {r k : Nat} : ((r : Int) ^ (2 : Int).toNat) + (k : Int) * (r : Int) = ((r * r + k * r : Nat) : Int) := by
  rw [pow_two]
  push_cast
  rfl
theorem inner_size {n : Int} {r : Nat} (hr : 2 ≤ r) (hr3 : r * r ≤ (n + 1).toNat) (h0 : 4 ≤ n) : ∃ k : Nat, Builtin.Range.rangeSize ((r : Int) ^ (2 : Int).toNat) (n + 1) (r : Int) = (k : Int) ∧ (∀ t, t < k → r * r + t * r < (n + 1).toNat) ∧ (n + 1).toNat ≤ r * r + k * r := by
  rw [pow_two]
  unfold Builtin.Range.rangeSize
  rw [if_pos (by omega)]
  obtain ⟨N, hN⟩ : ∃ N : Nat, n + 1 = (N : Int) := ⟨(n + 1).toNat, by omega⟩
  rw [hN] at hr3 ⊢
  rw [Int.toNat_natCast] at hr3 ⊢
  generalize r * r = S at *
  by_cases h : S < N
  · rw [if_pos (by omega)]
    refine ⟨(N - S - 1) / r + 1, ?_, fun t ht => ?_, ?_⟩
    · have e : ((N : Int) - (S : Int) - 1) = ((N - S - 1 : Nat) : Int) := by omega
      rw [e]
      push_cast
      rfl
    · have h1 : t * r ≤ (N - S - 1) / r * r := Nat.mul_le_mul_right r (by omega)
      have h2 := Nat.div_mul_le_self (N - S - 1) r
      omega
    · have h1 := Nat.lt_div_mul_add (a := N - S - 1) (b := r) (by omega)
      rw [Nat.add_mul, Nat.one_mul]
      omega
  · rw [if_neg (by omega)]
    exact ⟨0, rfl, fun t ht => absurd ht (Nat.not_lt_zero _), by omega⟩
theorem inner_small {n : Int} {r : Nat} (hr : 2 ≤ r) (hr2 : r ≤ 20) (hr3 : r * r ≤ (n + 1).toNat) (h0 : 4 ≤ n) (h1 : n ≤ 400) : Builtin.Range.small ((r : Int) ^ (2 : Int).toNat) (n + 1) (r : Int) = true := by
  obtain ⟨k, hs1, hs2, _⟩ := inner_size hr hr3 h0
  have hk : k ≤ 402 := by
    apply Nat.not_lt.mp
    intro h
    have h3 := hs2 (k - 1) (by omega)
    have h4 : (k - 1) * 1 ≤ (k - 1) * r := Nat.mul_le_mul_left _ (by omega)
    omega
  have h2 : r * r ≤ 400 := Nat.mul_le_mul hr2 hr2
  unfold Builtin.Range.small
  rw [hs1, pow_two]
  generalize r * r = S at *
  have hp : (r : Int) > 0 := by omega
  simp only [Builtin.Range.rangeFitsLong, Bool.and_eq_true, Bool.or_eq_true, decide_eq_true_eq, beq_iff_eq, hp, if_true]
  omega
noncomputable def prI (n : Int) : List Int := (sv (n + 1).toNat (2 + (isq (n + 1) + 1 - 2).toNat)).filter fun a => a != 0
theorem old_ne {g : Heap} {a b : Addr} {o : Obj} (h : g.get? a = some o) (k : g.get? b = none) : a ≠ b := fun q => by
  rw [q, k] at h
  cases h
theorem list_news {h₀ g h' : Heap} {L D : Addr} {m : Str → Option Value} {ys : List Value} {news : List (Addr × Obj)} (kF : Fr h₀ L h' m) (FG : Fr h₀ L g m) (hg : g.get? D = none) (hl : h'.IsList D ys.toArray) (N : News h₀ L h' news) :
    ∃ o c, News h₀ L h' ((D, o) :: news) ∧ o.cls = .type "list" ∧ o.data = .seq ys.toArray c := by
  obtain ⟨o, ho, hc, c, hd⟩ := hl
  refine ⟨o, c, fun p hp => ?_, hc, hd⟩
  rcases List.mem_cons.mp hp with rfl | hp
  · refine ⟨ho, ?_, ?_⟩
    · intro q
      obtain ⟨oL, es, ep, e, hd', _⟩ := kF.ns
      have ho' : h'.get? L = some o := q ▸ ho
      rw [ho'] at e
      cases e
      rw [hd] at hd'
      cases hd'
    · cases q : h₀.get? D with
      | none => rfl
      | some x =>
        have := FG.keep _ _ q
        rw [hg] at this
        cases this
  · exact N p hp
abbrev RetL (h₀ : Heap) (L : Addr) (m : Str → Option Value) (news : List (Addr × Obj)) (s : Shared) (Q : Value → Shared → Prop) (ns : List Int) : Prop :=
  ∀ (q : Addr) (o : Obj) (ys : List Value) (c : Nat) (h' : Heap) (tk' : Nat), Fr h₀ L h' m → News h₀ L h' ((q, o) :: news) → o.cls = .type "list" → o.data = .seq ys.toArray c → IntsAre ys ns → (∀ p ∈ news, p.1 ≠ q) → Q (.ref q) { s with heap := h', toks := tk' }
local macro_rules | `(tactic| walk_at "setItem ref int") => `(tactic| (k_here; k_dflt (refine' set_head ?kF ?kN ?kne ?ki ?k0 ?k1 ?kf ?_; (case kF => k_asm); (case kN => k_asm); (case kne => assumption); (case ki => assumption); (case k0 => omega); (case k1 => omega); (case kf => omega); k_whole); intro h9 F9 N9 i9))
theorem lp_t (w : World) (mean : ExcName → Option Value) (mg mb : Str → Option Value) (n : Int) (t : Tok) (h0 : 4 ≤ n) (h1 : n ≤ 400) (news : List (Addr × Obj))
    (dp un : Nat) (gd : Option (List Code)) (cn : Str) (cs : Scope) (a : Addr) (ccd : Value) (cl : List (Str × Addr)) (outer : List Env) (A₀ : Around) (base h₀ : Heap) (L : Addr) (m : Str → Option Value) (s : Shared) (Q E : Value → Shared → Prop)
    (B : Below A₀ base outer h₀) (F : Fr h₀ L s.heap m) (X : (hd.heap_39 w.params).In h₀) (N : News h₀ L s.heap news) (T : Top topProg looseM mean mg mb h₀) (hk : cs.kind = .function)
    (hdp : dp + 4 < recursionLimit) (hun : un + 8 * 4 < cLine) (hret : RetL h₀ L m news s Q (prI n)) :
      wpAny (model PySem.Challenge.rw_ag5013_01.row.prog w) (ktrTop dp un gd cn cs L a ccd cl outer) (call (.ref 61) [.int n t]) Q E s := by
  revert X
  k_fill
  intro X
  refine wpAny_call ?_
  k_dflt (refine' code_defC ?k1 ?k2 ?k3 ?k4 ?k5 ?kA ?kF ?kK ?k6 ?k7 ?k8 ?k9 ?kB ?kD ?_ ?c2 ?c3 ?c4; (case kA => exact rfl); (case kF => exact rfl); (case kK => assumption); (case k1 => k_asm); (case k2 => k_asm); (case k3 => k_asm); (case k4 => k_asm); (case k5 => k_asm); (case k6 => k_is); (case k7 => k_is); (case k8 => ktr_room); (case k9 => first | exact BindsTo.of_eq rfl | exact binds_K (by k_in) rfl (by k_is) rfl rfl rfl | fail "k_enter: no rule for these arguments"); (case kB => exact rfl); (case kD => decide +kernel); (case c2 => exact rfl); (case c3 => exact rfl); (case c4 => exact rfl); k_whole; intro g' L' h' tk' cells' FG' F' N' Y' B' X' T' hlt; (try dsimp only))
  obtain rfl : cells' = [] := by
    have Z : CellsAre _ [] cells' := Y'
    cases Z
    rfl
  clear Y'
  refine body_rebased [] (own := []) FG' F' N' B' X' T' hlt (fun _ _ h => nomatch h) (fun _ h => nomatch h) (fun _ h => nomatch h) ?_
  clear hlt N' FG' F' B' X' T'
  intro g'' FG' F' N' B' X' T' st old
  clear F N st
  obtain ⟨hq0, hq1, hq2⟩ := q_le h0 h1
  k_here
  k_steps
  refine' Hold.intro (iter_listC (ns₀ := sv (n + 1).toNat 2) [Str.ofString "j"] (fun k ns => ns = sv (n + 1).toNat (2 + k)) ?a1 ?a2 ?a3 ?a4 ?a5 (news_swap ?a6) ?aD ?a7 ?a8 ?a9 ?b1)
  case a1 => exact rfl
  case a2 => assumption
  case a3 => exact small_one (by omega) (by omega) (by omega) (by omega)
  case a4 => exact rangeSize_nat _ _
  case a5 => assumption
  case a6 => assumption
  case aD =>
    intro p hp
    rw [List.mem_singleton.mp hp]
    k_ne
  case a7 => exact ints_start (by assumption) (by assumption)
  case a8 => rfl
  case a9 =>
    intro k tk vs ns cnt u h₁ tk₁ own hk hoff hi hp F₁ N₁
    subst hp
    obtain ⟨r, hr⟩ : ∃ r, r = 2 + k := ⟨_, rfl⟩
    obtain ⟨hr1, hr2, hr3, hr4⟩ := r_facts h0 hq1 hq2 hk hr
    have e1 : (2 : Int) + (k : Int) * 1 = (r : Int) := by omega
    rw [e1] at F₁
    rw [← hr] at hi
    have hlen : (sv (n + 1).toNat r).length = (n + 1).toNat := tab_len ..
    k_steps
    · obtain ⟨k₂, hs1, hs2, hs3⟩ := inner_size (n := n) (r := r) hr1 hr3 h0
      refine' Hold.intro (iter_listC (ns₀ := inn (n + 1).toNat r 0) [] (fun k ns => ns = inn (n + 1).toNat r k) ?c1 ?c2 ?c3 hs1 ?c5 ?c6 ?cD ?c7 ?c8 ?c9 ?d1)
      case c1 => exact rfl
      case c2 => assumption
      case c3 => exact inner_small hr1 hr2 hr3 h0 h1
      case c5 => assumption
      case c6 => assumption
      case cD => assumption
      case c7 => rw [inn_zero]; assumption
      case c8 => rfl
      case c9 =>
        intro k₂ tk₂ vs₂ ns₂ cnt₂ u₂ h₂ tk₃ own₂ hk₂ hne₂ hi₂ hp₂ F₂ N₂
        subst hp₂
        rw [inner_idx] at F₂
        have hb := hs2 _ hk₂
        have hl2 : (inn (n + 1).toNat r k₂).length = (n + 1).toNat := tab_len ..
        k_steps
        refine listJ_head (by assumption) (by assumption) (by assumption) ?_ ?_
        · rw [Int.toNat_natCast]
          exact inn_succ _ _ _ (by omega)
        · intro z h1 h2
          simp [h1]
      case d1 =>
        intro vs₂ ns₂ cnt₂ u₂ h₂ tk₃ hi₂ hp₂ F₂ N₂
        subst hp₂
        k_steps
        refine listJ_head (by assumption) (by assumption) hi₂ ?_ ?_
        · rw [inn_end hr1 hs3, hr]
          rfl
        · intro z h1 h2
          have h3 : z ≠ Str.ofString "j" := by simpa using h2
          simp [h1, h3]
    · refine listJ_head (by assumption) (by assumption) hi ?_ ?_
      · rw [sv_skip hr1 hr4 (by assumption), hr]
        rfl
      · intro z h1 h2
        have h3 : z ≠ Str.ofString "j" := by simpa using h2
        simp [h1, h3]
  case b1 =>
    intro vs ns cnt u h₁ tk₁ hi hp F₁ N₁
    subst hp
    have hlen : (sv (n + 1).toNat (2 + (isq (n + 1) + 1 - 2).toNat)).length ≤ 401 := Nat.le_trans (Nat.le_of_eq (tab_len ..)) (by omega)
    unfold prI at hret
    generalize sv (n + 1).toNat (2 + (isq (n + 1) + 1 - 2).toNat) = ns at *
    k_steps
    obtain ⟨o, c, N₇, hc, hd⟩ := list_news (by assumption) FG' (by assumption) (by assumption) (by assumption : News h₀ L _ news)
    exact hret _ o _ c _ _ (by assumption) N₇ hc hd (IntsAre.ofCarried (by assumption)) (fun p hp => old_ne (old p hp) (by assumption))
end Mine
end

section
open PySem PySem.W PySem.Calls PyProof.Rows
set_option Elab.async false
set_option maxRecDepth 100000
set_option maxHeartbeats 4000000
namespace Mine
/-- the ledger without the code table's entries (they stand last), and the ledger with new ones in their place -/
inductive RemF : List (Addr × Obj) → List (Addr × Obj) → (Addr × Obj → Addr × Obj → List (Addr × Obj)) → Prop
  | one {o : Obj} : RemF [(64, o)] [] fun x y => [x, y]
  | two {o : Obj} {q : Addr × Obj} : RemF [(64, o), q] [] fun x y => [x, y]
  | keep {p : Addr × Obj} {l r : List (Addr × Obj)} {g : Addr × Obj → Addr × Obj → List (Addr × Obj)} : p.1 ≠ 64 → RemF l r g → RemF (p :: l) (p :: r) fun x y => p :: g x y
theorem RemF.off {l r : List (Addr × Obj)} {g : Addr × Obj → Addr × Obj → List (Addr × Obj)} (h : RemF l r g) : ∀ p ∈ r, p.1 ≠ 64 := by
  induction h with
  | one => intro p hp; cases hp
  | two => intro p hp; cases hp
  | keep hne _ ih =>
    intro p hp
    rcases List.mem_cons.mp hp with rfl | hp
    · exact hne
    · exact ih p hp
theorem RemF.sub {l r : List (Addr × Obj)} {g : Addr × Obj → Addr × Obj → List (Addr × Obj)} (h : RemF l r g) : ∀ p ∈ r, p ∈ l := by
  induction h with
  | one => intro p hp; cases hp
  | two => intro p hp; cases hp
  | keep hne _ ih =>
    intro p hp
    rcases List.mem_cons.mp hp with rfl | hp
    · exact .head _
    · exact .tail _ (ih p hp)
theorem RemF.out {l r : List (Addr × Obj)} {g : Addr × Obj → Addr × Obj → List (Addr × Obj)} (h : RemF l r g) (x y : Addr × Obj) : ∀ p ∈ g x y, p ∈ r ∨ p = x ∨ p = y := by
  induction h with
  | one => intro p hp; simpa using hp
  | two => intro p hp; simpa using hp
  | keep hne _ ih =>
    intro p hp
    rcases List.mem_cons.mp hp with rfl | hp
    · exact .inl (.head _)
    · exact (ih p hp).imp (fun q => .tail _ q) id
/-- what the table and its one code object are -/
def Memo2 (ps : Array Value) (c : Addr) (o : Obj) : Prop :=
  (ps = #[] ∧ (c, o) = (64, tabObj ps)) ∨ ∃ (vs : Array Value) (t : Tok), ps = #[rawInt 50, rawInt 4, .ref c] ∧ o.data = .fields vs ∧ vs[1]? = some (.str qTest t) ∧ c ≠ 64
/-- where a new code object does not lie -/
structure Apart (c' c : Addr) (rest : List (Addr × Obj)) : Prop where
  it : c' = 64 ∨ c' = c ∨ ∀ p ∈ rest, p.1 ≠ c'
/-- isprime, as the law calls it -/
theorem isprime_law {w : World} {mean : ExcName → Option Value} {mg mb : Str → Option Value} {n : Int} {t : Tok} {led rest : List (Addr × Obj)} {g : Addr × Obj → Addr × Obj → List (Addr × Obj)} {ps : Array Value} {c : Addr} {o : Obj}
    {dp un : Nat} {gd : Option (List Code)} {cn : Str} {cs : Scope} {a : Addr} {ccd : Value} {cl : List (Str × Addr)} {outer : List Env} {A₀ : Around} {base h₀ : Heap} {L : Addr} {m : Str → Option Value} {s : Shared} {Q E : Value → Shared → Prop}
    (h0 : 0 ≤ n) (h1 : n < 10000) (B : Below A₀ base outer h₀) (F : Fr h₀ L s.heap m) (X : (hd.heap_39 w.params).In h₀) (N : News h₀ L s.heap led) (T : Top topProg looseM mean mg mb h₀) (hk : cs.kind = .function)
    (C : CodeHd h₀ 68 64) (M : Memo2 ps c o) (hm : (64, tabObj ps) ∈ led) (hc : (c, o) ∈ led) (R : RemF led rest g) (hdp : dp + 3 < recursionLimit) (hun : un + 8 * 3 < cLine)
    (ret : ∀ (ps' : Array Value) (c' : Addr) (o' : Obj) (h' : Heap) (tk' : Nat), Memo2 ps' c' o' → Fr h₀ L h' m → News h₀ L h' (g (64, tabObj ps') (c', o')) → Apart c' c rest → Q (.bool (isprF n)) { s with heap := h', toks := tk' }) :
      wpAny (model PySem.Challenge.rw_ag5013_01.row.prog w) (ktrTop dp un gd cn cs L a ccd cl outer) (call (.ref 69) [.int n t]) Q E s := by
  have Nr : News h₀ L s.heap rest := fun p hp => N p (R.sub p hp)
  obtain ⟨ex, hps, hN, hex⟩ : ∃ ex, MemoOk ps ex ∧ News h₀ L s.heap ex ∧ ∀ q ∈ ex, q.1 = c := by
    rcases M with ⟨rfl, _⟩ | ⟨vs, t, rfl, hd, hv, hne⟩
    · exact ⟨[], .inl ⟨rfl, rfl⟩, (fun p hp => by cases hp), fun p hp => by cases hp⟩
    · refine ⟨[(c, o)], .inr ⟨c, o, vs, t, rfl, rfl, hd, hv, hne⟩, fun p hp => ?_, fun p hp => ?_⟩
      · rw [List.mem_singleton.mp hp]; exact N _ hc
      · rw [List.mem_singleton.mp hp]
  refine isprime_t w mean mg mb n t h0 h1 rest ex ps hps (memo_off hps R.off) dp un gd cn cs a ccd cl outer A₀ base h₀ L m s Q E B F X (fun p hp => ?_) T hk C hdp hun (fun h' tk' F' N' M' => ?_)
  · rcases List.mem_cons.mp hp with rfl | hp
    · exact N _ hm
    · rcases List.mem_append.mp hp with hp | hp
      · exact hN p hp
      · exact Nr p hp
  · obtain ⟨ps', ex', K, N2, hx⟩ := M'
    obtain ⟨c', o', M2, N3, A3⟩ : ∃ c' o', Memo2 ps' c' o' ∧ News h₀ L h' [(64, tabObj ps'), (c', o')] ∧ Apart c' c rest := by
      rcases K with ⟨rfl, rfl⟩ | ⟨c', o', vs, t, rfl, rfl, hd, hv, hne⟩
      · exact ⟨64, _, .inl ⟨rfl, rfl⟩, fun p hp => N2 p (by
          simp only [List.mem_cons, List.not_mem_nil, or_false, or_self] at hp
          rw [hp]; exact .head _), ⟨.inl rfl⟩⟩
      · refine ⟨c', o', .inr ⟨vs, t, rfl, hd, hv, hne⟩, N2, ⟨?_⟩⟩
        rcases hx with hx | hx
        · exact .inr (.inl (hex (c', o') (by rw [← hx]; exact .head _)))
        · exact .inr (.inr fun p hp => hx _ (.head _) p hp)
    refine ret ps' c' o' h' tk' M2 F' (fun p hp => ?_) A3
    rcases R.out _ _ p hp with hp | rfl | rfl
    · exact N' p hp
    · exact N3 _ (.head _)
    · exact N3 _ (.tail _ (.head _))
theorem RemF.mem {l r : List (Addr × Obj)} {g : Addr × Obj → Addr × Obj → List (Addr × Obj)} (h : RemF l r g) (x y : Addr × Obj) : x ∈ g x y ∧ y ∈ g x y := by
  induction h with
  | one => exact ⟨.head _, .tail _ (.head _)⟩
  | two => exact ⟨.head _, .tail _ (.head _)⟩
  | keep _ _ ih => exact ⟨.tail _ ih.1, .tail _ ih.2⟩
theorem RemF.inr {l r : List (Addr × Obj)} {g : Addr × Obj → Addr × Obj → List (Addr × Obj)} (h : RemF l r g) (x y : Addr × Obj) : ∀ p ∈ r, p ∈ g x y := by
  induction h with
  | one => intro p hp; cases hp
  | two => intro p hp; cases hp
  | keep _ _ ih =>
    intro p hp
    rcases List.mem_cons.mp hp with rfl | hp
    · exact .head _
    · exact .tail _ (ih p hp)
theorem RemF.again {l r : List (Addr × Obj)} {g : Addr × Obj → Addr × Obj → List (Addr × Obj)} (h : RemF l r g) (o : Obj) (y : Addr × Obj) : RemF (g (64, o) y) r g := by
  induction h with
  | one => exact .two
  | two => exact .two
  | keep hne _ ih => exact .keep hne ih
theorem ints_at {vs : List Value} {ns : List Int} (h : IntsAre vs ns) {i : Nat} {v : Value} (e : vs[i]? = some v) : ∃ k t, ns[i]? = some k ∧ v = .int k t := by
  induction h generalizing i with
  | nil => simp at e
  | cons k t _ ih =>
    cases i with
    | zero => simp at e; exact ⟨k, t, rfl, e.symm⟩
    | succ i =>
      rw [List.getElem?_cons_succ] at e ⊢
      exact ih e
theorem ints_len {vs : List Value} {ns : List Int} (h : IntsAre vs ns) : vs.length = ns.length := by
  induction h with
  | nil => rfl
  | cons _ _ _ ih => rw [List.length_cons, List.length_cons, ih]
section
variable {prog : Program} {w : World} {A : Around} {h₀ : Heap} {L : Addr} {m : Str → Option Value} {env : Env} {ct elt : Expr} {x : Str} {scope : Scope} {cl : List (Str × Addr)} {s : Shared} {S : List (Addr × Obj) → Prop} {P : Nat → Value → Prop} {Fin : List Value → List (Addr × Obj) → Prop}
/-- the state behind a turn of a comprehension -/
def Mid (h₀ : Heap) (L : Addr) (m : Str → Option Value) (s : Shared) (S Inv : List (Addr × Obj) → Prop) (I : Addr) (oI : Obj) (C : Addr) (oC : Obj) (D : Addr) (ys : List Value) (s' : Shared) : Prop :=
  ∃ h' tk' nw', s' = { s with heap := h', toks := tk' } ∧ Fr h₀ L h' m ∧ News h₀ L h' ((I, oI) :: (C, oC) :: (D, LCg.lst ys) :: nw') ∧ LCg.Off3 I C D nw' ∧ S nw' ∧ Inv nw'
/-- a comprehension that keeps some of its source's ints; a turn may change the ledger -/
theorem restT_filter {n : Nat} {ks : List Int} {nw₀ : List (Addr × Obj)} (pz : Int → Bool) (Inv : List (Addr × Obj) → Prop) (hks : ks.length = n) (hP : ∀ i v, i < n → P i v → ∃ k t, ks[i]? = some k ∧ v = .int k t) (h0 : Inv nw₀)
    (turn : ∀ k t I oI C oC D m₂ ys nw h tk (E' : Value → Shared → Prop), k ∈ ks → Inv nw → LCg.NsObj oC m₂ → m₂ x = some (.int k t) → Fr h₀ L h m → News h₀ L h ((I, oI) :: (C, oC) :: (D, LCg.lst ys) :: nw) → LCg.Off3 I C D nw → ((@Ne Nat I C) ∧ (@Ne Nat I D) ∧ (@Ne Nat C D)) →
      wpAny (model prog w) A (isTrue ct (compEnvC scope cl C env) (eval ct (compEnvC scope cl C env))) (fun b s' => if b = true then wpAny (model prog w) A (eval elt (compEnvC scope cl C env)) (fun y s'' => (∃ t', y = .int k t') ∧ pz k = true ∧ Mid h₀ L m s S Inv I oI C oC D ys s'') E' s'
        else pz k = false ∧ Mid h₀ L m s S Inv I oI C oC D ys s') E' { s with heap := h, toks := tk })
    (fin : ∀ ys nw, IntsAre ys (ks.filter pz) → Inv nw → Fin ys nw) : LCt.CompRestT prog w A h₀ L m env ct elt x scope cl s S P Fin n 0 [] nw₀ := by
  have key : ∀ (j i : Nat) (ys : List Value) (nw : List (Addr × Obj)), i + j = n → IntsAre ys ((ks.take i).filter pz) → Inv nw → LCt.CompRestT prog w A h₀ L m env ct elt x scope cl s S P Fin j i ys nw := by
    intro j
    induction j with
    | zero =>
      intro i ys nw hi hy hn
      have e : i = ks.length := by omega
      subst e
      rw [List.take_length] at hy
      exact LCt.CompRestT.zero (fin ys nw hy hn)
    | succ j ih =>
      intro i ys nw hi hy hn
      refine LCt.CompRestT.succ ?_
      intro v I oI C oC D m₂ h tk E' hv hC hx F N off ne
      obtain ⟨k, t, hk, hv'⟩ := hP i v (by omega) hv
      rw [hv'] at hx
      have hs : ks.take (i + 1) = ks.take i ++ [k] := by rw [List.take_add_one, hk]; rfl
      refine wpAny_mono (turn k t I oI C oC D m₂ ys nw h tk E' (List.mem_of_getElem? hk) hn hC hx F N off ne) (fun b s₂ hq => ?_) fun _ _ e => e
      cases b with
      | true =>
        simp only [if_true] at hq ⊢
        refine wpAny_mono hq (fun y s₃ hr => ?_) fun _ _ e => e
        obtain ⟨⟨t', rfl⟩, hz, h', tk', nw', rfl, F', N', off', hS, hI⟩ := hr
        refine ⟨h', tk', nw', rfl, F', N', off', hS, ih (i + 1) _ _ (by omega) ?_ hI⟩
        rw [hs, List.filter_append, List.filter_cons_of_pos hz]
        exact IntsAre.append hy (.cons k t' .nil)
      | false =>
        simp only [Bool.false_eq_true, if_false] at hq ⊢
        obtain ⟨hz, h', tk', nw', rfl, F', N', off', hS, hI⟩ := hq
        refine ⟨h', tk', nw', rfl, F', N', off', hS, ih (i + 1) _ _ (by omega) ?_ hI⟩
        rw [hs, List.filter_append, List.filter_cons_of_neg (by rw [hz]; exact Bool.false_ne_true)]
        simpa using hy
  exact key n 0 [] nw₀ (by omega) (by simp only [List.take_zero, List.filter_nil]; exact .nil) h0
end
/-- a list's ints, kept by a test -/
theorem comp_list {prog : Program} {w : World} {A : Around} {h₀ : Heap} {L : Addr} {m : Str → Option Value} {env : Env} {ct elt : Expr} {x : Str} {scope : Scope} {cl : List (Str × Addr)} {s₁ : Shared} {Q : Value → Shared → Prop} {q : Addr} {o : Obj} {its : List Value} {c : Nat} {ns : List Int} {news : List (Addr × Obj)}
    (pz : Int → Bool) (hh : A.handled = none) (F : Fr h₀ L s₁.heap m) (N : News h₀ L s₁.heap news) (hm : (q, o) ∈ news) (hc : o.cls = .type "list") (hd : o.data = .seq its.toArray c) (hi : IntsAre its ns) (hsz : ns.length ≤ sizeLine)
    (turn : ∀ k t I oI C oC D m₂ ys h tk (E' : Value → Shared → Prop), k ∈ ns → LCg.NsObj oC m₂ → m₂ x = some (.int k t) → Fr h₀ L h m → News h₀ L h ((I, oI) :: (C, oC) :: (D, LCg.lst ys) :: news) → LCg.Off3 I C D news → ((@Ne Nat I C) ∧ (@Ne Nat I D) ∧ (@Ne Nat C D)) →
      wpAny (model prog w) A (isTrue ct (compEnvC scope cl C env) (eval ct (compEnvC scope cl C env))) (fun b s' => if b = true then wpAny (model prog w) A (eval elt (compEnvC scope cl C env)) (fun y s'' => (∃ t', y = .int k t') ∧ pz k = true ∧ ∃ h' tk', s'' = { s₁ with heap := h', toks := tk' } ∧ Fr h₀ L h' m ∧ News h₀ L h' ((I, oI) :: (C, oC) :: (D, LCg.lst ys) :: news)) E' s'
        else pz k = false ∧ ∃ h' tk', s' = { s₁ with heap := h', toks := tk' } ∧ Fr h₀ L h' m ∧ News h₀ L h' ((I, oI) :: (C, oC) :: (D, LCg.lst ys) :: news)) E' { s₁ with heap := h, toks := tk })
    (fin : ∀ D ys h tk, Fr h₀ L h m → News h₀ L h ((D, LCg.lst ys) :: news) → LCg.Off1 D news → IntsAre ys (ns.filter pz) → Q (.ref D) { s₁ with heap := h, toks := tk }) :
    LCt.CompSrcT prog w A h₀ L m env ct elt x scope cl (fun s₂ => LCg.FinE h₀ L m s₂ Q) (.ref q) s₁ := by
  have hlen : its.length = ns.length := ints_len hi
  refine .inl ⟨q, its.toArray, news, rfl, hh, F, N, .inr ⟨o, hm, hc, c, hd⟩, by rw [List.size_toArray, hlen]; exact hsz, fun _ ⟨g, e⟩ => ?_⟩
  subst e
  refine restT_filter (ks := ns) pz (fun nw => nw = news) (by rw [List.size_toArray]; exact hlen.symm) (fun i v hi' hv => ?_) rfl ?_ ?_
  · have hv' : its[i]? = some v := by simpa using hv
    exact ints_at hi hv'
  · intro k t I oI C oC D m₂ ys nw h tk E' hk hn hC hx F₁ N₁ off ne
    subst hn
    refine wpAny_mono (turn k t I oI C oC D m₂ ys h tk E' hk hC hx F₁ N₁ off ne) (fun b s' hq => ?_) fun _ _ e => e
    cases b with
    | true =>
      simp only [if_true] at hq ⊢
      refine wpAny_mono hq (fun y s₃ hr => ?_) fun _ _ e => e
      obtain ⟨h1, h2, h', tk', rfl, F', N'⟩ := hr
      exact ⟨h1, h2, h', tk', nw, rfl, F', N', off, .inr ⟨o, hm, hc, c, hd⟩, rfl⟩
    | false =>
      simp only [Bool.false_eq_true, if_false] at hq ⊢
      obtain ⟨h2, h', tk', rfl, F', N'⟩ := hq
      exact ⟨h2, h', tk', nw, rfl, F', N', off, .inr ⟨o, hm, hc, c, hd⟩, rfl⟩
  · intro ys nw hy hn
    subst hn
    exact fun D h tk F N off => fin D ys h tk F N off hy
theorem off1_ne {D a : Addr} {o : Obj} {l : List (Addr × Obj)} (h : LCg.Off1 D l) (hm : (a, o) ∈ l) : @Ne Nat D a := by
  induction l with
  | nil => cases hm
  | cons p r ih =>
    rcases List.mem_cons.mp hm with rfl | hm
    · exact fun e => h.1 e.symm
    · exact ih h.2 hm
theorem off_next {I C D : Addr} {l r : List (Addr × Obj)} {g : Addr × Obj → Addr × Obj → List (Addr × Obj)} (R : RemF l r g) {c c' : Addr} {o o1 o2 o3 : Obj} {pI pC pD : Obj} (off : LCg.Off3 I C D (g (64, o1) (c, o))) (ap : Apart c' c ((I, pI) :: (C, pC) :: (D, pD) :: r)) : LCg.Off3 I C D (g (64, o2) (c', o3)) := by
  have m0 := off.mem
  have h64 := m0 _ (R.mem (64, o1) (c, o)).1
  have hc := m0 _ (R.mem (64, o1) (c, o)).2
  refine LCg.Off3.of fun p hp => ?_
  have hy : c' ≠ I ∧ c' ≠ C ∧ c' ≠ D := by
    rcases ap.it with rfl | rfl | h
    · exact h64
    · exact hc
    · exact ⟨Ne.symm (h _ (.head _)), Ne.symm (h _ (.tail _ (.head _))), Ne.symm (h _ (.tail _ (.tail _ (.head _))))⟩
  rcases R.out _ _ p hp with hp | rfl | rfl
  · exact m0 p (R.inr _ _ p hp)
  · exact h64
  · exact hy
/-- a range's ints, kept by a test that may fill the code table -/
theorem comp_memo {prog : Program} {w : World} {A : Around} {h₀ : Heap} {L : Addr} {m : Str → Option Value} {env : Env} {ct elt : Expr} {x : Str} {scope : Scope} {cl : List (Str × Addr)} {s₁ : Shared} {Q : Value → Shared → Prop} {q : Addr} {a b : Int} {t u v : Tok} {n : Nat} {c : Addr} {o : Obj} {ps : Array Value} {news rest : List (Addr × Obj)} {g : Addr × Obj → Addr × Obj → List (Addr × Obj)}
    (pz : Int → Bool) (hh : A.handled = none) (F : Fr h₀ L s₁.heap m) (N : News h₀ L s₁.heap news) (R : RemF news rest g) (M : Memo2 ps c o) (hg : news = g (64, tabObj ps) (c, o)) (hr : IsRange s₁.heap q a b 1 t u v) (hsm : Builtin.Range.small a b 1 = true) (hn : Builtin.Range.rangeSize a b 1 = ((n : Nat) : Int)) (hsz : n ≤ sizeLine)
    (turn : ∀ k t I oI C oC D m₂ ys ps c o h tk (E' : Value → Shared → Prop), k ∈ rangeKs a n → Memo2 ps c o → LCg.NsObj oC m₂ → m₂ x = some (.int k t) → Fr h₀ L h m → News h₀ L h ((I, oI) :: (C, oC) :: (D, LCg.lst ys) :: g (64, tabObj ps) (c, o)) →
      RemF ((I, oI) :: (C, oC) :: (D, LCg.lst ys) :: g (64, tabObj ps) (c, o)) ((I, oI) :: (C, oC) :: (D, LCg.lst ys) :: rest) (fun x y => (I, oI) :: (C, oC) :: (D, LCg.lst ys) :: g x y) →
      wpAny (model prog w) A (isTrue ct (compEnvC scope cl C env) (eval ct (compEnvC scope cl C env))) (fun b s' => if b = true then wpAny (model prog w) A (eval elt (compEnvC scope cl C env)) (fun y s'' => (∃ t', y = .int k t') ∧ pz k = true ∧ ∃ h' tk' ps' c' o', s'' = { s₁ with heap := h', toks := tk' } ∧ Memo2 ps' c' o' ∧ Fr h₀ L h' m ∧ News h₀ L h' ((I, oI) :: (C, oC) :: (D, LCg.lst ys) :: g (64, tabObj ps') (c', o')) ∧ Apart c' c ((I, oI) :: (C, oC) :: (D, LCg.lst ys) :: rest)) E' s'
        else pz k = false ∧ ∃ h' tk' ps' c' o', s' = { s₁ with heap := h', toks := tk' } ∧ Memo2 ps' c' o' ∧ Fr h₀ L h' m ∧ News h₀ L h' ((I, oI) :: (C, oC) :: (D, LCg.lst ys) :: g (64, tabObj ps') (c', o')) ∧ Apart c' c ((I, oI) :: (C, oC) :: (D, LCg.lst ys) :: rest)) E' { s₁ with heap := h, toks := tk })
    (fin : ∀ D ys ps c o h tk, Memo2 ps c o → Fr h₀ L h m → News h₀ L h ((D, LCg.lst ys) :: g (64, tabObj ps) (c, o)) → @Ne Nat D 64 → IntsAre ys ((rangeKs a n).filter pz) → Q (.ref D) { s₁ with heap := h, toks := tk }) :
    LCt.CompSrcT prog w A h₀ L m env ct elt x scope cl (fun s₂ => LCg.FinE h₀ L m s₂ Q) (.ref q) s₁ := by
  refine LCt.CompSrcT.range hh F N hr hsm hn hsz fun g' => ?_
  refine restT_filter (ks := rangeKs a n) pz (fun nw => ∃ ps c o, nw = g (64, tabObj ps) (c, o) ∧ Memo2 ps c o) (by simp [rangeKs]) (fun i v hi' hv => ?_) ⟨ps, c, o, hg, M⟩ ?_ ?_
  · obtain ⟨t, rfl⟩ := hv
    refine ⟨_, t, ?_, rfl⟩
    simp [rangeKs, hi']
  · intro k t I oI C oC D m₂ ys nw h tk E' hk hn hC hx F N off ne
    obtain ⟨ps, c, o, rfl, M⟩ := hn
    have h64 := off.mem _ (R.mem (64, tabObj ps) (c, o)).1
    refine wpAny_mono (turn k t I oI C oC D m₂ ys ps c o h tk E' hk M hC hx F N (.keep (Ne.symm h64.1) (.keep (Ne.symm h64.2.1) (.keep (Ne.symm h64.2.2) (R.again _ _))))) (fun b s' hq => ?_) fun _ _ e => e
    cases b with
    | true =>
      simp only [if_true] at hq ⊢
      refine wpAny_mono hq (fun y s₃ hr => ?_) fun _ _ e => e
      obtain ⟨h1, h2, h', tk', ps', c', o', rfl, M', F', N', ap⟩ := hr
      exact ⟨h1, h2, h', tk', _, rfl, F', N', off_next R off ap, trivial, ps', c', o', rfl, M'⟩
    | false =>
      simp only [Bool.false_eq_true, if_false] at hq ⊢
      obtain ⟨h2, h', tk', ps', c', o', rfl, M', F', N', ap⟩ := hq
      exact ⟨h2, h', tk', _, rfl, F', N', off_next R off ap, trivial, ps', c', o', rfl, M'⟩
  · intro ys nw hy hn
    obtain ⟨ps, c, o, rfl, M⟩ := hn
    exact fun D h tk F N off => fin D ys ps c o h tk M F N (off1_ne off (R.mem _ _).1) hy
end Mine
end

section
open PySem PySem.W PyProof.Rows
set_option Elab.async false
set_option maxRecDepth 100000
namespace Mine
def facF (n : Int) : Int := List.foldl HMul.hMul 1 (rangeKs 2 (n - 1 + 1 - 2).toNat)
theorem wilson_k : ∀ k, k < 159 → isprF (2 + ((k : Nat) : Int)) = ((facF (2 + (k : Int))).fmod (2 + (k : Int)) == 2 + (k : Int) - 1) := by decide +kernel
theorem wilson {x : Int} (h0 : 0 ≤ x) (h1 : x < 159) : isprF (2 + x) = ((facF (2 + x)).fmod (2 + x) == 2 + x - 1) := by
  obtain ⟨k, rfl⟩ := Int.eq_ofNat_of_zero_le h0
  exact wilson_k k (by omega)
theorem comp_k1 : ∀ y, y < 10 → ∀ x, x < 159 → isprF ((2 + ((x : Nat) : Int)) * (2 + ((y : Nat) : Int))) = false := by decide +kernel
theorem comp_k2 : ∀ y, y < 10 → ∀ x, x < 159 → isprF ((2 + ((x : Nat) : Int)) * (12 + ((y : Nat) : Int))) = false := by decide +kernel
theorem comp_k3 : ∀ y, y < 10 → ∀ x, x < 159 → isprF ((2 + ((x : Nat) : Int)) * (22 + ((y : Nat) : Int))) = false := by decide +kernel
theorem comp_k4 : ∀ y, y < 10 → ∀ x, x < 159 → isprF ((2 + ((x : Nat) : Int)) * (32 + ((y : Nat) : Int))) = false := by decide +kernel
theorem comp_k5 : ∀ y, y < 10 → ∀ x, x < 159 → isprF ((2 + ((x : Nat) : Int)) * (42 + ((y : Nat) : Int))) = false := by decide +kernel
theorem comp_k6 : ∀ y, y < 10 → ∀ x, x < 159 → isprF ((2 + ((x : Nat) : Int)) * (52 + ((y : Nat) : Int))) = false := by decide +kernel
theorem composite {x y : Int} (h0 : 0 ≤ x) (h1 : x < 159) (k0 : 0 ≤ y) (k1 : y < 60) : isprF ((2 + x) * (2 + y)) = false := by
  obtain ⟨x, rfl⟩ := Int.eq_ofNat_of_zero_le h0
  obtain ⟨y, rfl⟩ := Int.eq_ofNat_of_zero_le k0
  by_cases a1 : y < 10
  · exact comp_k1 y a1 x (by omega)
  by_cases a2 : y < 20
  · have := comp_k2 (y - 10) (by omega) x (by omega)
    rwa [show (12 + ((y - 10 : Nat) : Int)) = 2 + (y : Int) by omega] at this
  by_cases a3 : y < 30
  · have := comp_k3 (y - 20) (by omega) x (by omega)
    rwa [show (22 + ((y - 20 : Nat) : Int)) = 2 + (y : Int) by omega] at this
  by_cases a4 : y < 40
  · have := comp_k4 (y - 30) (by omega) x (by omega)
    rwa [show (32 + ((y - 30 : Nat) : Int)) = 2 + (y : Int) by omega] at this
  by_cases a5 : y < 50
  · have := comp_k5 (y - 40) (by omega) x (by omega)
    rwa [show (42 + ((y - 40 : Nat) : Int)) = 2 + (y : Int) by omega] at this
  · have := comp_k6 (y - 50) (by omega) x (by omega)
    rwa [show (52 + ((y - 50 : Nat) : Int)) = 2 + (y : Int) by omega] at this
theorem sieve_eq {r : Nat} (h0 : mk r 0 = true) (h1 : mk r 1 = true) : ∀ M : Nat, (∀ v, v < M → mk r (v + 2) = !isprF (2 + ((v : Nat) : Int))) → (sv (M + 2) r).filter (fun a => a != 0) = (rangeKs 2 M).filter isprF
  | 0, _ => by
    have e : sv 2 r = [0, 0] := by
      unfold sv tab
      rw [show List.range 2 = [0, 1] from rfl, List.map_cons, List.map_cons, List.map_nil, if_pos h0, if_pos h1]
    rw [show 0 + 2 = 2 from rfl, e]
    rfl
  | M + 1, h => by
    have ih := sieve_eq h0 h1 M (fun v hv => h v (Nat.lt_succ_of_lt hv))
    have e1 : sv (M + 1 + 2) r = sv (M + 2) r ++ [if mk r (M + 2) = true then 0 else ((M + 2 : Nat) : Int)] := by
      unfold sv tab
      rw [show M + 1 + 2 = (M + 2) + 1 by omega, List.range_succ, List.map_append]
      rfl
    have e2 : rangeKs 2 (M + 1) = rangeKs 2 M ++ [2 + ((M : Nat) : Int)] := by
      unfold rangeKs
      rw [List.range_succ, List.map_append]
      rfl
    rw [e1, e2, List.filter_append, List.filter_append, ih, h M (Nat.lt_succ_self _)]
    congr 1
    have e3 : ((M + 2 : Nat) : Int) = 2 + (M : Int) := by omega
    rw [e3]
    have e4 : (2 + (M : Int)) ≠ 0 := by omega
    cases e5 : isprF (2 + (M : Int))
    · simp [e5]
    · simp [e5, e4]
theorem mk18 : ∀ v, v < 319 → mk 18 (v + 2) = !isprF (2 + ((v : Nat) : Int)) := by decide +kernel
theorem mk_bool {r r' v : Nat} (h : mk r v = true ↔ mk r' v = true) : mk r v = mk r' v := by
  cases a : mk r v <;> cases b : mk r' v <;> simp_all
theorem mk_root {r N v : Nat} (hr : ∀ i : Nat, i * i < N → i < r) (hv : v < N) (hN : N ≤ 321) : mk r v = mk 18 v := by
  apply mk_bool
  rw [mk_iff, mk_iff]
  constructor
  · rintro (h | ⟨i, _, h2, h3, h4⟩)
    · exact .inl h
    · refine .inr ⟨i, ?_, h2, h3, h4⟩
      apply Nat.not_le.mp
      intro q
      have : 18 * 18 ≤ i * i := Nat.mul_le_mul q q
      omega
  · rintro (h | ⟨i, _, h2, h3, h4⟩)
    · exact .inl h
    · exact .inr ⟨i, hr i (by omega), h2, h3, h4⟩
theorem prI_eq {x : Int} (h0 : 0 ≤ x) (h1 : x < 159) : prI (2 * (2 + x)) = (rangeKs 2 (2 * x + 3).toNat).filter isprF := by
  obtain ⟨x, rfl⟩ := Int.eq_ofNat_of_zero_le h0
  obtain ⟨q2, _, _⟩ := q_le (n := 2 * (2 + (x : Int))) (by omega) (by omega)
  have R := isq_root (x := 2 * (2 + (x : Int)) + 1) (by omega)
  unfold prI
  generalize isq (2 * (2 + (x : Int)) + 1) = q at *
  have hr : ∀ i : Nat, i * i < 2 * x + 5 → i < 2 + (q + 1 - 2).toNat := by
    intro i hi
    have h2 : (i : Int) * (i : Int) < (q + 1) * (q + 1) := by
      have h3 := R.lt
      have h4 : ((i * i : Nat) : Int) < 2 * x + 5 := by omega
      rw [Int.natCast_mul] at h4
      omega
    have h5 := le_of_sq (a := (i : Int)) (b := q) (by omega) h2
    omega
  have e1 : (2 * (2 + (x : Int)) + 1).toNat = (2 * x + 3) + 2 := by omega
  have e2 : (2 * (x : Int) + 3).toNat = 2 * x + 3 := by omega
  rw [e1, e2]
  have t0 : ∀ v, v < 2 → mk (2 + (q + 1 - 2).toNat) v = true := fun v hv => mk_iff.mpr (.inl hv)
  refine sieve_eq (t0 0 (by omega)) (t0 1 (by omega)) (2 * x + 3) fun v hv => ?_
  rw [mk_root (N := 2 * x + 5) hr (by omega) (by omega)]
  exact mk18 v (by omega)
theorem mem_rangeKs {k : Int} {M : Nat} (h0 : 2 ≤ k) (h1 : k < 2 + M) : k ∈ rangeKs 2 M := by
  unfold rangeKs
  refine List.mem_map.mpr ⟨(k - 2).toNat, List.mem_range.mpr (by omega), ?_⟩
  show (2 : Int) + _ = _
  omega
theorem any_pr {x : Int} (h0 : 0 ≤ x) (h1 : x < 159) : ((prI (2 * (2 + x))).any fun z => z == 2 + x) = isprF (2 + x) := by
  rw [prI_eq h0 h1]
  cases e : isprF (2 + x) with
  | true => exact List.any_eq_true.mpr ⟨2 + x, List.mem_filter.mpr ⟨mem_rangeKs (by omega) (by omega), e⟩, by simp⟩
  | false =>
    refine Bool.eq_false_iff.mpr fun q => ?_
    obtain ⟨z, hz, hq⟩ := List.any_eq_true.mp q
    have hz' := (List.mem_filter.mp hz).2
    rw [eq_of_beq hq, e] at hz'
    cases hz'
abbrev nextPs : List Int := [3, 5, 7, 13, 23, 43, 83, 163, 317]
theorem next_k : ∀ k, k < 159 → (nextPs.any fun p => decide (2 + ((k : Nat) : Int) < p) && decide (p ≤ 2 * (2 + (k : Int)))) = true := by decide +kernel
theorem next_prime : ∀ p ∈ nextPs, isprF p = true := by decide +kernel
theorem bertrand {x : Int} (h0 : 0 ≤ x) (h1 : x < 159) : (prI (2 * (2 + x))).filter (fun k => decide (2 + x < k)) ≠ [] := by
  rw [prI_eq h0 h1]
  obtain ⟨k, rfl⟩ := Int.eq_ofNat_of_zero_le h0
  obtain ⟨p, hp, hq⟩ := List.any_eq_true.mp (next_k k (by omega))
  rw [Bool.and_eq_true, decide_eq_true_eq, decide_eq_true_eq] at hq
  refine List.ne_nil_of_mem (a := p) (List.mem_filter.mpr ⟨List.mem_filter.mpr ⟨mem_rangeKs (by omega) (by omega), next_prime p hp⟩, decide_eq_true hq.1⟩)
end Mine
end

section
open PySem PySem.W PyProof.Rows
set_option Elab.async false
set_option maxRecDepth 100000
namespace Mine
theorem sq_one (a : Int) : (a + 1) * (a + 1) = a * a + 2 * a + 1 := by
  rw [Int.add_mul, Int.mul_add]; omega
theorem isq_sq {R : Int} (h : 1 ≤ R) : isq (R * R) = R := Root.isq ⟨by omega, Int.le_refl _, by rw [sq_one]; omega⟩
theorem isq_pred {R : Int} (h : 1 ≤ R) : isq (R * R - 1) = R - 1 := by
  refine Root.isq ⟨by omega, ?_, ?_⟩
  · have := sq_one (R - 1)
    rw [show R - 1 + 1 = R by omega] at this
    omega
  · rw [show R - 1 + 1 = R by omega]; omega
theorem rest_pred (R : Int) : R * R - 1 - (R - 1) * (R - 1) = 2 * R - 2 := by
  have := sq_one (R - 1)
  rw [show R - 1 + 1 = R by omega] at this
  omega
theorem isq_more {R M : Int} (h : 1 ≤ R) (m0 : 0 ≤ M) (m1 : M < 2 * R + 1) : isq (R * R + M) = R := Root.isq ⟨by omega, by omega, by rw [sq_one]; omega⟩
theorem four_two (k : Nat) : (4 : Int) ^ k = 2 ^ k * 2 ^ k := by
  rw [← Int.mul_pow]; rfl
theorem pow2_pos (k : Nat) : (0 : Int) < 2 ^ k := Int.pow_pos (by decide)
theorem mul_sq (a b : Int) : (a * b) * (a * b) = (a * a) * (b * b) := by
  rw [Int.mul_assoc, Int.mul_assoc]
  congr 1
  rw [← Int.mul_assoc, Int.mul_comm b a, Int.mul_assoc]
theorem low_le {X : Int} (k : Nat) (h : 0 ≤ X) : isq X * 2 ^ k ≤ isq (X * 4 ^ k) := by
  have hp := pow2_pos k
  have h4 : (0 : Int) < 4 ^ k := Int.pow_pos (by decide)
  have R := isq_root h
  have S := isq_root (x := X * 4 ^ k) (Int.mul_nonneg h (Int.le_of_lt h4))
  refine le_of_sq S.nn ?_
  refine Int.lt_of_le_of_lt ?_ S.lt
  rw [mul_sq, four_two]
  exact Int.mul_le_mul_of_nonneg_right R.le (Int.le_of_lt (Int.mul_pos hp hp))
theorem fine_lt {X : Int} (k : Nat) (h : 0 ≤ X) : isq (X * 4 ^ k) < (isq X + 1) * 2 ^ k := by
  have hp := pow2_pos k
  have h4 : (0 : Int) < 4 ^ k := Int.pow_pos (by decide)
  have R := isq_root h
  have S := isq_root (x := X * 4 ^ k) (Int.mul_nonneg h (Int.le_of_lt h4))
  apply Int.not_le.mp
  intro q
  have h0 : 0 ≤ (isq X + 1) * 2 ^ k := Int.mul_nonneg (by have := R.nn; omega) (Int.le_of_lt hp)
  have h1 := sq_le h0 q
  have h2 := S.le
  have h3 : X * 4 ^ k < (isq X + 1) * (isq X + 1) * 4 ^ k := Int.mul_lt_mul_of_pos_right R.lt h4
  rw [mul_sq, ← four_two] at h1
  omega
theorem even_pow (k : Nat) : (2 : Int) ^ (2 * k) = 4 ^ k := by
  rw [Int.pow_mul]; rfl
theorem odd_pow (k : Nat) : (2 : Int) ^ (2 * k + 1) = 4 ^ k * 2 := by
  rw [Int.pow_succ, even_pow]
theorem odd_mul (X : Int) (k : Nat) : X * 2 ^ (2 * k + 1) = 2 * X * 4 ^ k := by
  rw [odd_pow, Int.mul_comm 2 X, Int.mul_assoc, Int.mul_comm 2 (4 ^ k)]
end Mine
end

section
open PySem PySem.W PyProof.Rows
set_option Elab.async false
set_option maxRecDepth 100000
namespace Mine
theorem root_facts {c R : Int} (h : (if c < 0 then -c else c).fmod (10 ^ Int.toNat 100) + 1 = R) : 1 ≤ R ∧ Builtin.Int.intBits R ≤ 340 := by
  have p : (0 : Int) < 10 ^ Int.toNat 100 := by decide +kernel
  have q : (10 : Int) ^ Int.toNat 100 < 2 ^ 340 := by decide +kernel
  have q2 : (((2 ^ 340 : Nat)) : Int) = (2 : Int) ^ 340 := by decide +kernel
  generalize (if c < 0 then -c else c) = z at h
  have h1 := Int.fmod_nonneg_of_pos z p
  have h2 := Int.fmod_lt_of_pos z p
  generalize (10 : Int) ^ Int.toNat 100 = P at *
  generalize z.fmod P = y at *
  refine ⟨by omega, intBits_le_iff.mpr ?_⟩
  generalize (2 : Int) ^ 340 = T at *
  generalize (2 : Nat) ^ 340 = T' at *
  omega
theorem more_facts {b R M : Int} (hR : 1 ≤ R) (hb : Builtin.Int.intBits R ≤ 340) (h : (b * b).fmod (2 * R + 1) = M) : 0 ≤ M ∧ M < 2 * R + 1 ∧ Builtin.Int.intBits M ≤ 343 := by
  have p : (0 : Int) < 2 * R + 1 := by omega
  have h1 := Int.fmod_nonneg_of_pos (b * b) p
  have h2 := Int.fmod_lt_of_pos (b * b) p
  rw [h] at h1 h2
  refine ⟨h1, h2, intBits_le_iff.mpr ?_⟩
  have h3 := intBits_le_iff.mp hb
  have q2 : (2 : Nat) ^ 343 = 8 * 2 ^ 340 := by decide +kernel
  rw [q2]
  generalize (2 : Nat) ^ 340 = T' at *
  omega
section
variable {R M : Int} (hb : Builtin.Int.intBits R ≤ 340) (hm : Builtin.Int.intBits M ≤ 343)
include hb
theorem bits_rr : Builtin.Int.intBits (R * R) ≤ 1000 := Nat.le_trans (intBits_mul_le hb hb) (by decide)
theorem bits_rr1 : Builtin.Int.intBits (R * R - 1) ≤ 1000 := Nat.le_trans (intBits_sub_le (n := 1) (intBits_mul_le hb hb) (by decide)) (by decide)
include hm
theorem bits_rrm : Builtin.Int.intBits (R * R + M) ≤ 1000 := Nat.le_trans (intBits_add_le (intBits_mul_le hb hb) hm) (by decide)
theorem bits_x0 : Builtin.Int.intBits (R + M) ≤ 344 := Nat.le_trans (intBits_add_le hb hm) (by decide)
theorem bits_x : Builtin.Int.intBits (R + M) ≤ 1000 := Nat.le_trans (bits_x0 hb hm) (by decide)
theorem bits_x4 {k : Nat} (hk : k < 40) : Builtin.Int.intBits ((R + M) * 4 ^ k) ≤ 1000 := by
  refine Nat.le_trans (intBits_mul_le (bits_x0 hb hm) (intBits_pow_le (m := 3) (by decide) k)) ?_
  omega
theorem bits_2x4 {k : Nat} (hk : k < 40) : Builtin.Int.intBits (2 * (R + M) * 4 ^ k) ≤ 1000 := by
  refine Nat.le_trans (intBits_mul_le (intBits_mul_le (m := 2) (by decide) (bits_x0 hb hm)) (intBits_pow_le (m := 3) (by decide) k)) ?_
  omega
theorem bits_x2 {k : Nat} (hk : k < 81) : Builtin.Int.intBits ((R + M) * 2 ^ k) ≤ 1000 := by
  refine Nat.le_trans (intBits_mul_le (bits_x0 hb hm) (intBits_pow_le (m := 2) (by decide) k)) ?_
  omega
theorem mulok_x4 {k : Nat} (hk : k < 40) : IntMulOk (R + M) (4 ^ k) := IntMulOk.of_le (bits_x0 hb hm) (Nat.le_trans (intBits_pow_le (m := 3) (by decide) k) (show 3 * k + 1 ≤ 200 by omega)) (by decide)
theorem mulok_2x4 {k : Nat} (hk : k < 40) : IntMulOk (2 * (R + M)) (4 ^ k) := IntMulOk.of_le (intBits_mul_le (m := 2) (by decide) (bits_x0 hb hm)) (Nat.le_trans (intBits_pow_le (m := 3) (by decide) k) (show 3 * k + 1 ≤ 200 by omega)) (by decide)
omit hb hm in
theorem isq_bits {x : Int} {m : Nat} (h0 : 0 ≤ x) (h : Builtin.Int.intBits x ≤ m) : Builtin.Int.intBits (isq x) ≤ m := by
  have h1 := isq_root h0
  generalize isq x = q at *
  refine bits_of_natAbs_le (b := x) ?_ h
  have h2 := h1.nn
  have h3 := h1.le
  have h4 : q ≤ q * q := by
    by_cases e : q = 0
    · rw [e]; decide
    · have := Int.mul_le_mul_of_nonneg_left (show 1 ≤ q by omega) h2
      omega
  omega
include hm
theorem mulok_low (hR : 1 ≤ R) (m0 : 0 ≤ M) {k : Nat} (hk : k < 40) : IntMulOk (isq (R + M)) (2 ^ k) := IntMulOk.of_le (isq_bits (by omega) (bits_x hb hm)) (Nat.le_trans (intBits_pow_le (m := 2) (by decide) k) (show 2 * k + 1 ≤ 200 by omega)) (by decide)
theorem mulok_low1 (hR : 1 ≤ R) (m0 : 0 ≤ M) {k : Nat} (hk : k < 40) : IntMulOk (isq (R + M) + 1) (2 ^ k) := IntMulOk.of_le (intBits_add_le (n := 1) (isq_bits (by omega) (bits_x hb hm)) (by decide)) (Nat.le_trans (intBits_pow_le (m := 2) (by decide) k) (show 2 * k + 1 ≤ 200 by omega)) (by decide)
theorem x4_nn (hR : 1 ≤ R) (m0 : 0 ≤ M) {k : Nat} (hk : k < 40) : 0 ≤ (R + M) * 4 ^ k := Int.mul_nonneg (by omega) (Int.le_of_lt (Int.pow_pos (by decide)))
theorem mulok_fine (hR : 1 ≤ R) (m0 : 0 ≤ M) {k : Nat} (hk : k < 40) : IntMulOk (isq ((R + M) * 4 ^ k)) (isq ((R + M) * 4 ^ k)) := IntMulOk.of_le (isq_bits (x4_nn hb hm hR m0 hk) (bits_x4 hb hm hk)) (isq_bits (x4_nn hb hm hR m0 hk) (bits_x4 hb hm hk)) (by decide)
theorem mulok_fine1 (hR : 1 ≤ R) (m0 : 0 ≤ M) {k : Nat} (hk : k < 40) : IntMulOk (isq ((R + M) * 4 ^ k) + 1) (isq ((R + M) * 4 ^ k) + 1) := IntMulOk.of_le (intBits_add_le (n := 1) (isq_bits (x4_nn hb hm hR m0 hk) (bits_x4 hb hm hk)) (by decide)) (intBits_add_le (n := 1) (isq_bits (x4_nn hb hm hR m0 hk) (bits_x4 hb hm hk)) (by decide)) (by decide)
end
section
variable {R M : Int} (hR : 1 ≤ R)
include hR
theorem nn_rr : 0 ≤ R * R := Int.mul_nonneg (by omega) (by omega)
theorem nn_rr1 : 0 ≤ R * R - 1 := by
  have := Int.mul_le_mul_of_nonneg_left hR (show 0 ≤ R by omega)
  omega
theorem nn_rrm (m0 : 0 ≤ M) : 0 ≤ R * R + M := Int.add_nonneg (nn_rr hR) m0
theorem nn_x4 (m0 : 0 ≤ M) {k : Nat} : 0 ≤ (R + M) * 4 ^ k := Int.mul_nonneg (by omega) (Int.le_of_lt (Int.pow_pos (by decide)))
theorem nn_x2 (m0 : 0 ≤ M) {k : Nat} : 0 ≤ (R + M) * 2 ^ k := Int.mul_nonneg (by omega) (Int.le_of_lt (Int.pow_pos (by decide)))
theorem nn_2x4 (m0 : 0 ≤ M) {k : Nat} : 0 ≤ 2 * (R + M) * 4 ^ k := Int.mul_nonneg (by omega) (Int.le_of_lt (Int.pow_pos (by decide)))
end
end Mine
end

section
open PySem PySem.W PyProof.Rows
set_option Elab.async false
set_option maxRecDepth 100000
namespace Mine
theorem no_sq {R : Int} (h : 1 ≤ R) (e : (isq (R * R) == R && R * R - isq (R * R) * isq (R * R) == 0) = false) : Hold False := by
  rw [isq_sq h, Int.sub_self] at e
  simp at e
theorem no_pred {R : Int} (h : 1 ≤ R) (e : (isq (R * R - 1) == R - 1 && R * R - 1 - isq (R * R - 1) * isq (R * R - 1) == 2 * R - 2) = false) : Hold False := by
  rw [isq_pred h, rest_pred] at e
  simp at e
theorem no_more {R M : Int} (h : 1 ≤ R) (m0 : 0 ≤ M) (m1 : M < 2 * R + 1) (e : (isq (R * R + M) == R && R * R + M - isq (R * R + M) * isq (R * R + M) == M) = false) : Hold False := by
  rw [isq_more h m0 m1, show R * R + M - R * R = M by omega] at e
  simp at e
theorem no_w {x : Int} (e : (isprF (2 + x) != ((List.foldl HMul.hMul 1 (rangeKs 2 (2 + x - 1 + 1 - 2).toNat)).fmod (2 + x) == 2 + x - 1)) = true) (h0 : 0 ≤ x) (h1 : x < 159) : Hold False := by
  have h := wilson h0 h1
  unfold facF at h
  rw [← h, bne_self_eq_false] at e
  cases e
theorem no_any {x : Int} (e : (((prI (2 * (2 + x))).any fun z => z == 2 + x) != ((List.foldl HMul.hMul 1 (rangeKs 2 (2 + x - 1 + 1 - 2).toNat)).fmod (2 + x) == 2 + x - 1)) = true) (h0 : 0 ≤ x) (h1 : x < 159) : Hold False := by
  have h := wilson h0 h1
  unfold facF at h
  rw [any_pr h0 h1, ← h, bne_self_eq_false] at e
  cases e
theorem no_o {y : Int} (e : (((List.foldl HMul.hMul 1 (rangeKs 2 (2 + y - 1 + 1 - 2).toNat)).fmod (2 + y) == 2 + y - 1) != isprF (2 + y)) = true) (h0 : 0 ≤ y) (h1 : y < 60) : Hold False := by
  have h := wilson h0 (show y < 159 by omega)
  unfold facF at h
  rw [← h, bne_self_eq_false] at e
  cases e
theorem no_bert {x : Int} (e : (prI (2 * (2 + x))).filter (fun k => decide (2 + x < k)) = []) (h0 : 0 ≤ x) (h1 : x < 159) : Hold False := bertrand h0 h1 e
theorem no_bertD {x : Int} (e : decide ((prI (2 * (2 + x))).filter (fun k => decide (2 + x < k)) = []) = true) (h0 : 0 ≤ x) (h1 : x < 159) : Hold False := bertrand h0 h1 (of_decide_eq_true e)
theorem no_comp {x y : Int} (e : isprF ((2 + x) * (2 + y)) = true) (h0 : 0 ≤ x) (h1 : x < 159) (k0 : 0 ≤ y) (k1 : y < 60) : Hold False := by
  rw [composite h0 h1 k0 k1] at e
  cases e
theorem no_row {x : Int} (e : ¬ prI (2 * (2 + x)) = (rangeKs 2 (2 * x + 3).toNat).filter isprF) (h0 : 0 ≤ x) (h1 : x < 159) : Hold False := e (prI_eq h0 h1)
end Mine
end

section
open PySem PySem.W PyProof.Rows
set_option Elab.async false
set_option maxRecDepth 100000
namespace Mine
/-- the last roots' facts, told by letters -/
theorem last_facts {R M K lo fi : Int} (hb : Builtin.Int.intBits R ≤ 340) (hm : Builtin.Int.intBits M ≤ 343) (hR : 1 ≤ R) (m0 : 0 ≤ M) (h0 : 0 ≤ K) (h1 : K < 40) (hl : isq (R + M) = lo) (hf : isq ((R + M) * 4 ^ K.toNat) = fi) :
    lo * 2 ^ K.toNat ≤ fi ∧ fi < (lo + 1) * 2 ^ K.toNat ∧ fi * fi ≤ (R + M) * 4 ^ K.toNat ∧ (R + M) * 4 ^ K.toNat < (fi + 1) * (fi + 1) ∧ IntMulOk lo (2 ^ K.toNat) ∧ IntMulOk (lo + 1) (2 ^ K.toNat) ∧ IntMulOk fi fi ∧ IntMulOk (fi + 1) (fi + 1) := by
  have hX : 0 ≤ R + M := by omega
  have hk : K.toNat < 40 := by omega
  subst hl hf
  have S := isq_root (nn_x4 (k := K.toNat) hR m0)
  exact ⟨low_le _ hX, fine_lt _ hX, S.le, S.lt, mulok_low hb hm hR m0 hk, mulok_low1 hb hm hR m0 hk, mulok_fine hb hm hR m0 hk, mulok_fine1 hb hm hR m0 hk⟩
theorem even_fixed {X K : Int} (h0 : 0 ≤ K) : X * 2 ^ (2 * K).toNat = X * 4 ^ K.toNat := by
  rw [show (2 * K).toNat = 2 * K.toNat by omega, even_pow]
theorem odd_fixed {X K : Int} (h0 : 0 ≤ K) : X * 2 ^ (2 * K + 1).toNat = 2 * X * 4 ^ K.toNat := by
  rw [show (2 * K + 1).toNat = 2 * K.toNat + 1 by omega, odd_mul]
end Mine
end

section
open PySem PySem.W PyProof.Rows
set_option Elab.async false
set_option maxRecDepth 100000
namespace Mine
/-- on from a statement's end: the heap, the tokens by letters; of what was made only the code table is kept -/
theorem restart {M : Model} {A : Around} {α : Type} {T : Sem α} {Q : α → Shared → Prop} {E : Value → Shared → Prop} {h₀ : Heap} {L : Addr} {x : Str} {n : Int} {t : Tok} {m : Str → Option Value} {s : Shared} {news : List (Addr × Obj)} {ps : Array Value}
    (F : Fr h₀ L s.heap (fun y => if y = x then some (.int n t) else m y)) (N : News h₀ L s.heap news) (hm : (64, tabObj ps) ∈ news)
    (k : ∀ (h : Heap) (tk : Nat) (t : Tok), Fr h₀ L h (fun y => if y = x then some (.int n t) else m y) → News h₀ L h [(64, tabObj ps)] → wpAny M A T Q E { s with heap := h, toks := tk }) : wpAny M A T Q E s :=
  k s.heap s.toks t F (fun p hp => by rw [List.mem_singleton.mp hp]; exact N _ hm)
end Mine
end

section
open PySem PySem.W PyProof.Rows
set_option Elab.async false
set_option maxRecDepth 100000
set_option maxHeartbeats 4000000
namespace Mine
theorem bits_le_of_item {ns : List Int} {x : Int} (hx : x ∈ ns) (h : PyData.layable0 (.list (ns.map .int)) = true) : Builtin.Int.intBits x ≤ 1048576 := intBits_le_of_item hx h
theorem three_items {ns : List Int} (hL : PyData.layable0 (.list (ns.map .int)) = true) : ∃ a b c, List.take 3 ns ++ List.drop (((List.take 3 ns).length : Nat) : Int).toNat [5, 3, 99] = [a, b, c] ∧ Builtin.Int.intBits b ≤ 1048576 ∧ Builtin.Int.intBits c ≤ 1048576 := by
  match ns with
  | [] => exact ⟨5, 3, 99, rfl, by decide, by decide⟩
  | [x] => exact ⟨x, 3, 99, rfl, by decide, by decide⟩
  | [x, y] => exact ⟨x, y, 99, rfl, bits_le_of_item (by simp) hL, by decide⟩
  | x :: y :: z :: r => exact ⟨x, y, z, by simp, bits_le_of_item (by simp) hL, bits_le_of_item (by simp) hL⟩
theorem ints3 {ws : List Value} {a b c : Int} (h : IntsAre ws [a, b, c]) : ∃ ta tb tc, ws = [.int a ta, .int b tb, .int c tc] := by
  cases h with | cons _ ta h => cases h with | cons _ tb h => cases h with | cons _ tc h => cases h; exact ⟨ta, tb, tc, rfl⟩
structure Past (n : Nat) : Prop where
theorem ifac_use {w : World} {mean : ExcName → Option Value} {mg mb : Str → Option Value} {n : Int} {t : Tok} (h0 : 1 ≤ n) (h1 : n ≤ 200) : Gives1 w mean mg mb 56 1 [.int n t] (fun t => .int (facI n.toNat) t) := ifac_gives w mean mg mb n t h0 h1
theorem lp_ask {w : World} {mean : ExcName → Option Value} {mg mb : Str → Option Value} {n : Int} {t : Tok} {news : List (Addr × Obj)}
    {dp un : Nat} {gd : Option (List Code)} {cn : Str} {cs : Scope} {a : Addr} {ccd : Value} {cl : List (Str × Addr)} {outer : List Env} {A₀ : Around} {base h₀ : Heap} {L : Addr} {m : Str → Option Value} {s : Shared} {Q E : Value → Shared → Prop}
    (h0 : 4 ≤ n) (h1 : n ≤ 400) (B : Below A₀ base outer h₀) (F : Fr h₀ L s.heap m) (X : (hd.heap_39 w.params).In h₀) (N : News h₀ L s.heap news) (T : Top topProg looseM mean mg mb h₀) (hk : cs.kind = .function)
    (hdp : dp + 4 < recursionLimit) (hun : un + 8 * 4 < cLine) {o64 : Obj} (hm : (64, o64) ∈ news)
    (ret : ∀ (q : Addr) (o : Obj) (ys : List Value) (c : Nat) (h' : Heap) (tk' : Nat), Fr h₀ L h' m → News h₀ L h' ((q, o) :: news) → o.cls = .type "list" → o.data = .seq ys.toArray c → IntsAre ys (prI n) → @Ne Nat q 64 → Q (.ref q) { s with heap := h', toks := tk' }) :
      wpAny (model PySem.Challenge.rw_ag5013_01.row.prog w) (ktrTop dp un gd cn cs L a ccd cl outer) (call (.ref 61) [.int n t]) Q E s :=
  lp_t w mean mg mb n t h0 h1 news dp un gd cn cs a ccd cl outer A₀ base h₀ L m s Q E B F X N T hk hdp hun fun q o ys c h' tk' F' N' h1 h2 h3 h4 => ret q o ys c h' tk' F' N' h1 h2 h3 fun e => h4 _ hm e.symm
theorem no_false {P : Prop} (h : Hold False) : P := False.elim h
theorem mul_lo {x y : Int} (hx : 0 ≤ x) (hy : 0 ≤ y) : 0 ≤ (2 + x) * (2 + y) := Int.mul_nonneg (by omega) (by omega)
theorem mul_hi {x y : Int} (hx : 0 ≤ x) (hy : 0 ≤ y) (hx1 : x < 159) (hy1 : y < 60) : (2 + x) * (2 + y) < 10000 := by
  have h1 : (2 + x) * (2 + y) ≤ 160 * (2 + y) := Int.mul_le_mul_of_nonneg_right (by omega) (by omega)
  omega
theorem isList_of {h₀ h : Heap} {L q : Addr} {o : Obj} {xs : Array Value} {c : Nat} {l : List (Addr × Obj)} (N : News h₀ L h l) (hm : (q, o) ∈ l) (hc : o.cls = .type "list") (hd : o.data = .seq xs c) : h.IsList q xs := ⟨o, (N _ hm).1, hc, c, hd⟩
theorem fixed_use {w : World} {mean : ExcName → Option Value} {mg mb : Str → Option Value} {x n : Int} {t u : Tok} (hn : 0 ≤ n) (hs : ((Builtin.Int.intBits x : Nat) : Int) + n ≤ 2 ^ 27) (h0 : 0 ≤ x * 2 ^ n.toNat) (h1 : Builtin.Int.intBits (x * 2 ^ n.toNat) ≤ 1000) :
    Gives1 w mean mg mb 49 4 [.int x t, .int n u] (fun t => .int (isq (x * 2 ^ n.toNat)) t) := sqrt_fixed_gives w mean mg mb x n t u hn hs h0 h1
theorem fixed_room {x n : Int} (hb : Builtin.Int.intBits x ≤ 1000) (hn : n ≤ 100) : ((Builtin.Int.intBits x : Nat) : Int) + n ≤ 2 ^ 27 := by
  have : (2 : Int) ^ 27 = 134217728 := by decide
  omega
theorem prI_len {n : Int} (h0 : 4 ≤ n) (h1 : n ≤ 400) : (prI n).length ≤ sizeLine := by
  have h : (prI n).length ≤ (n + 1).toNat := by
    unfold prI
    refine Nat.le_trans (List.length_filter_le _ _) ?_
    have : (sv (n + 1).toNat (2 + (isq (n + 1) + 1 - 2).toNat)).length = (n + 1).toNat := tab_len ..
    omega
  rw [sizeLine_eq]
  omega
theorem small_r {n : Int} (h0 : 0 ≤ n) (h1 : n < 159) : Builtin.Range.small 2 (2 * (2 + n) + 1) 1 = true := small_one (by omega) (by omega) (by omega) (by omega)
theorem size_r {n : Int} (h0 : 0 ≤ n) : Builtin.Range.rangeSize 2 (2 * (2 + n) + 1) 1 = (((2 * n + 3).toNat : Nat) : Int) := by
  have e : 2 * n + 3 = 2 * (2 + n) + 1 - 2 := by omega
  rw [e]
  exact rangeSize_nat _ _
theorem mem_r {n k : Int} (h : k ∈ rangeKs 2 (2 * n + 3).toNat) (h0 : 0 ≤ n) (h1 : n < 159) : 0 ≤ k ∧ k < 10000 := by
  unfold rangeKs at h
  obtain ⟨i, hi, rfl⟩ := List.mem_map.mp h
  have := List.mem_range.mp hi
  omega
theorem k_facts {z K : Int} (h : z.fmod 40 = K) : 0 ≤ K ∧ K < 40 := by
  have h1 := Int.fmod_nonneg_of_pos z (show (0 : Int) < 40 by decide)
  have h2 := Int.fmod_lt_of_pos z (show (0 : Int) < 40 by decide)
  rw [h] at h1 h2
  exact ⟨h1, h2⟩
end Mine
end

section
open PySem PySem.W PyProof.Rows
set_option Elab.async false
set_option maxRecDepth 100000
set_option maxHeartbeats 4000000
namespace Mine
local macro_rules | `(tactic| walk_at "no such key 0") => `(tactic| done)
local macro_rules | `(tactic| walk_at "no such key 1") => `(tactic| done)
local macro_rules | `(tactic| walk_at "no such key 2") => `(tactic| done)
local macro_rules | `(tactic| walk_at "no such key 3") => `(tactic| done)
local macro_rules | `(tactic| walk_at "no such key 4") => `(tactic| done)
local macro_rules | `(tactic| walk_at "no such key 5") => `(tactic| done)
local macro_rules | `(tactic| walk_at "no such key 6") => `(tactic| done)
local macro_rules | `(tactic| walk_at "no such key 7") => `(tactic| done)
local macro_rules | `(tactic| walk_at "no such key 8") => `(tactic| done)
local macro_rules | `(tactic| walk_at "no such key 9") => `(tactic| done)
local macro_rules | `(tactic| walk_at "no such key 10") => `(tactic| done)
local macro_rules | `(tactic| walk_at "no such key 11") => `(tactic| done)
local macro_rules | `(tactic| walk_at "no such key 12") => `(tactic| done)
local macro_rules | `(tactic| walk_at "no such key 13") => `(tactic| done)
local macro_rules | `(tactic| walk_at "no such key 14") => `(tactic| done)
local macro_rules | `(tactic| walk_at "no such key 15") => `(tactic| done)
local macro_rules | `(tactic| walk_at "no such key 16") => `(tactic| done)
local macro_rules | `(tactic| walk_at "no such key 17") => `(tactic| done)
local macro_rules | `(tactic| walk_at "no such key 18") => `(tactic| done)
local macro_rules | `(tactic| walk_at "no such key 19") => `(tactic| done)
local macro_rules | `(tactic| walk_at "no such key 20") => `(tactic| done)
local macro_rules | `(tactic| walk_at "no such key 21") => `(tactic| done)
local macro_rules | `(tactic| walk_at "no such key 22") => `(tactic| done)
local macro_rules | `(tactic| walk_at "no such key 23") => `(tactic| done)
local macro_rules | `(tactic| walk_at "no such key 24") => `(tactic| done)
local macro_rules | `(tactic| walk_at "no such key 25") => `(tactic| done)
local macro_rules | `(tactic| walk_at "assign Tuple cons ref") => `(tactic| (k_here; (fail_if_success (have := (by assumption : Past 1))); (with_reducible show wpAny _ _ (assign (Expr.Tuple [Expr.Name (Str.ofString "a") _, _, _] _ _) _ (Value.ref _)) _ _ _); refine Hold.of ?_))
local macro_rules | `(tactic| walk_at "subscriptTail Name Slice ref ref") => `(tactic| (k_here; (with_reducible show wpAny _ _ (subscriptTail _ (PySem.Expr.Slice _ _ none _) (Value.ref _) (Value.ref _)) _ _ _); k_dflt (refine' kmk_slice_ints ?kF ?kN ?kl ?kp ?kq ?ki ?km ?kc ?_ ?ks ?kt ?kz; (case kF => k_asm); (case kN => k_asm); (case kl => kmk_list); (case kp => kmk_part); (case kq => kmk_part); (case ki => l_ints); (case km => first | exact kmk_upto (by l_ints) (by decide) | exact kmk_from (by l_ints) (Int.natCast_nonneg _)); (case kc => kmk_len); (case ks => with_unfolding_all rfl); (case kt => kmk_pure); (case kz => kmk_size)); intro D' ws' h' F' N' l1 hI' hC' hL'; (try simp only [Int.reduceNeg, Int.neg_neg, Int.reduceToNat] at hI' hC' hL'); (try k_lt l1); (try k_sweep)))
local macro_rules | `(tactic| walk_at "subscriptTail List") => `(tactic| (k_here; (with_reducible show wpAny _ _ (subscriptTail (PySem.Expr.List _ _) _ (Value.ref _) (Value.ref _)) _ _ _); k_dflt (refine kba_turn (value' := PySem.Expr.Name (PySem.Str.ofString "x") ⟨0, 0, 0, 0⟩) (fun _ => rfl) ?_)))
local macro_rules | `(tactic| walk_at "RemF") => `(tactic| (first | exact RemF.two | exact RemF.one | (refine' RemF.keep ?z ?w; (case z => k_ne); (case w => walk_at "RemF"))))
local macro_rules | `(tactic| walk_at "call ref") => `(tactic| (k_here; (with_reducible show wpAny _ _ (call (Value.ref 56) [Value.int _ _]) _ _ _); k_dflt (refine' gives_ask (ifac_use ?h0 ?h1) ?k1 ?k2 ?k3 ?k4 ?k5 ?kK ?kd ?ku ?_; (case h0 => omega); (case h1 => omega); (case k1 => k_asm); (case k2 => k_asm); (case k3 => k_asm); (case k4 => k_asm); (case k5 => k_asm); (case kK => first | exact rfl | assumption); (case kd => ktr_room); (case ku => ktr_units)); intro t9 h9 tk9 F9 N9; (try dsimp only); (try k_fold)))
local macro_rules | `(tactic| walk_at "call ref") => `(tactic| (k_here; (with_reducible show wpAny _ _ (call (Value.ref 61) [Value.int _ _]) _ _ _); k_dflt (refine' lp_ask ?h0 ?h1 ?k1 ?k2 ?k3 ?k4 ?k5 ?kK ?kd ?ku ?km ?_; (case h0 => omega); (case h1 => omega); (case k1 => k_asm); (case k2 => k_asm); (case k3 => k_asm); (case k4 => k_asm); (case k5 => k_asm); (case kK => first | exact rfl | assumption); (case kd => ktr_room); (case ku => ktr_units); (case km => k_mem)); intro q9 o9 ys9 c9 h9 tk9 F9 N9 hc9 hd9 hi9 ne9; (try dsimp only); (try k_fold)))
local macro_rules | `(tactic| walk_at "call ref") => `(tactic| (k_here; (with_reducible show wpAny _ _ (call (Value.ref 69) [Value.int _ _]) _ _ _); k_dflt (refine' isprime_law ?h0 ?h1 ?k1 ?k2 ?k3 ?k4 ?k5 ?kK ?kC ?kM ?km ?kc ?kR ?kd ?ku ?_; (case h0 => first | omega | exact mul_lo (by omega) (by omega)); (case h1 => first | omega | exact mul_hi (by omega) (by omega) (by omega) (by omega)); (case k1 => k_asm); (case k2 => k_asm); (case k3 => k_asm); (case k4 => k_asm); (case k5 => k_asm); (case kK => first | exact rfl | assumption); (case kC => assumption); (case kM => first | assumption | exact .inl ⟨rfl, rfl⟩); (case km => k_mem); (case kc => k_mem); (case kR => first | assumption | walk_at "RemF"); (case kd => ktr_room); (case ku => ktr_units)); intro p9 c9 o9 h9 tk9 M9 F9 N9 A9; (try dsimp only); (try dsimp only at N9); (try k_fold)))
local macro_rules | `(tactic| walk_at "compareOp In int ref") => `(tactic| (k_here; (with_reducible show wpAny _ _ (compareOp CmpOp.In (Value.int _ _) (Value.ref _)) _ _ _); k_dflt (refine' in_list_ints (isList_of ?k1 ?k2 ?k3 ?k4) ?k5 ?_; (case k1 => k_asm); (case k2 => k_mem); (case k3 => assumption); (case k4 => assumption); (case k5 => assumption)); (try dsimp only)))
local macro_rules | `(tactic| walk_at "eval ListComp") => `(tactic| (k_here; lct_look; lcg_calm; k_dflt (refine LCt.ListComp_T (F₀ := by k_asm) (by with_unfolding_all rfl) (by decide) (by rfl) (by decide) (by rfl) ?_)))
local macro_rules | `(tactic| walk_at "CompSrcT") => `(tactic| (k_here; refine Hold.of ?_))
local macro_rules | `(tactic| walk_at "compareOp NotEq ref ref") => `(tactic| (k_here; (with_reducible show wpAny _ _ (compareOp CmpOp.NotEq (Value.ref _) (Value.ref _)) _ _ _); k_dflt (refine' ke_ne_ints (isList_of ?k1 ?k2 ?k3 ?k4) ?k5 ?k6 ?k7 ?k8 ?_; (case k1 => k_asm); (case k2 => k_mem); (case k3 => assumption); (case k4 => assumption); (case k5 => is_list); (case k6 => assumption); (case k7 => assumption); (case k8 => ke_room)); (try dsimp only)))
local macro_rules | `(tactic| walk_at "exec Assign cons BinOp") => `(tactic| (k_here; (fail_if_success (have := (by assumption : Past 2))); (with_reducible show wpAny _ _ (exec (Stmt.Assign [Expr.Name (Str.ofString "root") _] _ _) _) _ _ _); refine Hold.of ?_))
local macro_rules | `(tactic| walk_at "exec Assign cons BinOp") => `(tactic| (k_here; (fail_if_success (have := (by assumption : Past 3))); (with_reducible show wpAny _ _ (exec (Stmt.Assign [Expr.Name (Str.ofString "more") _] _ _) _) _ _ _); refine Hold.of ?_))
local macro_rules | `(tactic| walk_at "exec If") => `(tactic| (k_here; (have := (by assumption : Past 3)); (fail_if_success (have := (by assumption : Past 4))); refine Hold.of ?_))
local macro_rules | `(tactic| walk_at "binaryOp Mult int int") => `(tactic| (k_here; (with_reducible refine mul_int ?_ ?km); (case km => first | exact IntMulOk.of_le (by assumption) (by assumption) (by decide) | exact mulok_x4 (by assumption) (by assumption) (by omega) | exact mulok_low (by assumption) (by assumption) (by assumption) (by assumption) (by omega) | exact mulok_low1 (by assumption) (by assumption) (by assumption) (by assumption) (by omega) | exact mulok_2x4 (by assumption) (by assumption) (by omega) | exact mulok_fine (by assumption) (by assumption) (by assumption) (by assumption) (by omega) | exact mulok_fine1 (by assumption) (by assumption) (by assumption) (by assumption) (by omega))))
local macro_rules | `(tactic| walk_at "call ref") => `(tactic| (k_here; (with_reducible show wpAny _ _ (call (Value.ref 35) [Value.int _ _]) _ _ _); k_dflt (refine' pair_ask (sqrtrem_use ?h0 ?h1) ?k1 ?k2 ?k3 ?k4 ?k5 ?kK ?kd ?ku ?_; (case h0 => first | exact nn_rr (by assumption) | exact nn_rr1 (by assumption) | exact nn_rrm (by assumption) (by assumption) | exact nn_x4 (by assumption) (by assumption) | exact nn_2x4 (by assumption) (by assumption) | exact nn_x2 (by assumption) (by assumption) | omega); (case h1 => first | exact bits_rr (by assumption) | exact bits_rr1 (by assumption) | exact bits_rrm (by assumption) (by assumption) | exact bits_x (by assumption) (by assumption) | exact bits_x4 (by assumption) (by assumption) (by omega) | exact bits_2x4 (by assumption) (by assumption) (by omega) | exact bits_x2 (by assumption) (by assumption) (by omega)); (case k1 => k_asm); (case k2 => k_asm); (case k3 => k_asm); (case k4 => k_asm); (case k5 => k_asm); (case kK => first | exact rfl | assumption); (case kd => ktr_room); (case ku => ktr_units)); intro q9 t9 u9 h9 tk9 F9 N9 l9; (try dsimp only); (try k_lt l9); (try k_fold)))
local macro_rules | `(tactic| walk_at "call ref") => `(tactic| (k_here; (with_reducible show wpAny _ _ (call (Value.ref 42) [Value.int _ _]) _ _ _); k_dflt (refine' gives_ask (isqrt_use ?h0 ?h1) ?k1 ?k2 ?k3 ?k4 ?k5 ?kK ?kd ?ku ?_; (case h0 => first | exact nn_rr (by assumption) | exact nn_rr1 (by assumption) | exact nn_rrm (by assumption) (by assumption) | exact nn_x4 (by assumption) (by assumption) | exact nn_2x4 (by assumption) (by assumption) | exact nn_x2 (by assumption) (by assumption) | omega); (case h1 => first | exact bits_rr (by assumption) | exact bits_rr1 (by assumption) | exact bits_rrm (by assumption) (by assumption) | exact bits_x (by assumption) (by assumption) | exact bits_x4 (by assumption) (by assumption) (by omega) | exact bits_2x4 (by assumption) (by assumption) (by omega) | exact bits_x2 (by assumption) (by assumption) (by omega)); (case k1 => k_asm); (case k2 => k_asm); (case k3 => k_asm); (case k4 => k_asm); (case k5 => k_asm); (case kK => first | exact rfl | assumption); (case kd => ktr_room); (case ku => ktr_units)); intro t9 h9 tk9 F9 N9; (try dsimp only); (try k_fold)))
local macro_rules | `(tactic| walk_at "call ref") => `(tactic| (k_here; (with_reducible show wpAny _ _ (call (Value.ref 49) [Value.int _ _, Value.int _ _]) _ _ _); k_dflt (refine' gives_ask (fixed_use ?hn ?hs ?h0 ?h1) ?k1 ?k2 ?k3 ?k4 ?k5 ?kK ?kd ?ku ?_; (case hn => omega); (case hs => exact fixed_room (bits_x (by assumption) (by assumption)) (by omega)); (case h0 => first | exact nn_rr (by assumption) | exact nn_rr1 (by assumption) | exact nn_rrm (by assumption) (by assumption) | exact nn_x4 (by assumption) (by assumption) | exact nn_2x4 (by assumption) (by assumption) | exact nn_x2 (by assumption) (by assumption) | omega); (case h1 => first | exact bits_rr (by assumption) | exact bits_rr1 (by assumption) | exact bits_rrm (by assumption) (by assumption) | exact bits_x (by assumption) (by assumption) | exact bits_x4 (by assumption) (by assumption) (by omega) | exact bits_2x4 (by assumption) (by assumption) (by omega) | exact bits_x2 (by assumption) (by assumption) (by omega)); (case k1 => k_asm); (case k2 => k_asm); (case k3 => k_asm); (case k4 => k_asm); (case k5 => k_asm); (case kK => first | exact rfl | assumption); (case kd => ktr_room); (case ku => ktr_units)); intro t9 h9 tk9 F9 N9; (try dsimp only); (try k_fold)))
local macro_rules | `(tactic| walk_at "exec Assign Tuple") => `(tactic| (k_here; (have := (by assumption : Past 4)); (fail_if_success (have := (by assumption : Past 5))); refine Hold.of ?_))
local macro_rules | `(tactic| walk_at "exec Assign cons Tuple") => `(tactic| (k_here; (have := (by assumption : Past 4)); (fail_if_success (have := (by assumption : Past 5))); refine Hold.of ?_))
local macro_rules | `(tactic| walk_at "exec Return some") => `(tactic| (k_here; (with_reducible show wpAny _ _ (exec (Stmt.Return (some (Expr.Constant (Const.bool false) _ _)) _) _) _ _ _); refine no_false ?_))
local macro_rules | `(tactic| walk_at "exec If") => `(tactic| (k_here; (have := (by assumption : Past 5)); (fail_if_success (have := (by assumption : Past 6))); refine Hold.of ?_))
local macro_rules | `(tactic| walk_at "binaryOp Pow int int") => `(tactic| (k_here; (have := (by assumption : Past 4)); (with_reducible refine pow_int_small ?kb1 ?kb2 ?kb3 ?_); (case kb1 => assumption); (case kb2 => omega); (case kb3 => decide); (try dsimp only)))
local macro_rules | `(tactic| walk_at "binaryOp Mult int int") => `(tactic| (k_here; (have := (by assumption : Past 6)); (with_reducible refine mul_int ?_ ?km); (case km => assumption); (try dsimp only)))
local macro_rules | `(tactic| walk_at "exec Return some") => `(tactic| (k_here; (have := (by assumption : Past 6)); (fail_if_success (have := (by assumption : Past 7))); (with_reducible show wpAny _ _ (exec (Stmt.Return (some (Expr.BoolOp _ _ _)) _) _) _ _ _); refine Hold.of ?_))
set_option rowWalk.seconds 0 in
set_option maxHeartbeats 40000000 in
theorem law_all : PySem.Challenge.rw_ag5013_01.Holds := by
  refine hd ?_
  k_go0
  k_steps
  (rename IntsAre _ (List.take 3 _ ++ _) => hI3)
  obtain ⟨a, b, c, e, hb, hc⟩ := three_items (by assumption)
  rw [e] at hI3
  clear e
  obtain ⟨ta, tb, tc, rfl⟩ := ints3 hI3
  have p1 : Past 1 := ⟨⟩
  refine Hold.intro ?_
  (try (rename Dflts .. => x9; clear x9))
  (try (rename CellsAre .. => x9; clear x9))
  (try (rename ReadsAllW .. => x9; clear x9))
  (try (rename TopE .. => x9; clear x9))
  (try (rename TopW .. => x9; clear x9))
  (try (rename Tables .. => x9; clear x9))
  (try (rename Well .. => x9; clear x9))
  (try (rename Reads .. => x9; clear x9))
  (try (rename Heap.CodeRec .. => x9; clear x9))
  (try (rename Ground .. => x9; clear x9))
  (try (rename Hook.says .. => x9; clear x9))
  (try clear hT8)
  k_steps
  · first | exact no_w (by assumption) (by omega) (by omega) | exact no_any (by assumption) (by omega) (by omega) | exact no_o (by assumption) (by omega) (by omega)
  · first | exact no_w (by assumption) (by omega) (by omega) | exact no_any (by assumption) (by omega) (by omega) | exact no_o (by assumption) (by omega) (by omega)
  · first | exact no_w (by assumption) (by omega) (by omega) | exact no_any (by assumption) (by omega) (by omega) | exact no_o (by assumption) (by omega) (by omega)
  refine Hold.intro ?_
  k_dflt (refine' comp_list (fun k => decide ((2 + a.fmod 159) < k)) ?a1 ?a2 ?a3 ?a4 ?a5 ?a6 ?a7 ?a8 ?_ ?_)
  case a1 => rfl
  case a2 => k_asm
  case a3 => k_asm
  case a4 => k_mem
  case a5 => assumption
  case a6 => assumption
  case a7 => assumption
  case a8 => exact prI_len (by omega) (by omega)
  · intro kX tX oI oIX oC oCX oD mX ysX hX tkX EX hkX hnX hxX FX NX off neX
    simp only [LCg.Off3, and_true] at off
    k_steps
    all_goals first | assumption | k_asm | exact decide_eq_false (by omega)
  intro dY ysY hY tkY FY NY off hyY
  have hD64 := off1_ne (a := 64) off (by k_mem)
  clear off
  k_steps
  · exact no_bertD (by assumption) (by omega) (by omega)
  · exact no_comp (by assumption) (by omega) (by omega) (by omega) (by omega)
  refine Hold.intro ?_
  k_dflt (refine' comp_memo (n := (2 * a.fmod 159 + 3).toNat) isprF ?a1 ?a2 ?a3 ?a4 ?a5 ?a6 ?a7 ?a8 ?a9 ?b0 ?b1 ?b2)
  case a1 => rfl
  case a2 => k_asm
  case a3 => k_asm
  case a4 => walk_at "RemF"
  case a5 => assumption
  case a6 => rfl
  case a7 => assumption
  case a8 => exact small_r (by omega) (by omega)
  case a9 => exact size_r (by omega)
  case b0 => (rw [sizeLine_eq]; omega)
  case b1 =>
    intro kX tX oI oIX oC oCX oD mX ysX psX coX oX hX tkX EX hkX hMX hnX hxX FX NX hRX
    (try dsimp only at NX)
    obtain ⟨hk0, hk1⟩ := mem_r hkX (by omega) (by omega)
    k_steps
    all_goals first | assumption | exact ⟨⟨_, _, _, _, _, rfl, by assumption, by k_asm, by k_asm, by assumption⟩⟩
  intro dZ ysZ psZ coZ oZ hZ tkZ hMZ FZ NZ hD65 hyZ
  (try dsimp only at NZ)
  k_steps
  rotate_left
  · exact no_row (by assumption) (by omega) (by omega)
  refine Hold.intro ?_
  have p2 : Past 2 := ⟨⟩
  k_steps
  refine Hold.intro ?_
  rename Fr _ _ _ _ => FR
  generalize hR : (if c < 0 then -c else c).fmod (10 ^ Int.toNat 100) + 1 = R at FR
  obtain ⟨r1, rb⟩ := root_facts hR
  refine' restart FR ?kN ?km ?_; (case kN => k_asm); (case km => k_mem)
  clear FR
  intro h9 tk9 t9 FR NR
  have p3 : Past 3 := ⟨⟩
  clear hR
  k_sweep
  (repeat (rename _ < _ ∧ _ => x9; clear x9))
  (repeat (rename Apart _ _ _ => x9; clear x9))
  (repeat (rename Memo2 _ _ _ => x9; clear x9))
  dsimp only
  k_steps
  refine Hold.intro ?_
  rename Fr _ _ _ _ => FM
  generalize hM : (b * b).fmod (2 * R + 1) = M at FM
  obtain ⟨m0, m1, mbits⟩ := more_facts r1 rb hM
  refine' restart FM ?kN ?km ?_; (case kN => k_asm); (case km => k_mem)
  clear FM
  intro h8 tk8 t8 FM NM
  have p4 : Past 4 := ⟨⟩
  k_sweep
  dsimp only
  k_steps
  rotate_left
  · exact no_more r1 m0 m1 (by assumption)
  · exact no_pred r1 (by assumption)
  · exact no_sq r1 (by assumption)
  refine Hold.intro ?_
  rename Fr _ _ _ _ => FK
  generalize hK : (a.fdiv 3 + b + 7).fmod 40 = K at FK
  obtain ⟨kn0, kn1⟩ := k_facts hK
  refine' restart FK ?kN ?km ?_; (case kN => k_asm); (case km => k_mem)
  clear FK hK
  intro h7 tk7 t7 FK NK
  have p5 : Past 5 := ⟨⟩
  k_sweep
  (repeat (rename _ < _ ∧ _ => x9; clear x9))
  dsimp only
  k_steps
  refine Hold.intro ?_
  rename Fr _ _ _ _ => FL
  generalize hlo : isq (R + M) = lo at FL
  generalize hfi : isq ((R + M) * 4 ^ K.toNat) = fi at FL
  obtain ⟨z1, z2, z3, z4, z5, z6, z7, z8⟩ := last_facts rb mbits r1 m0 kn0 kn1 hlo hfi
  have z9 := mulok_x4 rb mbits (show K.toNat < 40 by omega)
  refine' restart FL ?kN ?km ?_; (case kN => k_asm); (case km => k_mem)
  clear FL
  intro h6 tk6 t6 FL NL
  have p6 : Past 6 := ⟨⟩
  k_sweep
  (repeat (rename _ < _ ∧ _ => x9; clear x9))
  dsimp only
  k_steps
  have p7 : Past 7 := ⟨⟩
  refine Hold.intro ?_
  have w1 : isq ((R + M) * 2 ^ (2 * K).toNat) = fi := by rw [even_fixed kn0]; exact hfi
  have w2 : isq ((R + M) * 2 ^ (2 * K + 1).toNat) = isq (2 * (R + M) * 4 ^ K.toNat) := by rw [odd_fixed kn0]
  have w3 := mulok_2x4 rb mbits (show K.toNat < 40 by omega)
  k_steps
end Mine
end

theorem PySem.Challenge.cw_ag5013_01_holds : PySem.Challenge.rw_ag5013_01.Holds := by
  exact Mine.law_all
