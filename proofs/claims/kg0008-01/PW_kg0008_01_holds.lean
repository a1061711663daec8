import PyProof.Rows.All
import Wide.All
import OpenK.AllK
import Wide.FinOn
import PySem.Challenge.RW_kg0008_01
open PySem PySem.W PyProof.Rows PySem.Calls PySem.Spec
set_option Elab.async false
namespace Mine
open PySem.Builtin.Int (intBits)

set_option maxRecDepth 100000 in
set_option maxHeartbeats 8000000 in
open_top hd for PySem.Challenge.rw_kg0008_01

-- the plain law
def cQ (n : Int) : Int := (n - 1).fdiv 146097
def cA (n : Int) : Int := ((n - 1).fmod 146097).fdiv 36524
def cB (n : Int) : Int := (((n - 1).fmod 146097).fmod 36524).fdiv 1461
def cC (n : Int) : Int := ((((n - 1).fmod 146097).fmod 36524).fmod 1461).fdiv 365
def cD (n : Int) : Int := ((((n - 1).fmod 146097).fmod 36524).fmod 1461).fmod 365
/-- the year's number, where the cycle's last day is not met -/
def cY (n : Int) : Int := cQ n * 400 + 1 + (cA n * 100 + cB n * 4 + cC n)
def lp (n : Int) : Bool := cC n == 3 && (cB n != 24 || cA n == 3)
def isL (y : Int) : Bool := y.fmod 4 == 0 && (y.fmod 100 != 0 || y.fmod 400 == 0)
def bef (m : Int) : Int := ([-1, 0, 31, 59, 90, 120, 151, 181, 212, 243, 273, 304, 334] : List Int).getD m.toNat 0
def dim (m : Int) : Int := ([-1, 31, 28, 31, 30, 31, 30, 31, 31, 30, 31, 30, 31] : List Int).getD m.toNat 0
def bi (b : Bool) : Int := if b = true then 1 else 0
/-- the days of a month -/
def dl (l : Bool) (m : Int) : Int := if (m == 2 && l) = true then 29 else dim m
/-- the month's estimate -/
def m0 (d : Int) : Int := (d + 50).fdiv 32
/-- the days ahead of the estimate -/
def p0 (l : Bool) (d : Int) : Int := bef (m0 d) + bi (decide (m0 d > 2) && l)
/-- the days ahead of the month before -/
def p1 (l : Bool) (d : Int) : Int := p0 l d - (dim (m0 d - 1) + bi (m0 d - 1 == 2 && l))
def moF (l : Bool) (d : Int) : Int := if d < p0 l d then m0 d - 1 else m0 d
def daF (l : Bool) (d : Int) : Int := if d < p0 l d then d - p1 l d + 1 else d - p0 l d + 1
def yF (n : Int) : Int := if cC n = 4 ∨ cA n = 4 then cY n - 1 else cY n
def mF (n : Int) : Int := if cC n = 4 ∨ cA n = 4 then 12 else moF (lp n) (cD n)
def dF (n : Int) : Int := if cC n = 4 ∨ cA n = 4 then 31 else daF (lp n) (cD n)

theorem cyc (n : Int) : 0 ≤ cA n ∧ cA n ≤ 4 ∧ 0 ≤ cB n ∧ cB n ≤ 24 ∧ 0 ≤ cC n ∧ cC n ≤ 4 ∧ 0 ≤ cD n ∧ cD n ≤ 364 ∧ (cA n < 4 ∨ cD n = 0) ∧ (cC n < 4 ∨ cD n = 0) := by
  unfold cA cB cC cD
  simp only [Int.fmod_eq_emod_of_nonneg _ (show (0:Int) ≤ 146097 by decide), Int.fmod_eq_emod_of_nonneg _ (show (0:Int) ≤ 36524 by decide), Int.fmod_eq_emod_of_nonneg _ (show (0:Int) ≤ 1461 by decide), Int.fmod_eq_emod_of_nonneg _ (show (0:Int) ≤ 365 by decide),
    Int.fdiv_eq_ediv_of_nonneg _ (show (0:Int) ≤ 36524 by decide), Int.fdiv_eq_ediv_of_nonneg _ (show (0:Int) ≤ 1461 by decide), Int.fdiv_eq_ediv_of_nonneg _ (show (0:Int) ≤ 365 by decide)]
  omega

theorem leap_ok {n : Int} (h4 : ¬ cC n = 4) (hA : ¬ cA n = 4) : lp n = isL (cY n) := by
  obtain ⟨g1, g2, g3, g4, g5, g6, g7, g8, g9, g10⟩ := cyc n
  unfold isL lp cY
  rw [Bool.eq_iff_iff]
  simp only [Bool.and_eq_true, Bool.or_eq_true, beq_iff_eq, bne_iff_ne, ne_eq, Int.fmod_eq_emod_of_nonneg _ (show (0:Int) ≤ 4 by decide), Int.fmod_eq_emod_of_nonneg _ (show (0:Int) ≤ 100 by decide), Int.fmod_eq_emod_of_nonneg _ (show (0:Int) ≤ 400 by decide)]
  omega

theorem cal_all : ∀ l : Bool, ∀ k : Fin 365, 1 ≤ m0 (k.val : Int) ∧ m0 (k.val : Int) ≤ 12 ∧
    (p0 l (k.val : Int) ≤ (k.val : Int) ∨ (2 ≤ m0 (k.val : Int) ∧ 0 ≤ (k.val : Int) - p1 l (k.val : Int) ∧ (k.val : Int) - p1 l (k.val : Int) < dl l (m0 (k.val : Int) - 1))) ∧
    ((k.val : Int) < p0 l (k.val : Int) ∨ (k.val : Int) - p0 l (k.val : Int) < dl l (m0 (k.val : Int))) := by decide +kernel

theorem cal (l : Bool) {d : Int} (h0 : 0 ≤ d) (h1 : d ≤ 364) : 1 ≤ m0 d ∧ m0 d ≤ 12 ∧ (p0 l d ≤ d ∨ (2 ≤ m0 d ∧ 0 ≤ d - p1 l d ∧ d - p1 l d < dl l (m0 d - 1))) ∧ (d < p0 l d ∨ d - p0 l d < dl l (m0 d)) := by
  have h := cal_all l ⟨d.toNat, by omega⟩
  have e : ((d.toNat : Nat) : Int) = d := by omega
  simp only [e] at h
  exact h

theorem shiftQ (n k : Int) : cQ (n + 146097 * k) = cQ n + k := by
  unfold cQ
  simp only [Int.fdiv_eq_ediv_of_nonneg _ (show (0:Int) ≤ 146097 by decide)]
  omega
theorem shiftR (n k : Int) : (n + 146097 * k - 1).fmod 146097 = (n - 1).fmod 146097 := by
  simp only [Int.fmod_eq_emod_of_nonneg _ (show (0:Int) ≤ 146097 by decide)]
  omega
theorem shiftA (n k : Int) : cA (n + 146097 * k) = cA n := by unfold cA; rw [shiftR]
theorem shiftB (n k : Int) : cB (n + 146097 * k) = cB n := by unfold cB; rw [shiftR]
theorem shiftC (n k : Int) : cC (n + 146097 * k) = cC n := by unfold cC; rw [shiftR]
theorem shiftD (n k : Int) : cD (n + 146097 * k) = cD n := by unfold cD; rw [shiftR]
theorem shiftL (n k : Int) : lp (n + 146097 * k) = lp n := by unfold lp; rw [shiftA, shiftB, shiftC]
theorem law_y (n k : Int) : yF (n + 146097 * k) = yF n + 400 * k := by
  unfold yF cY
  rw [shiftA, shiftB, shiftC, shiftQ]
  split <;> omega
theorem law_m (n k : Int) : mF (n + 146097 * k) = mF n := by
  unfold mF
  rw [shiftA, shiftC, shiftD, shiftL]
theorem law_d (n k : Int) : dF (n + 146097 * k) = dF n := by
  unfold dF
  rw [shiftA, shiftC, shiftD, shiftL]

-- what comes back, by the way taken
theorem last_y {n : Int} (h : cC n = 4 ∨ cA n = 4) : cY n - 1 = yF n := (if_pos h).symm
theorem last_m {n : Int} (h : cC n = 4 ∨ cA n = 4) : 12 = mF n := (if_pos h).symm
theorem last_d {n : Int} (h : cC n = 4 ∨ cA n = 4) : 31 = dF n := (if_pos h).symm
theorem some_y {n : Int} (h4 : ¬ cC n = 4) (hA : ¬ cA n = 4) : cY n = yF n := (if_neg (by omega)).symm
theorem high_m {n : Int} (h4 : ¬ cC n = 4) (hA : ¬ cA n = 4) (h : cD n < p0 (lp n) (cD n)) : m0 (cD n) - 1 = mF n := by
  unfold mF moF; rw [if_neg (by omega), if_pos h]
theorem high_d {n : Int} (h4 : ¬ cC n = 4) (hA : ¬ cA n = 4) (h : cD n < p0 (lp n) (cD n)) : cD n - p1 (lp n) (cD n) + 1 = dF n := by
  unfold dF daF; rw [if_neg (by omega), if_pos h]
theorem right_m {n : Int} (h4 : ¬ cC n = 4) (hA : ¬ cA n = 4) (h : ¬ cD n < p0 (lp n) (cD n)) : m0 (cD n) = mF n := by
  unfold mF moF; rw [if_neg (by omega), if_neg h]
theorem right_d {n : Int} (h4 : ¬ cC n = 4) (hA : ¬ cA n = 4) (h : ¬ cD n < p0 (lp n) (cD n)) : cD n - p0 (lp n) (cD n) + 1 = dF n := by
  unfold dF daF; rw [if_neg (by omega), if_neg h]

-- a call of _is_leap
/-- a bool comes back, nothing but tokens are spent -/
def JB (s : Shared) (b : Bool) (v : Value) (s' : Shared) : Prop := v = .bool b ∧ ∃ tk, s' = { s with toks := tk }
section
variable {M : Model} {A : Around} {E : Value → Shared → Prop} {s : Shared} {env : Env}
theorem and2 {e₁ e₂ : PySem.Expr} {pos : Pos} {x y : Bool} {Q : Value → Shared → Prop} (h1 : wpAny M A (eval e₁ env) (JB s x) E s) (h2 : ∀ tk, wpAny M A (eval e₂ env) (JB s y) E { s with toks := tk })
    (hk : ∀ tk, Q (.bool (x && y)) { s with toks := tk }) : wpAny M A (eval (.BoolOp .And [e₁, e₂] pos) env) Q E s := by
  refine BoolOp_and (wpAny_mono h1 ?_ fun _ _ h => h)
  rintro v s₁ ⟨rfl, tk, rfl⟩
  refine wpAny_truthy_bool ?_
  cases x with
  | true =>
    refine BoolOp_one (wpAny_mono (h2 tk) ?_ fun _ _ h => h)
    rintro v s₂ ⟨rfl, tk2, rfl⟩
    exact hk tk2
  | false => exact hk tk
theorem or2 {e₁ e₂ : PySem.Expr} {pos : Pos} {x y : Bool} {Q : Value → Shared → Prop} (h1 : wpAny M A (eval e₁ env) (JB s x) E s) (h2 : ∀ tk, wpAny M A (eval e₂ env) (JB s y) E { s with toks := tk })
    (hk : ∀ tk, Q (.bool (x || y)) { s with toks := tk }) : wpAny M A (eval (.BoolOp .Or [e₁, e₂] pos) env) Q E s := by
  refine BoolOp_or (wpAny_mono h1 ?_ fun _ _ h => h)
  rintro v s₁ ⟨rfl, tk, rfl⟩
  refine wpAny_truthy_bool ?_
  cases x with
  | false =>
    refine BoolOp_one (wpAny_mono (h2 tk) ?_ fun _ _ h => h)
    rintro v s₂ ⟨rfl, tk2, rfl⟩
    exact hk tk2
  | true => exact hk tk
end
local macro_rules | `(tactic| walk_at "eval BoolOp") => `(tactic| (k_here; first | (with_reducible refine' and2 ?_ (fun _ => ?_) (fun _ => ?_)) | (with_reducible refine' or2 ?_ (fun _ => ?_) (fun _ => ?_)); (all_goals try k_fold)))
local macro_rules | `(tactic| walk_at "JB") => `(tactic| exact ⟨rfl, _, rfl⟩)


abbrev TopX (mean : ExcName → Option Value) (mg mb : Str → Option Value) (h₀ : Heap) : Prop := Top hd.view_39 (looseW hd.view_39 [Str.ofString "_DAYS_IN_MONTH", Str.ofString "_DAYS_BEFORE_MONTH", Str.ofString "_DI400Y", Str.ofString "_DI100Y", Str.ofString "_DI4Y"]) mean mg mb h₀
section
variable (w : World) (mean : ExcName → Option Value) (mg mb : Str → Option Value) (news : List (Addr × Obj))
    (dp un : Nat) (gd : Option (List Code)) (cn : Str) (cs : Scope) (a : Addr) (ccd : Value) (cl : List (Str × Addr)) (outer : List Env) (A₀ : Around) (base h₀ : Heap) (L : Addr) (m : Str → Option Value) (s : Shared) (Q E : Value → Shared → Prop)

set_option maxRecDepth 100000 in
set_option maxHeartbeats 8000000 in
theorem leap_call (y : Int) (t : Tok)
    (B : Below A₀ base outer h₀) (F : Fr h₀ L s.heap m) (X : (hd.heap_39 w.params).In h₀) (N : News h₀ L s.heap news) (T : TopX mean mg mb h₀)
    (hk : cs.kind = .function) (hdp : dp + 1 < recursionLimit) (hun : un + 8 < cLine)
    (hret : ∀ (h' : Heap) (tk' : Nat), Fr h₀ L h' m → News h₀ L h' news → Q (.bool (isL y)) { s with heap := h', toks := tk' }) :
    wpAny (model Challenge.rw_kg0008_01.row.prog w) (ktrTop dp un gd cn cs L a ccd cl outer) (call (.ref 28) [.int y t]) Q E s := by
  w_on
  revert X
  k_fill
  intro X
  unfold TopX at T
  w_strict ((refine wpAny_call ?_); k_dflt cell_enter; k_steps; all_goals exact hret _ _ (by assumption) (by assumption))
end

-- a call of _days_in_month
theorem range12 {k : Int} (h0 : 0 ≤ k) (h1 : k ≤ 12) : k = 0 ∨ k = 1 ∨ k = 2 ∨ k = 3 ∨ k = 4 ∨ k = 5 ∨ k = 6 ∨ k = 7 ∨ k = 8 ∨ k = 9 ∨ k = 10 ∨ k = 11 ∨ k = 12 := by omega
section
variable {prog : Program} {w w' : World} {A : Around} {E : Value → Shared → Prop} {s : Shared} {h₀ : Heap} {L : Addr} {m : Str → Option Value}
theorem item_at {l : Addr} {value slice : PySem.Expr} {items : Array Value} {f : Int → Int} {k : Int} {u : Tok} {Q : Value → Shared → Prop} (hl : s.heap.IsList l items) (h0 : 0 ≤ k) (h1 : k ≤ 12) (hf : ∃ t, items[k.toNat]? = some (.int (f k) t)) (h : ∀ t, Q (.int (f k) t) s)
    (hs : subscripted slice false (.ref l) (.int k u) = operate [.ref l, .int k u] (getItem (.ref l) (.int k u))) :
    wpAny (model prog w) A (subscriptTail value slice (.ref l) (.int k u)) Q E s := by
  obtain ⟨t, hx⟩ := hf
  exact tail_any hl.typeIs slot_list_getitem.lookup (wpAny_getItem_list hl h0 (by omega) hx (h t)) hs
theorem item_dim {value slice : PySem.Expr} {k : Int} {u : Tok} {Q : Value → Shared → Prop} (F : Fr h₀ L s.heap m) (X : (hd.heap_39 w'.params).In h₀) (h0 : 0 ≤ k) (h1 : k ≤ 12) (h : ∀ t, Q (.int (dim k) t) s)
    (hs : subscripted slice false (.ref 15) (.int k u) = operate [.ref 15, .int k u] (getItem (.ref 15) (.int k u))) :
    wpAny (model prog w) A (subscriptTail value slice (.ref 15) (.int k u)) Q E s := by
  refine item_at (f := dim) ⟨_, (X.keeps F.keep) 15 _ rfl, rfl, _, rfl⟩ h0 h1 ?_ h hs
  rcases range12 h0 h1 with e | e | e | e | e | e | e | e | e | e | e | e | e <;> subst e <;> exact ⟨_, rfl⟩
theorem item_bef {value slice : PySem.Expr} {k : Int} {u : Tok} {Q : Value → Shared → Prop} (F : Fr h₀ L s.heap m) (X : (hd.heap_39 w'.params).In h₀) (h0 : 0 ≤ k) (h1 : k ≤ 12) (h : ∀ t, Q (.int (bef k) t) s)
    (hs : subscripted slice false (.ref 16) (.int k u) = operate [.ref 16, .int k u] (getItem (.ref 16) (.int k u))) :
    wpAny (model prog w) A (subscriptTail value slice (.ref 16) (.int k u)) Q E s := by
  refine item_at (f := bef) ⟨_, (X.keeps F.keep) 16 _ rfl, rfl, _, rfl⟩ h0 h1 ?_ h hs
  rcases range12 h0 h1 with e | e | e | e | e | e | e | e | e | e | e | e | e <;> subst e <;> exact ⟨_, rfl⟩
end
theorem dl_29 {y mo : Int} (h : mo = 2) (h2 : isL y = true) : 29 = dl (isL y) mo := by subst h; rw [h2]; rfl
theorem dl_no {y mo : Int} (h2 : isL y = false) : dim mo = dl (isL y) mo := by unfold dl; rw [h2, Bool.and_false]; rfl
theorem dl_else {y mo : Int} (h : ¬ mo = 2) : dim mo = dl (isL y) mo := by unfold dl; rw [if_neg (by simp [h])]
theorem ret_int {h₀ h' : Heap} {L : Addr} {m : Str → Option Value} {news : List (Addr × Obj)} {s : Shared} {Q : Value → Shared → Prop} {t : Tok} {tk' : Nat} {x y : Int} (hret : ∀ (t : Tok) (h' : Heap) (tk' : Nat), Fr h₀ L h' m → News h₀ L h' news → Q (.int y t) { s with heap := h', toks := tk' })
    (F : Fr h₀ L h' m) (N : News h₀ L h' news) (e : x = y) : Q (.int x t) { s with heap := h', toks := tk' } := by subst e; exact hret t h' tk' F N

local macro_rules | `(tactic| walk_at "subscriptTail") => `(tactic| (k_here; (with_reducible show wpAny _ _ (subscriptTail _ _ (Value.ref _) (Value.int _ _)) _ _ _); k_dflt (first | refine' item_dim ?F ?X ?a ?b ?_ ?hs | refine' item_bef ?F ?X ?a ?b ?_ ?hs); (case F => k_asm); (case X => k_asm); (case a => omega); (case b => omega); (case hs => with_unfolding_all rfl); intro _))
local macro_rules | `(tactic| walk_at "call ref") => `(tactic| (k_here; (with_reducible show wpAny _ _ (call (Value.ref 28) [Value.int _ _]) _ _ _); k_dflt (refine' leap_call _ _ _ _ _ _ _ _ _ _ _ _ _ _ _ _ _ _ _ _ _ _ _ _ ?B ?F ?X ?N ?T ?hk ?d ?u ?_; (case B => k_asm); (case F => k_asm); (case X => k_asm); (case N => k_asm); (case T => k_asm); (case hk => first | exact rfl | assumption); (case d => ktr_room); (case u => ktr_units); k_whole; intro h' tk' F' N'; (try k_fold))))

section
variable (w : World) (mean : ExcName → Option Value) (mg mb : Str → Option Value) (news : List (Addr × Obj))
    (dp un : Nat) (gd : Option (List Code)) (cn : Str) (cs : Scope) (a : Addr) (ccd : Value) (cl : List (Str × Addr)) (outer : List Env) (A₀ : Around) (base h₀ : Heap) (L : Addr) (m : Str → Option Value) (s : Shared) (Q E : Value → Shared → Prop)

set_option maxRecDepth 100000 in
set_option maxHeartbeats 8000000 in
theorem dim_call (y : Int) (t : Tok) (mo : Int) (u : Tok) (q0 : 1 ≤ mo) (q1 : mo ≤ 12)
    (B : Below A₀ base outer h₀) (F : Fr h₀ L s.heap m) (X : (hd.heap_39 w.params).In h₀) (N : News h₀ L s.heap news) (T : TopX mean mg mb h₀)
    (hk : cs.kind = .function) (hdp : dp + 2 < recursionLimit) (hun : un + 64 < cLine)
    (hret : ∀ (t : Tok) (h' : Heap) (tk' : Nat), Fr h₀ L h' m → News h₀ L h' news → Q (.int (dl (isL y) mo) t) { s with heap := h', toks := tk' }) :
    wpAny (model Challenge.rw_kg0008_01.row.prog w) (ktrTop dp un gd cn cs L a ccd cl outer) (call (.ref 42) [.int y t, .int mo u]) Q E s := by
  w_on
  revert X
  k_fill
  intro X
  unfold TopX at T
  w_strict ((refine wpAny_call ?_); k_dflt cell_enter; k_steps; all_goals (refine ret_int hret (by assumption) (by assumption) ?_; first | exact dl_29 (by assumption) (by assumption) | exact dl_no (by assumption) | exact dl_else (by assumption)))
end

-- a call of _ord2ymd
local macro_rules | `(tactic| walk_at "call ref") => `(tactic| (k_here; (with_reducible show wpAny _ _ (call (Value.ref 42) [Value.int _ _, Value.int _ _]) _ _ _); k_dflt (refine' dim_call _ _ _ _ _ _ _ _ _ _ _ _ _ _ _ _ _ _ _ _ _ _ _ _ _ _ ?q0 ?q1 ?B ?F ?X ?N ?T ?hk ?d ?u ?_; (case q0 => omega); (case q1 => omega); (case B => k_asm); (case F => k_asm); (case X => k_asm); (case N => k_asm); (case T => k_asm); (case hk => first | exact rfl | assumption); (case d => ktr_room); (case u => ktr_units); k_whole; intro t' h' tk' F' N'; (try k_fold))))
local macro_rules | `(tactic| bits_by_make) => `(tactic| with_reducible assumption)

abbrev OrdRet (h₀ : Heap) (L : Addr) (m : Str → Option Value) (news : List (Addr × Obj)) (s : Shared) (Q : Value → Shared → Prop) (n : Int) : Prop :=
  ∀ (D : Addr) (t1 t2 t3 : Tok) (c : Nat) (h : Heap) (tk : Nat), Fr h₀ L h m → News h₀ L h ((D, ({ cls := .type "tuple", data := .seq #[.int (yF n) t1, .int (mF n) t2, .int (dF n) t3] c } : Obj)) :: news) → AllLt D news → Q (.ref D) { s with heap := h, toks := tk }
theorem ord_end {h₀ h : Heap} {L D : Addr} {m : Str → Option Value} {news : List (Addr × Obj)} {s : Shared} {Q : Value → Shared → Prop} {n y mo da : Int} {t1 t2 t3 : Tok} {c tk : Nat} (hret : OrdRet h₀ L m news s Q n)
    (F : Fr h₀ L h m) (N : News h₀ L h ((D, ({ cls := .type "tuple", data := .seq #[.int y t1, .int mo t2, .int da t3] c } : Obj)) :: news)) (hl : AllLt D news) (e1 : y = yF n) (e2 : mo = mF n) (e3 : da = dF n) : Q (.ref D) { s with heap := h, toks := tk } := by
  subst e1; subst e2; subst e3
  exact hret D t1 t2 t3 c h tk F N hl

theorem drop4 {h₀ h : Heap} {L : Addr} {x y z u : Addr × Obj} {news : List (Addr × Obj)} (N : News h₀ L h (x :: y :: z :: u :: news)) : News h₀ L h news :=
  cb_drop N fun _ hp => .tail _ (.tail _ (.tail _ (.tail _ hp)))
/-- a mark: the body's numbers are named -/
def Seen1 : Prop := True
theorem Seen1.mk : Seen1 := True.intro
theorem eQ (n : Int) : (n - 1).fdiv 146097 = cQ n := rfl
theorem eA (n : Int) : ((n - 1).fmod 146097).fdiv 36524 = cA n := rfl
theorem eB (n : Int) : (((n - 1).fmod 146097).fmod 36524).fdiv 1461 = cB n := rfl
theorem eC (n : Int) : ((((n - 1).fmod 146097).fmod 36524).fmod 1461).fdiv 365 = cC n := rfl
theorem eD (n : Int) : ((((n - 1).fmod 146097).fmod 36524).fmod 1461).fmod 365 = cD n := rfl
theorem eY (n : Int) : cQ n * 400 + 1 + (cA n * 100 + cB n * 4 + cC n) = cY n := rfl
theorem eL (n : Int) : (cC n == 3 && (cB n != 24 || cA n == 3)) = lp n := rfl
theorem eP0 (l : Bool) (d : Int) : bef (m0 d) + bi (decide (m0 d > 2) && l) = p0 l d := rfl
theorem eP1 (l : Bool) (d : Int) : p0 l d - (dim (m0 d - 1) + bi (m0 d - 1 == 2 && l)) = p1 l d := rfl
theorem cyc_of {n : Int} (_ : intBits n ≤ 4194304) : 0 ≤ cA n ∧ cA n ≤ 4 ∧ 0 ≤ cB n ∧ cB n ≤ 24 ∧ 0 ≤ cC n ∧ cC n ≤ 4 ∧ 0 ≤ cD n ∧ cD n ≤ 364 ∧ (cA n < 4 ∨ cD n = 0) ∧ (cC n < 4 ∨ cD n = 0) := cyc n
theorem leap_beq {n : Int} (h4 : ¬ cC n = 4) (hA : ¬ cA n = 4) : (lp n == isL (cY n)) = true := by rw [leap_ok h4 hA]; exact beq_self_eq_true _
theorem cal_n {n : Int} (h4 : ¬ cC n = 4) (hA : ¬ cA n = 4) (h0 : 0 ≤ cD n) (h1 : cD n ≤ 364) : 1 ≤ m0 (cD n) ∧ m0 (cD n) ≤ 12 ∧ (p0 (lp n) (cD n) ≤ cD n ∨ (2 ≤ m0 (cD n) ∧ 0 ≤ cD n - p1 (lp n) (cD n) ∧ cD n - p1 (lp n) (cD n) < dl (isL (cY n)) (m0 (cD n) - 1))) ∧ (cD n < p0 (lp n) (cD n) ∨ cD n - p0 (lp n) (cD n) < dl (isL (cY n)) (m0 (cD n))) := by
  rw [← leap_ok h4 hA]
  exact cal (lp n) h0 h1
section
variable {prog : Program} {w : World} {A : Around} {E : Value → Shared → Prop} {s : Shared} {d x : Int} {b : Bool} {t u : Tok} {Q : Value → Shared → Prop}
theorem shr_m0 (h : Q (.int (m0 d) s.toks) { s with toks := s.toks + 1 }) : wpAny (model prog w) A (binaryOp .RShift (.int (d + 50) t) (.int 5 u)) Q E s := rshift_int (by decide) h
theorem add_bi (h : Q (.int (x + bi b) s.toks) { s with toks := s.toks + 1 }) : wpAny (model prog w) A (binaryOp .Add (.int x t) (.bool b)) Q E s := add_int_bool h
end
local macro_rules | `(tactic| walk_at "binaryOp RShift int int") => `(tactic| (k_here; with_reducible refine shr_m0 ?_))
local macro_rules | `(tactic| walk_at "binaryOp Add int bool") => `(tactic| (k_here; with_reducible refine add_bi ?_))
local macro_rules | `(tactic| walk_at "exec If") => `(tactic| (k_here; (with_reducible show wpAny _ _ (exec (Stmt.If (Expr.BoolOp _ _ _) _ _ _) _) _ _ _); (fail_if_success (rename Seen1 => x9)); (have c9 := Seen1.mk); (rename Fr _ _ _ _ => F9); (rename News _ _ _ _ => N9); (replace N9 := drop4 N9); (simp only [eQ, eA, eB, eC, eD, eY] at F9); (obtain ⟨g1, g2, g3, g4, g5, g6, g7, g8, g9, g10⟩ := cyc_of (by assumption))))
local macro_rules | `(tactic| walk_at "exec If") => `(tactic| (k_here; (with_reducible show wpAny _ _ (exec (Stmt.If (Expr.Compare _ _ _ _) _ _ _) _) _ _ _); (rename Fr _ _ _ _ => F9); (simp only [eP0] at F9)))
local macro_rules | `(tactic| walk_at "exec AugAssign") => `(tactic| (k_here; (rename Fr _ _ _ _ => F9); (simp only [eP1] at F9)))
local macro_rules | `(tactic| walk_at "exec Assert") => `(tactic| (k_here; (rename Fr _ _ _ _ => F9); (simp only [eL] at F9); (have hLE := leap_beq (by assumption) (by assumption)); (obtain ⟨k1, k2, k3, k4⟩ := cal_n (by assumption) (by assumption) (by assumption) (by assumption))))

section
variable (w : World) (mean : ExcName → Option Value) (mg mb : Str → Option Value) (news : List (Addr × Obj))
    (dp un : Nat) (gd : Option (List Code)) (cn : Str) (cs : Scope) (a : Addr) (ccd : Value) (cl : List (Str × Addr)) (outer : List Env) (A₀ : Around) (base h₀ : Heap) (L : Addr) (m : Str → Option Value) (s : Shared) (Q E : Value → Shared → Prop)

set_option maxRecDepth 100000 in
set_option maxHeartbeats 8000000 in
theorem ord_call (n : Int) (t : Tok) (bn : intBits n ≤ 4194304)
    (B : Below A₀ base outer h₀) (F : Fr h₀ L s.heap m) (X : (hd.heap_39 w.params).In h₀) (N : News h₀ L s.heap news) (T : TopX mean mg mb h₀)
    (hk : cs.kind = .function) (hdp : dp + 4 < recursionLimit) (hun : un + 128 < cLine)
    (hret : OrdRet h₀ L m news s Q n) :
    wpAny (model Challenge.rw_kg0008_01.row.prog w) (ktrTop dp un gd cn cs L a ccd cl outer) (call (.ref 52) [.int n t]) Q E s := by
  w_on
  revert X
  k_fill
  intro X
  unfold TopX at T
  w_strict ((refine wpAny_call ?_); k_dflt cell_enter; k_steps; all_goals (first
    | (refine' ord_end hret ?F ?N ?l ?e1 ?e2 ?e3; (case F => k_asm); (case N => k_asm); (case l => exact allLt_of (by assumption));
        (first
          | ((case e1 => exact last_y (Or.inl (by assumption))); (case e2 => exact last_m (Or.inl (by assumption))); (case e3 => exact last_d (Or.inl (by assumption))))
          | ((case e1 => exact last_y (Or.inr (by assumption))); (case e2 => exact last_m (Or.inr (by assumption))); (case e3 => exact last_d (Or.inr (by assumption))))
          | ((case e1 => exact some_y (by assumption) (by assumption)); (case e2 => exact high_m (by assumption) (by assumption) (by assumption)); (case e3 => exact high_d (by assumption) (by assumption) (by assumption)))
          | ((case e1 => exact some_y (by assumption) (by assumption)); (case e2 => exact right_m (by assumption) (by assumption) (by assumption)); (case e3 => exact right_d (by assumption) (by assumption) (by assumption)))))
    | (exfalso; omega)))
end

-- the law
theorem two_of {ws : List Value} {ns : List Int} (h : IntsAre ws (List.take 2 (ns ++ [0, 0]))) (hl : PyData.layable0 (.list (ns.map .int)) = true) :
    ∃ (x y : Int) (t u : Tok), ws = [.int x t, .int y u] ∧ intBits x ≤ 1048576 ∧ intBits y ≤ 1048576 := by
  have hz : intBits 0 ≤ 1048576 := by decide
  match ns, h, hl with
  | [], h, _ =>
    cases h with | cons _ t h => cases h with | cons _ u h => cases h; exact ⟨0, 0, t, u, rfl, hz, hz⟩
  | [x], h, hl =>
    cases h with | cons _ t h => cases h with | cons _ u h => cases h; exact ⟨x, 0, t, u, rfl, PyData.bits_item_of_ints hl (by simp), hz⟩
  | x :: y :: r, h, hl =>
    cases h with | cons _ t h => cases h with | cons _ u h => cases h; exact ⟨x, y, t, u, rfl, PyData.bits_item_of_ints hl (by simp), PyData.bits_item_of_ints hl (by simp)⟩

theorem bits_0 {x : Int} (h : intBits x ≤ 1048576) : intBits (x + 0) ≤ 4194304 := Nat.le_trans (bits_add (n := 64) h (by decide)) (by decide)
theorem bits_1 {x : Int} (h : intBits x ≤ 1048576) : intBits (x + 1) ≤ 4194304 := Nat.le_trans (bits_add (n := 64) h (by decide)) (by decide)
theorem bits_2 {x y : Int} (h : intBits x ≤ 1048576) (k : intBits y ≤ 1048576) : intBits (x + 0 + 146097 * y) ≤ 4194304 :=
  Nat.le_trans (bits_add (bits_add (n := 64) h (by decide)) (bits_mul (m := 64) (by decide) k)) (by decide)
theorem bits_3 {x y : Int} (h : intBits x ≤ 1048576) (k : intBits y ≤ 1048576) : intBits (x + 1 + 146097 * y) ≤ 4194304 :=
  Nat.le_trans (bits_add (bits_add (n := 64) h (by decide)) (bits_mul (m := 64) (by decide) k)) (by decide)
/-- the two dates compared -/
theorem law_cmp (n k : Int) : (yF (n + 146097 * k) == yF n + 400 * k && (mF (n + 146097 * k) == mF n && dF (n + 146097 * k) == dF n)) = true := by
  rw [law_y, law_m, law_d]
  simp
local macro_rules | `(tactic| walk_at "ite") => `(tactic| (k_here; with_reducible refine ite_pos (law_cmp _ _) ?_))
local macro_rules | `(tactic| walk_at "assign Tuple cons ref") => `(tactic| (k_here; (rename IntsAre _ (List.take 2 (_ ++ [0, 0])) => hI9); (obtain ⟨x9, y9, t9, u9, e9, bx9, by9⟩ := two_of hI9 (by assumption)); subst e9; clear hI9))
local macro_rules | `(tactic| walk_at "call ref") => `(tactic| (k_here; (with_reducible show wpAny _ _ (call (Value.ref 52) [Value.int _ _]) _ _ _); k_dflt (refine' ord_call _ _ _ _ _ _ _ _ _ _ _ _ _ _ _ _ _ _ _ _ _ _ _ _ ?bn ?B ?F ?X ?N ?T ?hk ?d ?u ?_; (case bn => first | exact bits_0 (by assumption) | exact bits_1 (by assumption) | exact bits_2 (by assumption) (by assumption) | exact bits_3 (by assumption) (by assumption)); (case B => k_asm); (case F => k_asm); (case X => k_asm); (case N => k_asm); (case T => k_asm); (case hk => first | exact rfl | assumption); (case d => ktr_room); (case u => ktr_units); k_whole; intro D' t1' t2' t3' c' h' tk' F' N' l1; (try simp only [AllLt, and_true] at l1); (try k_sweep))))

set_option maxRecDepth 100000 in
set_option maxHeartbeats 8000000 in
theorem law_holds : PySem.Challenge.rw_kg0008_01.Holds := by
  refine hd ?_
  w_strict (k_go0; (all_goals try k_fold); k_steps; (all_goals (try k_data)); all_goals w_report)

end Mine

set_option maxRecDepth 100000 in
theorem PySem.Challenge.cw_kg0008_01_holds : PySem.Challenge.rw_kg0008_01.Holds := by
  exact Mine.law_holds
