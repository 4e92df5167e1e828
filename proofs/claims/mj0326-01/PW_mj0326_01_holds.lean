import PyProof.Rows.All
import Wide.All
import OpenK.AllK
import Wide.FinOn
import PySem.Challenge.RW_mj0326_01
set_option Elab.async false
section
open PySem PySem.W PyProof.Rows
set_option maxRecDepth 100000
namespace Mine
set_option maxHeartbeats 8000000 in
open_top hd for PySem.Challenge.rw_mj0326_01
end Mine
end
section
open PySem PySem.W PyProof.Rows
set_option maxRecDepth 100000
namespace Mine
abbrev CC (w : World) (mean : ExcName → Option Value) (mg mb : Str → Option Value) (f : Addr) (news : List (Addr × Obj)) (r : Nat) (pre : Prop) (vs : List Value) (R : Tok → Value) : Prop :=
  ∀ (dp un : Nat) (gd : Option (List Code)) (cn : Str) (cs : Scope) (a : Addr) (ccd : Value) (cl : List (Str × Addr)) (outer : List Env) (A₀ : Around) (base h₀ : Heap) (L : Addr) (m : Str → Option Value) (s : Shared) (Q E : Value → Shared → Prop),
    Below A₀ base outer h₀ → Fr h₀ L s.heap m → (hd.heap_39 w.params).In h₀ → News h₀ L s.heap news → Top hd.view_39 (looseW hd.view_39 [Str.ofString "_DAYS_IN_MONTH", Str.ofString "_DAYS_BEFORE_MONTH", Str.ofString "_DI400Y", Str.ofString "_DI100Y", Str.ofString "_DI4Y"]) mean mg mb h₀ → cs.kind = .function →
    pre → dp + r < recursionLimit → un + 20 * r < cLine → CbRet h₀ L m news s Q R →
      wpAny (model PySem.Challenge.rw_mj0326_01.row.prog w) (ktrTop dp un gd cn cs L a ccd cl outer) (call (.ref f) vs) Q E s

def lp (y : Int) : Bool := decide (y % 4 = 0 ∧ (y % 100 ≠ 0 ∨ y % 400 = 0))
def dby (y : Int) : Int := (y - 1) * 365 + (y - 1).fdiv 4 - (y - 1).fdiv 100 + (y - 1).fdiv 400
def dim (y m : Int) : Int := if m = 2 ∧ lp y = true then 29 else [-1, 31, 28, 31, 30, 31, 30, 31, 31, 30, 31, 30, 31].getD m.toNat 0
def dbm (y m : Int) : Int := [-1, 0, 31, 59, 90, 120, 151, 181, 212, 243, 273, 304, 334].getD m.toNat 0 + (if 2 < m ∧ lp y = true then 1 else 0)
def ordD (y m d : Int) : Int := dby y + dbm y m + d
def wk1 (y : Int) : Int := if (ordD y 1 1 + 6).fmod 7 > 3 then ordD y 1 1 - (ordD y 1 1 + 6).fmod 7 + 7 else ordD y 1 1 - (ordD y 1 1 + 6).fmod 7

theorem topListAny {prog : Program} {w : World} {A : Around} {E : Value → Shared → Prop} {s : Shared} {K : Frag} {h₀ : Heap} {L a : Addr} {m : Str → Option Value} {n : Nat} {value slice : PySem.Expr} {l : List Value} {ns : List Int} {dd : Option Addr} {sl : Array (Option Value)} {k : Int} {u : Tok} {Q : Value → Shared → Prop} (F : Fr h₀ L s.heap m) (X₀ : K.In h₀)
    (hl : K.lookup a = some ⟨.type "list", dd, .seq l.toArray n, sl⟩) (hi : IntsAre l ns) (h0 : 0 ≤ k) (h1 : k < ns.length) (hfit : k < 2 ^ 63) (h : ∀ t, Q (.int (ns.getD k.toNat 0) t) s)
    (hs : subscripted slice false (.ref a) (.int k u) = operate [.ref a, .int k u] (getItem (.ref a) (.int k u)) := by with_unfolding_all rfl) :
    wpAny (model prog w) A (subscriptTail value slice (.ref a) (.int k u)) Q E s := by
  obtain ⟨t, hx⟩ := hi.get k.toNat _ (ints_getD h0 h1)
  exact topList_K F X₀ hl h0 hfit hx (h t) hs
local macro_rules | `(tactic| walk_at "subscriptTail") => `(tactic| (k_here; (with_reducible show wpAny _ _ (subscriptTail _ _ (Value.ref _) (Value.int _ _)) _ _ _); (with_unfolding_all (refine' topListAny ?F ?X ?l ?i ?k3 ?k4 ?k5 ?_; (case F => k_asm); (case X => k_asm); (case l => k_is); (case i => l_ints); (case k3 => l_idx); (case k4 => l_idx); (case k5 => l_idx); k_whole)); intro _))

theorem dim_f {y m : Int} (h : ¬ m = 2) : dim y m = [-1, 31, 28, 31, 30, 31, 30, 31, 31, 30, 31, 30, 31].getD m.toNat 0 := by
  simp [dim, h]
theorem dim_g {y m : Int} (h : lp y = false) : dim y m = [-1, 31, 28, 31, 30, 31, 30, 31, 31, 30, 31, 30, 31].getD m.toNat 0 := by
  simp [dim, h]
theorem dim_t {y m : Int} (h : m = 2) (h' : lp y = true) : dim y m = 29 := by
  simp [dim, h, h']
theorem dim_pos {y m : Int} (h : 1 ≤ m ∧ m ≤ 12) : 28 ≤ dim y m := by
  obtain ⟨h1, h2⟩ := h
  have : m = 1 ∨ m = 2 ∨ m = 3 ∨ m = 4 ∨ m = 5 ∨ m = 6 ∨ m = 7 ∨ m = 8 ∨ m = 9 ∨ m = 10 ∨ m = 11 ∨ m = 12 := by omega
  unfold dim
  rcases this with h | h | h | h | h | h | h | h | h | h | h | h <;> subst h <;> split <;> decide
theorem dbm_f {y m : Int} (h : ¬ 2 < m) : dbm y m = [-1, 0, 31, 59, 90, 120, 151, 181, 212, 243, 273, 304, 334].getD m.toNat 0 + (if decide (2 < m) = true then 1 else 0) := by
  simp [dbm, h]
theorem dbm_t {y m : Int} (h : 2 < m) : dbm y m = [-1, 0, 31, 59, 90, 120, 151, 181, 212, 243, 273, 304, 334].getD m.toNat 0 + (if lp y = true then 1 else 0) := by
  simp [dbm, h]
set_option maxHeartbeats 8000000 in
theorem c_leap (w : World) (mean : ExcName → Option Value) (mg mb : Str → Option Value) (news : List (Addr × Obj)) (y : Int) (ty : Tok) : CC w mean mg mb 28 news 1 (True) [Value.int y ty] (fun _ => Value.bool (lp y)) := by
  w_on
  dsimp only [CC, CbRet]
  k_fill
  intros; rename_i hpre hdp hun hret
  refine wpAny_call ?_
  k_dflt cell_enter
  k_steps
  all_goals (refine' cb_retB hret ?e1 ?e2 ?e3; (case e2 => k_asm); (case e3 => k_asm); (case e1 => (simp only [lp]; cb_eq)))
local macro_rules | `(tactic| walk_at "call ref") => `(tactic| (k_here; (with_reducible show wpAny _ _ (PySem.call (Value.ref 28) [Value.int _ _]) _ _ _); k_dflt (refine' c_leap _ _ _ _ _ _ _ _ _ _ _ _ _ _ _ _ _ _ _ _ _ _ _ _ ?k1 ?k2 ?k3 ?k4 ?k5 ?kK ?kp ?kd ?ku ?_; (case k1 => k_asm); (case k2 => k_asm); (case k3 => k_asm); (case k4 => k_asm); (case k5 => k_asm); (case kK => first | exact rfl | assumption); (case kp => trivial); (case kd => ((try simp only [depth_deeper]); (try dsimp only [ktrTop]); omega)); (case ku => ((try simp only [units_deeper]); (try dsimp only [ktrTop]); omega)); intro t9 h9 tk9 F9 N9; (try dsimp only); (try k_fold))))
set_option maxHeartbeats 8000000 in
theorem c_dby (w : World) (mean : ExcName → Option Value) (mg mb : Str → Option Value) (news : List (Addr × Obj)) (y : Int) (ty : Tok) : CC w mean mg mb 35 news 1 (True) [Value.int y ty] (fun t => Value.int (dby y) t) := by
  w_on
  dsimp only [CC, CbRet]
  k_fill
  intros; rename_i hpre hdp hun hret
  refine wpAny_call ?_
  k_dflt cell_enter
  k_steps
  all_goals (refine' cb_retI hret ?e1 ?e2 ?e3; (case e2 => k_asm); (case e3 => k_asm); (case e1 => rfl))
local macro_rules | `(tactic| walk_at "call ref") => `(tactic| (k_here; (with_reducible show wpAny _ _ (PySem.call (Value.ref 35) [Value.int _ _]) _ _ _); k_dflt (refine' c_dby _ _ _ _ _ _ _ _ _ _ _ _ _ _ _ _ _ _ _ _ _ _ _ _ ?k1 ?k2 ?k3 ?k4 ?k5 ?kK ?kp ?kd ?ku ?_; (case k1 => k_asm); (case k2 => k_asm); (case k3 => k_asm); (case k4 => k_asm); (case k5 => k_asm); (case kK => first | exact rfl | assumption); (case kp => trivial); (case kd => ((try simp only [depth_deeper]); (try dsimp only [ktrTop]); omega)); (case ku => ((try simp only [units_deeper]); (try dsimp only [ktrTop]); omega)); intro t9 h9 tk9 F9 N9; (try dsimp only); (try k_fold))))
set_option maxHeartbeats 8000000 in
theorem c_dim (w : World) (mean : ExcName → Option Value) (mg mb : Str → Option Value) (news : List (Addr × Obj)) (y : Int) (ty : Tok) (m : Int) (tm : Tok) : CC w mean mg mb 42 news 2 (1 ≤ m ∧ m ≤ 12) [Value.int y ty, Value.int m tm] (fun t => Value.int (dim y m) t) := by
  w_on
  dsimp only [CC, CbRet]
  k_fill
  intros; rename_i hpre hdp hun hret
  refine wpAny_call ?_
  k_dflt cell_enter
  k_steps
  all_goals (refine' cb_retI hret ?e1 ?e2 ?e3; (case e2 => k_asm); (case e3 => k_asm); (case e1 => first | exact (dim_f (by first | assumption | omega)).symm | exact (dim_t (by assumption) (by assumption)).symm | exact (dim_g (by first | assumption | exact Bool.eq_false_iff.mpr (by assumption))).symm))
local macro_rules | `(tactic| walk_at "call ref") => `(tactic| (k_here; (with_reducible show wpAny _ _ (PySem.call (Value.ref 42) [Value.int _ _, Value.int _ _]) _ _ _); k_dflt (refine' c_dim _ _ _ _ _ _ _ _ _ _ _ _ _ _ _ _ _ _ _ _ _ _ _ _ _ _ ?k1 ?k2 ?k3 ?k4 ?k5 ?kK ?kp ?kd ?ku ?_; (case k1 => k_asm); (case k2 => k_asm); (case k3 => k_asm); (case k4 => k_asm); (case k5 => k_asm); (case kK => first | exact rfl | assumption); (case kp => omega); (case kd => ((try simp only [depth_deeper]); (try dsimp only [ktrTop]); omega)); (case ku => ((try simp only [units_deeper]); (try dsimp only [ktrTop]); omega)); intro t9 h9 tk9 F9 N9; (try dsimp only); (try k_fold))))
set_option maxHeartbeats 8000000 in
theorem c_dbm (w : World) (mean : ExcName → Option Value) (mg mb : Str → Option Value) (news : List (Addr × Obj)) (y : Int) (ty : Tok) (m : Int) (tm : Tok) : CC w mean mg mb 49 news 2 (1 ≤ m ∧ m ≤ 12) [Value.int y ty, Value.int m tm] (fun t => Value.int (dbm y m) t) := by
  w_on
  dsimp only [CC, CbRet]
  k_fill
  intros; rename_i hpre hdp hun hret
  refine wpAny_call ?_
  k_dflt cell_enter
  k_steps
  all_goals (refine' cb_retI hret ?e1 ?e2 ?e3; (case e2 => k_asm); (case e3 => k_asm); (case e1 => first | exact (dbm_f (by first | assumption | omega)).symm | exact (dbm_t (by first | assumption | omega)).symm))
local macro_rules | `(tactic| walk_at "call ref") => `(tactic| (k_here; (with_reducible show wpAny _ _ (PySem.call (Value.ref 49) [Value.int _ _, Value.int _ _]) _ _ _); k_dflt (refine' c_dbm _ _ _ _ _ _ _ _ _ _ _ _ _ _ _ _ _ _ _ _ _ _ _ _ _ _ ?k1 ?k2 ?k3 ?k4 ?k5 ?kK ?kp ?kd ?ku ?_; (case k1 => k_asm); (case k2 => k_asm); (case k3 => k_asm); (case k4 => k_asm); (case k5 => k_asm); (case kK => first | exact rfl | assumption); (case kp => omega); (case kd => ((try simp only [depth_deeper]); (try dsimp only [ktrTop]); omega)); (case ku => ((try simp only [units_deeper]); (try dsimp only [ktrTop]); omega)); intro t9 h9 tk9 F9 N9; (try dsimp only); (try k_fold))))
theorem lp_16 (y : Int) : lp y = decide (y % 16 = 0 ∨ (y % 4 = 0 ∧ y % 25 ≠ 0)) := by
  unfold lp; rw [decide_eq_decide]; omega
set_option maxHeartbeats 8000000 in
theorem c_ord (w : World) (mean : ExcName → Option Value) (mg mb : Str → Option Value) (news : List (Addr × Obj)) (y : Int) (ty : Tok) (m : Int) (tm : Tok) (d : Int) (td : Tok) : CC w mean mg mb 56 news 4 ((1 ≤ m ∧ m ≤ 12) ∧ 1 ≤ d ∧ d ≤ 28) [Value.int y ty, Value.int m tm, Value.int d td] (fun t => Value.int (ordD y m d) t) := by
  w_on
  dsimp only [CC, CbRet]
  k_fill
  intros; rename_i hpre hdp hun hret
  have hdp1 := dim_pos (y := y) hpre.1
  refine wpAny_call ?_
  k_dflt cell_enter
  k_steps
  all_goals (refine' cb_retI hret ?e1 ?e2 ?e3; (case e2 => k_asm); (case e3 => k_asm); (case e1 => rfl))
local macro_rules | `(tactic| walk_at "call ref") => `(tactic| (k_here; (with_reducible show wpAny _ _ (PySem.call (Value.ref 56) [Value.int _ _, Value.int _ _, Value.int _ _]) _ _ _); k_dflt (refine' c_ord _ _ _ _ _ _ _ _ _ _ _ _ _ _ _ _ _ _ _ _ _ _ _ _ _ _ _ _ ?k1 ?k2 ?k3 ?k4 ?k5 ?kK ?kp ?kd ?ku ?_; (case k1 => k_asm); (case k2 => k_asm); (case k3 => k_asm); (case k4 => k_asm); (case k5 => k_asm); (case kK => first | exact rfl | assumption); (case kp => omega); (case kd => ((try simp only [depth_deeper]); (try dsimp only [ktrTop]); omega)); (case ku => ((try simp only [units_deeper]); (try dsimp only [ktrTop]); omega)); intro t9 h9 tk9 F9 N9; (try dsimp only); (try k_fold))))
set_option maxHeartbeats 8000000 in
theorem c_wk1 (w : World) (mean : ExcName → Option Value) (mg mb : Str → Option Value) (news : List (Addr × Obj)) (y : Int) (ty : Tok) : CC w mean mg mb 73 news 6 (True) [Value.int y ty] (fun t => Value.int (wk1 y) t) := by
  w_on
  dsimp only [CC, CbRet]
  k_fill
  intros; rename_i hpre hdp hun hret
  refine wpAny_call ?_
  k_dflt cell_enter
  k_steps
  all_goals (refine' cb_retI hret ?e1 ?e2 ?e3; (case e2 => k_asm); (case e3 => k_asm); (case e1 => (simp only [wk1]; first | (rw [if_pos (by omega)]; done) | (rw [if_neg (by omega)]; done))))
local macro_rules | `(tactic| walk_at "call ref") => `(tactic| (k_here; (with_reducible show wpAny _ _ (PySem.call (Value.ref 73) [Value.int _ _]) _ _ _); k_dflt (refine' c_wk1 _ _ _ _ _ _ _ _ _ _ _ _ _ _ _ _ _ _ _ _ _ _ _ _ ?k1 ?k2 ?k3 ?k4 ?k5 ?kK ?kp ?kd ?ku ?_; (case k1 => k_asm); (case k2 => k_asm); (case k3 => k_asm); (case k4 => k_asm); (case k5 => k_asm); (case kK => first | exact rfl | assumption); (case kp => trivial); (case kd => ((try simp only [depth_deeper]); (try dsimp only [ktrTop]); omega)); (case ku => ((try simp only [units_deeper]); (try dsimp only [ktrTop]); omega)); intro t9 h9 tk9 F9 N9; (try dsimp only); (try k_fold))))
set_option maxHeartbeats 8000000 in
theorem c_lleap (w : World) (mean : ExcName → Option Value) (mg mb : Str → Option Value) (news : List (Addr × Obj)) (y : Int) (ty : Tok) : CC w mean mg mb 80 news 1 (True) [Value.int y ty] (fun _ => Value.bool (lp y)) := by
  w_on
  dsimp only [CC, CbRet]
  k_fill
  intros; rename_i hpre hdp hun hret
  refine wpAny_call ?_
  k_dflt cell_enter
  k_steps
  all_goals (refine' cb_retB hret ?e1 ?e2 ?e3; (case e2 => k_asm); (case e3 => k_asm); (case e1 => (rw [lp_16]; cb_eq)))
local macro_rules | `(tactic| walk_at "call ref") => `(tactic| (k_here; (with_reducible show wpAny _ _ (PySem.call (Value.ref 80) [Value.int _ _]) _ _ _); k_dflt (refine' c_lleap _ _ _ _ _ _ _ _ _ _ _ _ _ _ _ _ _ _ _ _ _ _ _ _ ?k1 ?k2 ?k3 ?k4 ?k5 ?kK ?kp ?kd ?ku ?_; (case k1 => k_asm); (case k2 => k_asm); (case k3 => k_asm); (case k4 => k_asm); (case k5 => k_asm); (case kK => first | exact rfl | assumption); (case kp => trivial); (case kd => ((try simp only [depth_deeper]); (try dsimp only [ktrTop]); omega)); (case ku => ((try simp only [units_deeper]); (try dsimp only [ktrTop]); omega)); intro t9 h9 tk9 F9 N9; (try dsimp only); (try k_fold))))
end Mine
end
section
open PySem PySem.W PyProof.Rows
set_option maxRecDepth 100000
namespace Mine

def RowsAre (nw : List (Addr × Obj)) : List Value → List (Int × Int) → Prop
  | [], [] => True
  | v :: vs, p :: ps => (∃ T n ta tb, v = Value.ref T ∧ (T, listOf #[Value.int p.1 ta, Value.int p.2 tb] n) ∈ nw) ∧ RowsAre nw vs ps
  | _, _ => False

theorem RowsAre.mono {nw nw' : List (Addr × Obj)} (hs : ∀ p ∈ nw, p ∈ nw') : ∀ {vs : List Value} {ps : List (Int × Int)}, RowsAre nw vs ps → RowsAre nw' vs ps
  | [], [], _ => trivial
  | _ :: _, _ :: _, ⟨⟨T, n, ta, tb, e, hm⟩, r⟩ => ⟨⟨T, n, ta, tb, e, hs _ hm⟩, r.mono hs⟩
theorem RowsAre.snoc {nw : List (Addr × Obj)} {v : Value} {p : Int × Int} (hv : ∃ T n ta tb, v = Value.ref T ∧ (T, listOf #[Value.int p.1 ta, Value.int p.2 tb] n) ∈ nw) : ∀ {vs : List Value} {ps : List (Int × Int)}, RowsAre nw vs ps → RowsAre nw (vs ++ [v]) (ps ++ [p])
  | [], [], _ => ⟨hv, trivial⟩
  | _ :: _, _ :: _, ⟨a, r⟩ => ⟨a, r.snoc hv⟩
theorem RowsAre.length {nw : List (Addr × Obj)} : ∀ {vs : List Value} {ps : List (Int × Int)}, RowsAre nw vs ps → vs.length = ps.length
  | [], [], _ => rfl
  | _ :: _, _ :: _, ⟨_, r⟩ => by simp [r.length]
theorem RowsAre.get {nw : List (Addr × Obj)} : ∀ {vs : List Value} {ps : List (Int × Int)}, RowsAre nw vs ps → ∀ (i : Nat) (p : Int × Int), ps[i]? = some p → ∃ T n ta tb, vs[i]? = some (Value.ref T) ∧ (T, listOf #[Value.int p.1 ta, Value.int p.2 tb] n) ∈ nw
  | [], [], _, i, p, h => by simp at h
  | v :: vs, q :: ps, ⟨⟨T, n, ta, tb, e, hm⟩, r⟩, i, p, h => by
    cases i with
    | zero => simp at h; subst h; subst e; exact ⟨T, n, ta, tb, rfl, hm⟩
    | succ i => simp at h; simpa using r.get i p h

def AllSeq (rows : List (Addr × Obj)) : Prop := ∀ p ∈ rows, ∃ its n, p.2.data = Data.seq its n

def RowEl (news rows : List (Addr × Obj)) (p : Int × Int) (y : Value) (news' : List (Addr × Obj)) : Prop :=
  ∃ T n ta tb, y = Value.ref T ∧ news' = news ++ (T, listOf #[Value.int p.1 ta, Value.int p.2 tb] n) :: rows

section
variable {prog : Program} {w : World} {A : Around} {h₀ : Heap} {L : Addr} {m : Str → Option Value} {env : Env} {elt : Expr} {x : Str} {scope : Scope} {cl : List (Str × Addr)} {s : Shared} {P : Nat → Value → Prop} {Fin : List Value → List (Addr × Obj) → Prop} {news : List (Addr × Obj)}

theorem rows_rest {n : Nat} {ks : List Int} (g : Int → Int × Int) (hks : ks.length = n) (hP : ∀ i v, i < n → P i v → ∃ k t, ks[i]? = some k ∧ v = .int k t)
    (turn : ∀ rows k t I oI C oC D m₂ ys h tk (E' : Value → Shared → Prop), k ∈ ks → LCg.NsObj oC m₂ → m₂ x = some (.int k t) → Fr h₀ L h m → News h₀ L h ((I, oI) :: (C, oC) :: (D, LCg.lst ys) :: (news ++ rows)) → LCg.Off3 I C D (news ++ rows) → ((@Ne Nat I C) ∧ (@Ne Nat I D) ∧ (@Ne Nat C D)) →
      wpAny (model prog w) A (eval elt (compEnvC scope cl C env)) (LCg.CompEnd h₀ L m { s with heap := h, toks := tk } I oI C oC D (LCg.lst ys) (fun _ => True) (fun y news' => RowEl news rows (g k) y news')) E' { s with heap := h, toks := tk })
    (fin : ∀ ys rows, RowsAre rows ys (ks.map g) → AllSeq rows → Fin ys (news ++ rows)) : LCg.CompRest prog w A h₀ L m env elt x scope cl s (fun _ => True) P Fin n 0 [] news := by
  have key : ∀ (j i : Nat) (ys : List Value) (rows : List (Addr × Obj)), i + j = n → RowsAre rows ys ((ks.take i).map g) → AllSeq rows → LCg.CompRest prog w A h₀ L m env elt x scope cl s (fun _ => True) P Fin j i ys (news ++ rows) := by
    intro j
    induction j with
    | zero =>
      intro i ys rows hi hy hq
      have e : i = ks.length := by omega
      subst e
      rw [List.take_length] at hy
      exact LCg.CompRest.zero (fin ys rows hy hq)
    | succ j ih =>
      intro i ys rows hi hy hq
      refine LCg.CompRest.succ ?_
      intro v I oI C oC D m₂ h tk E' hv hC hx F N off ne
      obtain ⟨k, t, hk, hv'⟩ := hP i v (by omega) hv
      rw [hv'] at hx
      refine wpAny_mono (turn rows k t I oI C oC D m₂ ys h tk E' (List.mem_of_getElem? hk) hC hx F N off ne) (fun y s₂ hq => ?_) fun _ _ e => e
      obtain ⟨h', tk', nw, e, F', N', off', hS, T, nn, ta, tb, hy', hn⟩ := hq
      rw [hn] at N' off'
      refine ⟨h', tk', _, e, F', N', off', trivial, ?_⟩
      refine ih (i + 1) _ _ (by omega) ?_ (fun p hp => by
        rcases List.mem_cons.mp hp with h | h
        · rw [h]; exact ⟨_, _, rfl⟩
        · exact hq p h)
      rw [List.take_add_one, hk]
      simp only [Option.toList_some, List.map_append, List.map_cons, List.map_nil]
      exact (hy.mono fun p hp => List.mem_cons_of_mem _ hp).snoc ⟨T, nn, ta, tb, hy', List.mem_cons_self⟩
  have := key n 0 [] [] (by omega) (by simp only [List.take_zero, List.map_nil]; trivial) (fun _ h => nomatch h)
  rwa [List.append_nil] at this

theorem rows_range {n : Nat} {a : Int} (g : Int → Int × Int)
    (turn : ∀ rows k t I oI C oC D m₂ ys h tk (E' : Value → Shared → Prop), a ≤ k → k < a + (n : Int) → LCg.NsObj oC m₂ → m₂ x = some (.int k t) → Fr h₀ L h m → News h₀ L h ((I, oI) :: (C, oC) :: (D, LCg.lst ys) :: (news ++ rows)) → LCg.Off3 I C D (news ++ rows) → ((@Ne Nat I C) ∧ (@Ne Nat I D) ∧ (@Ne Nat C D)) →
      wpAny (model prog w) A (eval elt (compEnvC scope cl C env)) (LCg.CompEnd h₀ L m { s with heap := h, toks := tk } I oI C oC D (LCg.lst ys) (fun _ => True) (fun y news' => RowEl news rows (g k) y news')) E' { s with heap := h, toks := tk })
    (fin : ∀ ys rows, RowsAre rows ys ((rangeKs a n).map g) → AllSeq rows → Fin ys (news ++ rows)) : LCg.CompRest prog w A h₀ L m env elt x scope cl s (fun _ => True) (fun i v => ∃ t, v = .int (a + (i : Int)) t) Fin n 0 [] news :=
  rows_rest (ks := rangeKs a n) g (rangeKs_length a n) (fun i v hi hv => by
    obtain ⟨t, e⟩ := hv
    exact ⟨a + (i : Int), t, by simp [rangeKs, hi], e⟩)
    (fun rows k t I oI C oC D m₂ ys h tk E' hk hC hx F N off ne => turn rows k t I oI C oC D m₂ ys h tk E' (mem_rangeKs hk).1 (mem_rangeKs hk).2 hC hx F N off ne) fin

theorem row_end {I C D T : Addr} {oI oC oD : Obj} {rows : List (Addr × Obj)} {a b : Int} {ta tb : Tok} {n : Nat} {h' : Heap} {tk : Nat} {s₁ : Shared} {p : Int × Int}
    (F : Fr h₀ L h' m) (N : News h₀ L h' ((T, listOf [Value.int a ta, Value.int b tb].toArray n) :: (I, oI) :: (C, oC) :: (D, oD) :: (news ++ rows))) (off : LCg.Off3 I C D (news ++ rows))
    (hI : T ≠ I) (hC : T ≠ C) (hD : T ≠ D) (e1 : a = p.1) (e2 : b = p.2) :
    LCg.CompEnd h₀ L m s₁ I oI C oC D oD (fun _ => True) (fun y news' => RowEl news rows p y news') (.ref T) { s₁ with heap := h', toks := tk } := by
  subst e1; subst e2
  refine LCg.CompEnd.intro F N (news ++ (T, listOf #[Value.int p.1 ta, Value.int p.2 tb] n) :: rows) ?_ ?_ trivial ⟨T, n, ta, tb, rfl, rfl⟩
  · intro q hq
    simp only [List.mem_cons, List.mem_append] at hq ⊢
    rcases hq with h | h | h | h | h | h <;> simp [h]
  · refine LCg.Off3.of fun q hq => ?_
    rcases List.mem_append.mp hq with h | h
    · exact off.mem q (List.mem_append_left _ h)
    · rcases List.mem_cons.mp h with h | h
      · subst h; exact ⟨hI, hC, hD⟩
      · exact off.mem q (List.mem_append_right _ h)
end

theorem drop2 {h₀ h : Heap} {L : Addr} {a b : Addr × Obj} {t : List (Addr × Obj)} (N : News h₀ L h (a :: b :: t)) : News h₀ L h (a :: t) := fun p hp => by
  rcases List.mem_cons.mp hp with e | e
  · exact N p (by rw [e]; exact List.mem_cons_self)
  · exact N p (List.mem_cons_of_mem _ (List.mem_cons_of_mem _ e))

/-- a contract for a def that makes objects: `post v nw` says what comes back and what the ledger is behind it -/
abbrev CG (w : World) (mean : ExcName → Option Value) (mg mb : Str → Option Value) (f : Addr) (news : List (Addr × Obj)) (r : Nat) (pre : Prop) (vs : List Value) (post : Value → List (Addr × Obj) → Prop) : Prop :=
  ∀ (dp un : Nat) (gd : Option (List Code)) (cn : Str) (cs : Scope) (a : Addr) (ccd : Value) (cl : List (Str × Addr)) (outer : List Env) (A₀ : Around) (base h₀ : Heap) (L : Addr) (m : Str → Option Value) (s : Shared) (Q E : Value → Shared → Prop),
    Below A₀ base outer h₀ → Fr h₀ L s.heap m → (hd.heap_39 w.params).In h₀ → News h₀ L s.heap news → Top hd.view_39 (looseW hd.view_39 [Str.ofString "_DAYS_IN_MONTH", Str.ofString "_DAYS_BEFORE_MONTH", Str.ofString "_DI400Y", Str.ofString "_DI100Y", Str.ofString "_DI4Y"]) mean mg mb h₀ → cs.kind = .function →
    pre → dp + r < recursionLimit → un + 20 * r < cLine → (∀ v nw h' tk', post v nw → Fr h₀ L h' m → News h₀ L h' nw → Q v { s with heap := h', toks := tk' }) →
      wpAny (model PySem.Challenge.rw_mj0326_01.row.prog w) (ktrTop dp un gd cn cs L a ccd cl outer) (call (.ref f) vs) Q E s
end Mine
end
section
open PySem PySem.W PySem.Calls PyProof.Rows PyProof.Rows.LCg PySem.Spec PyProof.V
set_option maxRecDepth 100000
namespace Mine

inductive Built (G : Nat → Value → List (Addr × Obj) → Prop) : Nat → List Value → List (Addr × Obj) → Prop
  | zero : Built G 0 [] []
  | succ {i : Nat} {ys : List Value} {tl : List (Addr × Obj)} {v : Value} {ex : List (Addr × Obj)} : Built G i ys tl → G i v ex → Built G (i + 1) (ys ++ [v]) (ex ++ tl)

def EndK (h₀ : Heap) (L : Addr) (m : Str → Option Value) (s₁ : Shared) (C : Addr) (oC : Obj) (D : Addr) (oD : Obj) (news tl : List (Addr × Obj)) (Gi : Value → List (Addr × Obj) → Prop) (v : Value) (s₂ : Shared) : Prop :=
  ∃ h' tk ex, s₂ = { s₁ with heap := h', toks := tk } ∧ Fr h₀ L h' m ∧ News h₀ L h' (ex ++ (C, oC) :: (D, oD) :: (news ++ tl)) ∧ (∀ p ∈ ex, ∀ q ∈ (C, oC) :: (D, oD) :: (news ++ tl), q.1 < p.1) ∧ Gi v ex

def StepK (prog : Program) (w : World) (A : Around) (h₀ : Heap) (L : Addr) (m : Str → Option Value) (env : Env) (elt : Expr) (a b : Str) (scope : Scope) (cl : List (Str × Addr)) (s : Shared) (news : List (Addr × Obj)) (n : Nat) (B : Nat → Value → Value → Prop) (G : Nat → Value → List (Addr × Obj) → Prop) : Prop :=
  ∀ i x y C oC D m₂ ys tl h tk (E' : Value → Shared → Prop), i < n → B i x y → NsObj oC m₂ → m₂ a = some x → m₂ b = some y → Fr h₀ L h m → News h₀ L h ((C, oC) :: (D, lst ys) :: (news ++ tl)) → 
    wpAny (model prog w) A (eval elt (compEnvC scope cl C env)) (EndK h₀ L m { s with heap := h, toks := tk } C oC D (lst ys) news tl (G i)) E' { s with heap := h, toks := tk }

/-- what lies outside `wr` is as it was -/
def Spares (wr : List Addr) (h h' : Heap) : Prop := ∀ b o, b ∉ wr → h.get? b = some o → h'.get? b = some o
theorem Spares.fr {wr : List Addr} {h₀ h h' : Heap} {L : Addr} {m : Str → Option Value} (k : Spares wr h h') (F : Fr h₀ L h m) (hL : L ∉ wr) (hw : ∀ b ∈ wr, h₀.get? b = none) : Fr h₀ L h' m where
  ns := F.ns.at' fun o => k L o hL
  keep b o e := k b o (fun hb => by have := hw b hb; rw [e] at this; cases this) (F.keep b o e)
  above := F.above
theorem Spares.news {wr : List Addr} {h₀ h h' : Heap} {L : Addr} {l : List (Addr × Obj)} (k : Spares wr h h') (N : News h₀ L h l) (hl : ∀ p ∈ l, p.1 ∉ wr) : News h₀ L h' l :=
  fun p hp => And.intro (k _ _ (hl p hp) (N p hp).1) (N p hp).2
/-- a block's two new objects: the list `D` that it fills, the names' object `C` -/
structure Born (h h₁ : Heap) (D C : Addr) : Prop where
  geD : h.objs.size ≤ D
  geC : h.objs.size ≤ C
  apart : D ≠ C
  empty : h₁.get? D = some (lst [])
  old : Spares [] h h₁
theorem Born.offD {h h₁ : Heap} {D C b : Addr} (B : Born h h₁ D C) (hb : b < h.objs.size) : b ≠ D := fun e => Nat.lt_irrefl _ (Nat.lt_of_lt_of_le hb (e ▸ B.geD))
theorem Born.offC {h h₁ : Heap} {D C b : Addr} (B : Born h h₁ D C) (hb : b < h.objs.size) : b ≠ C := fun e => Nat.lt_irrefl _ (Nat.lt_of_lt_of_le hb (e ▸ B.geC))

section
variable {prog : Program} {w : World} {A : Around} {E : Value → Shared → Prop} {s : Shared} {h₀ : Heap} {L : Addr} {m : Str → Option Value} {env : Env}
theorem born {e : Expr} {scope : Scope} {cl : List (Str × Addr)} {it : Value} {RR : Value → Addr → Result → Shared → Prop} (hcell : ∀ y ∈ scope.names, y.2 ≠ .cell) (hkind : scope.kind = .function)
    (k : ∀ D C h₁ mC tk, Born s.heap h₁ D C → h₁.Ns C mC → codeAny (model prog w) A (.compStart e 0 it (.ref D) (compEnvC scope cl C env)) (RR (.ref D) C) { s with heap := h₁, toks := tk }) :
    wpAny (model prog w) A (newList []) (fun acc s₃ => wpAny (model prog w) A (newFunctionEnv scope env.globals cl [] env.qual none .none (some env))
      (fun ce s₄ => codeAny (model prog w) A (.compStart e 0 it acc { ce with scope := relabel scope env }) (RR acc ce.locals) s₄) E s₃) E s := by
  refine wpAny_newObj_type (wpAny_newFunctionEnv hcell (fun _ hy => nomatch hy) (fun h₁ hn hk => ?_) hkind)
  refine k s.heap.objs.size _ h₁ _ _ ⟨Nat.le_refl _, ?_, ?_, ?_, ?_⟩ hn
  · rw [Heap.size_push]; exact Nat.le_succ _
  · rw [Heap.size_push]; exact Nat.ne_of_lt (Nat.lt_succ_self _)
  · refine hk.extBut _ _ ?_ (Heap.get?_push_of_some _ (Heap.get?_push_size _ rfl))
    rw [Heap.size_push]; exact Nat.ne_of_lt (Nat.lt_succ_self _)
  · intro b o _ e
    refine hk.extBut _ _ ?_ (Heap.get?_push_of_some _ (Heap.get?_push_of_some _ e))
    rw [Heap.size_push]; exact Nat.ne_of_lt (Nat.lt_succ_of_lt (Heap.lt_size e))

/-- the block between two turns -/
def Mid (St : Nat → Heap → Prop) (G : Nat → Value → List (Addr × Obj) → Prop) (h₀ : Heap) (L : Addr) (m : Str → Option Value) (wr : List Addr) (news : List (Addr × Obj)) (C D : Addr) (s₂ : Shared) (i : Nat) (s' : Shared) : Prop :=
  ∃ h tk mC ys rows, s' = { s₂ with heap := h, toks := tk } ∧ ys.length = i ∧ St i h ∧ Fr h₀ L h m ∧ h.Ns C mC ∧ News h₀ L h ((D, lst ys) :: (news ++ rows)) ∧ (∀ p ∈ rows, p.1 ∉ C :: D :: wr) ∧ Built G i ys rows

def Unpacks (prog : Program) (w : World) (A : Around) (a b : Str) (pa pb tp : Pos) (kk : Nat) (P : Nat → Value → Heap → Prop) (B : Nat → Value → Value → Prop) : Prop :=
  ∀ i v (s : Shared) (cenv : Env) (m₁ : Str → Option Value) (Q : Unit → Shared → Prop) (E : Value → Shared → Prop), P i v s.heap → cenv.kindOf a = some .local → cenv.kindOf b = some .local →
      (cenv.scope.kind == .class || (cenv.scope.kind == .module && cenv.locals != cenv.globals)) = false → s.heap.Ns cenv.locals m₁ →
      (∀ h' tk x y, B i x y → h'.Ns cenv.locals (fun z => if z = b then some y else if z = a then some x else m₁ z) → (∀ c o, c ≠ cenv.locals → s.heap.get? c = some o → h'.get? c = some o) → Q () { s with heap := h', toks := tk }) →
      wpAny (model prog w) A (assign (.Tuple [.Name a pa, .Name b pb] kk tp) cenv v) Q E s

theorem turn_K {elt : Expr} {a b : Str} {pa pb tp : Pos} {kk : Nat} {scope : Scope} {cl : List (Str × Addr)} {s₂ s' : Shared} {I C D : Addr} {fp wr : List Addr} {n i : Nat} {P Md : Nat → Value → Heap → Prop} {St : Nat → Heap → Prop} {news : List (Addr × Obj)}
    {B : Nat → Value → Value → Prop} {G : Nat → Value → List (Addr × Obj) → Prop} {K R : Shared → Prop} {E1 E2 E3 E4 E5 : Value → Shared → Prop}
    (W : KTurns prog w A (.Tuple [.Name a pa, .Name b pb] kk tp) I fp wr n P Md St) (U : Unpacks prog w A a b pa pb tp kk P B) (live : ∀ i h, St i h → ∀ b ∈ wr, ∃ o, h.get? b = some o)
    (step : StepK prog w A h₀ L m env elt a b scope cl s₂ news n B G) (hkind : scope.kind = .function) (la : scope.names.lookup a = some .local) (lb : scope.names.lookup b = some .local) (ab : ¬ a = b)
    (nC : h₀.get? C = none) (nD : h₀.get? D = none) (nW : ∀ b ∈ wr, h₀.get? b = none) (cL : C ≠ L) (dL : D ≠ L) (dC : D ≠ C) (lF : L ∉ fp) (cF : C ∉ fp) (dF : D ∉ fp) (hnw : ∀ p ∈ news, p.1 ∉ C :: D :: wr) (hsz : n ≤ sizeLine)
    (hlt : i < n) (M : Mid St G h₀ L m wr news C D s₂ i s') (hK : ∀ z, Mid St G h₀ L m wr news C D s₂ (i + 1) z → K z) :
    wpAny (model prog w) A (pyNext (.ref I)) (fun r z => match r with
      | none => R z
      | some v => wpAny (model prog w) A (letOwnedTupleGo (.Tuple [.Name a pa, .Name b pb] kk tp) (.ref I) v) (fun _ z => wpAny (model prog w) A (assign (.Tuple [.Name a pa, .Name b pb] kk tp) (compEnvC scope cl C env) v) (fun _ z =>
          wpAny (model prog w) A (eval elt (compEnvC scope cl C env)) (fun x z => wpAny (model prog w) A (call (.builtin "list.append") [.ref D, x]) (fun _ z => K z) E5 z) E4 z) E3 z) E2 z) E1 s' := by
  obtain ⟨h, tk, mC, ys, rows, rfl, hyl, hst, F, nsC, N, hrows, hbt⟩ := M
  have cW : C ∉ wr := fun q => cF (W.sub _ q)
  have dW : D ∉ wr := fun q => dF (W.sub _ q)
  have all : ∀ p ∈ news ++ rows, p.1 ∉ C :: D :: wr := fun p hp => (List.mem_append.mp hp).elim (hnw p) (hrows p)
  refine W.item i _ _ _ hlt hst fun v ha tka hMd ka => W.go i v _ _ _ hMd fun hb hP stb kb => ?_
  refine U i v _ (compEnvC scope cl C env) mC _ _ hP (lookup_relabel_local la) (lookup_relabel_local lb) (by simp [compEnvC, relabel, hkind]) (nsC.at' fun o e => kb C o cW (ka C o cW e)) fun hc tkc x y hB nsc kc => ?_
  have sp : Spares (C :: wr) h hc := fun b o nb e => kc b o (fun q => nb (by rw [show b = C from q]; exact List.mem_cons_self)) (kb b o (fun q => nb (List.mem_cons_of_mem _ q)) (ka b o (fun q => nb (List.mem_cons_of_mem _ q)) e))
  have Fc : Fr h₀ L hc m := sp.fr F (fun q => (List.mem_cons.mp q).elim (fun e => cL e.symm) fun q => lF (W.sub _ q)) fun b q => (List.mem_cons.mp q).elim (fun e => e ▸ nC) (nW b)
  have stc : St (i + 1) hc := W.frame _ _ _ stb fun b q o e => kc b o (fun z => cF (by rw [show C = b from z.symm]; exact q)) e
  obtain ⟨oC, eC, hoC⟩ := ns_obj nsc
  have Nr : News h₀ L hc ((D, lst ys) :: (news ++ rows)) := sp.news N fun p hp => by
    rcases List.mem_cons.mp hp with q | q
    · rw [q]; exact fun z => (List.mem_cons.mp z).elim dC dW
    · exact fun z => all p q ((List.mem_cons.mp z).elim (fun e => by simp [e]) fun e => by simp [e])
  have Nc : News h₀ L hc ((C, oC) :: (D, lst ys) :: (news ++ (rows ++ PyProof.Rows.ownOf h₀ fp hc))) := fun p hp => by
    have own := news_ownOf (h₀ := h₀) (h := hc) lF p
    have rest := Nr p
    simp only [List.mem_cons, List.mem_append] at hp rest
    rcases hp with q | q | q | q | q
    · rw [q]; exact ⟨eC, cL, nC⟩
    · exact rest (.inl q)
    · exact rest (.inr (.inl q))
    · exact rest (.inr (.inr q))
    · exact own q
  refine wpAny_mono (step i x y C oC D _ ys (rows ++ PyProof.Rows.ownOf h₀ fp hc) hc _ _ hlt hB hoC (by simp [ab]) (by simp) Fc Nc) (fun v' z hz => ?_) fun _ _ e => e
  obtain ⟨hd, tkd, ex, rfl, Fd, Nd, gt, hG⟩ := hz
  have std : St (i + 1) hd := W.frame _ _ _ stc fun b q o e => by
    cases e0 : h₀.get? b with
    | none => exact (Nd (b, o) (by simp [mem_ownOf q e0 e])).1
    | some o' => rw [Fd.keep b o' e0, ← Fc.keep b o' e0, e]
  have eCd := (Nd (C, oC) (by simp)).1
  refine append_at (hsz := by rw [List.size_toArray, hyl]; exact Nat.le_trans (Nat.le_of_lt hlt) hsz) (Nd (D, lst ys) (by simp)).1 fun he hse eD => hK _ ?_
  have exOff : ∀ p ∈ ex, p.1 ∉ C :: D :: wr := fun p hp q => by
    rcases List.mem_cons.mp q with q | q
    · have := gt p hp (C, oC) (by simp); rw [q] at this; exact Nat.lt_irrefl _ this
    rcases List.mem_cons.mp q with q | q
    · have := gt p hp (D, lst ys) (by simp); rw [q] at this; exact Nat.lt_irrefl _ this
    · obtain ⟨o, ho⟩ := live _ _ stc _ q
      exact Nat.lt_irrefl _ (gt p hp (p.1, o) (by simp [mem_ownOf (W.sub _ q) (nW _ q) ho]))
  have nrOff : ∀ p ∈ ex ++ rows, p.1 ∉ C :: D :: wr := fun p hp => (List.mem_append.mp hp).elim (exOff p) (hrows p)
  refine ⟨he, tkd, _, ys ++ [v'], ex ++ rows, rfl, by simp [hyl], W.frame _ _ _ std fun b q o e => hse.extBut b o (fun z => dF (z ▸ q)) e, Fd.change hse dL nD, (hoC.ns eCd).sameBut hse (Ne.symm dC), fun p hp => ?_, nrOff, hbt.succ hG⟩
  rcases List.mem_cons.mp hp with q | q
  · rw [q]; exact ⟨eD.trans (congrArg some (lst_snoc ys v')), dL, nD⟩
  · have off : p.1 ≠ D := fun e => (List.mem_append.mp q).elim (fun q => hnw p q (by simp [e])) fun q => nrOff p q (by simp [e])
    have hin := Nd p (by
      simp only [List.mem_append] at q
      rcases q with q | q | q <;> simp [q])
    exact ⟨hse.extBut _ _ off hin.1, hin.2⟩

theorem block_K {elt iter : Expr} {a b : Str} {pa pb tp : Pos} {kk : Nat} {scope : Scope} {cl : List (Str × Addr)} {pos : Pos} {s₂ : Shared} {I : Addr} {fp wr : List Addr} {n : Nat} {P Md : Nat → Value → Heap → Prop} {St : Nat → Heap → Prop} {news : List (Addr × Obj)}
    {B : Nat → Value → Value → Prop} {G : Nat → Value → List (Addr × Obj) → Prop} {RR : Value → Addr → Result → Shared → Prop}
    (W : KTurns prog w A (.Tuple [.Name a pa, .Name b pb] kk tp) I fp wr n P Md St) (hsz : n ≤ sizeLine)
    (self : ∀ (s : Shared) (Q : Value → Shared → Prop) (E : Value → Shared → Prop), St 0 s.heap → Q (.ref I) s → wpAny (model prog w) A (pyIter (.ref I)) Q E s) (U : Unpacks prog w A a b pa pb tp kk P B)
    (live : ∀ i h, St i h → ∀ b ∈ wr, ∃ o, h.get? b = some o) (st0 : St 0 s₂.heap) (inF : ∀ b ∈ fp, b < s₂.heap.objs.size) (F : Fr h₀ L s₂.heap m) (N : News h₀ L s₂.heap news) (lF : L ∉ fp) (nW : ∀ b ∈ wr, h₀.get? b = none) (hnw : ∀ p ∈ news, p.1 ∉ wr)
    (step : StepK prog w A h₀ L m env elt a b scope cl s₂ news n B G) (hcell : ∀ y ∈ scope.names, y.2 ≠ .cell) (hkind : scope.kind = .function) (la : scope.names.lookup a = some .local) (lb : scope.names.lookup b = some .local) (ab : ¬ a = b)
    (back : ∀ D C h tk mC ys rows, Fr h₀ L h m → h.Ns C mC → News h₀ L h ((D, lst ys) :: (news ++ rows)) → C ≠ L → D ≠ C → h₀.get? C = none → (∀ p ∈ news ++ rows, p.1 ≠ C ∧ p.1 ≠ D) → Built G n ys rows → RR (.ref D) C (.ok .next) { s₂ with heap := h, toks := tk }) :
    wpAny (model prog w) A (newList []) (fun acc s₃ => wpAny (model prog w) A (newFunctionEnv scope env.globals cl [] env.qual none .none (some env))
      (fun ce s₄ => codeAny (model prog w) A (.compStart (.ListComp elt [⟨.Tuple [.Name a pa, .Name b pb] kk tp, iter, [], 0⟩] scope pos) 0 (.ref I) acc { ce with scope := relabel scope env }) (RR acc ce.locals) s₄) E s₃) E s₂ := by
  refine born hcell hkind fun D C h₁ mC tk₁ bo nsC => ?_
  have nC : h₀.get? C = none := ktu_new F bo.geC
  have nD : h₀.get? D = none := ktu_new F bo.geD
  have cL : C ≠ L := Ne.symm (bo.offC F.ns.lt)
  have dL : D ≠ L := Ne.symm (bo.offD F.ns.lt)
  have cF : C ∉ fp := fun q => bo.offC (inF _ q) rfl
  have dF : D ∉ fp := fun q => bo.offD (inF _ q) rfl
  have lW : L ∉ wr := fun q => lF (W.sub _ q)
  have off : ∀ p ∈ news, p.1 ∉ C :: D :: wr := fun p hp q => by
    have hp' := Heap.lt_size (N p hp).1
    rcases List.mem_cons.mp q with q | q
    · exact bo.offC hp' q
    rcases List.mem_cons.mp q with q | q
    · exact bo.offD hp' q
    · exact hnw p hp q
  have st1 : St 0 h₁ := W.frame _ _ _ st0 fun b _ o e => bo.old b o List.not_mem_nil e
  have M0 : Mid St G h₀ L m wr news C D s₂ 0 { s₂ with heap := h₁, toks := tk₁ } := by
    refine ⟨h₁, tk₁, mC, [], [], rfl, rfl, st1, bo.old.fr F List.not_mem_nil (fun _ q => nomatch q), nsC, ?_, (fun _ q => nomatch q), .zero⟩
    rw [List.append_nil]
    exact fun p hp => (List.mem_cons.mp hp).elim (fun q => by rw [q]; exact ⟨bo.empty, dL, nD⟩) fun q => bo.old.news N (fun _ _ => List.not_mem_nil) p q
  have run := kcp_loop (prog := prog) (w := w) (A := A) (elt := elt) (target := .Tuple [.Name a pa, .Name b pb] kk tp) (iter := iter) (scope := scope) (pos := pos) (it := .ref I) (acc := .ref D) (env := compEnvC scope cl C env) (R := RR (.ref D) C)
    (fun k z => ∃ i, i ≤ n ∧ k = n - i ∧ Mid St G h₀ L m wr news C D s₂ i z) (fun k z hz => by
      obtain ⟨i, hi, rfl, M⟩ := hz
      rcases Nat.lt_or_ge i n with hlt | hge
      · exact turn_K W U live step hkind la lb ab nC nD nW cL dL bo.apart lF cF dF off hsz hlt M fun z M' => ⟨n - (i + 1), by omega, i + 1, hlt, rfl, M'⟩
      · obtain rfl := Nat.le_antisymm hi hge
        obtain ⟨h, tk, mC', ys, rows, rfl, _, hst, F', ns', N', hrows, hbt⟩ := M
        have all : ∀ p ∈ news ++ rows, p.1 ∉ C :: D :: wr := fun p hp => (List.mem_append.mp hp).elim (off p) (hrows p)
        refine W.done _ _ _ hst fun h' tk' k' => ?_
        have k'' : Spares wr h h' := k'
        refine back D C h' tk' mC' ys rows (k''.fr F' lW nW) (ns'.at' fun o => k'' C o fun q => cF (W.sub _ q)) (k''.news N' fun p hp => ?_) cL bo.apart nC (fun p hp => ⟨fun e => all p hp (by simp [e]), fun e => all p hp (by simp [e])⟩) hbt
        rcases List.mem_cons.mp hp with q | q
        · rw [q]; exact fun z => dF (W.sub _ z)
        · exact fun z => all p q (by simp [z])) n ⟨0, Nat.zero_le _, rfl, M0⟩
  exact codeAny_compStart_list run (self _ _ _ st1 run)
theorem off1_of {D : Addr} : ∀ {l : List (Addr × Obj)}, (∀ p ∈ l, p.1 ≠ D) → Off1 D l
  | [], _ => trivial
  | p :: _, h => ⟨h p List.mem_cons_self, off1_of fun q hq => h q (List.mem_cons_of_mem _ hq)⟩

def SrcK (prog : Program) (w : World) (A : Around) (h₀ : Heap) (L : Addr) (m : Str → Option Value) (env : Env) (elt : Expr) (a b : Str) (pa pb tp : Pos) (kk : Nat) (scope : Scope) (cl : List (Str × Addr)) (Fin : Shared → List Value → List (Addr × Obj) → Prop) (it : Value) (s₂ : Shared) : Prop :=
  ∃ (I : Addr) (fp wr : List Addr) (n : Nat) (P Md : Nat → Value → Heap → Prop) (St : Nat → Heap → Prop) (news : List (Addr × Obj)) (B : Nat → Value → Value → Prop) (G : Nat → Value → List (Addr × Obj) → Prop),
    it = .ref I ∧ KTurns prog w A (.Tuple [.Name a pa, .Name b pb] kk tp) I fp wr n P Md St ∧ n ≤ sizeLine ∧
    (∀ (s : Shared) (Q : Value → Shared → Prop) (E : Value → Shared → Prop), St 0 s.heap → Q (.ref I) s → wpAny (model prog w) A (pyIter (.ref I)) Q E s) ∧
    (∀ i v (s : Shared) (cenv : Env) (m₁ : Str → Option Value) (Q : Unit → Shared → Prop) (E : Value → Shared → Prop), P i v s.heap → cenv.kindOf a = some .local → cenv.kindOf b = some .local →
      (cenv.scope.kind == .class || (cenv.scope.kind == .module && cenv.locals != cenv.globals)) = false → s.heap.Ns cenv.locals m₁ →
      (∀ h' tk x y, B i x y → h'.Ns cenv.locals (fun z => if z = b then some y else if z = a then some x else m₁ z) → (∀ c o, c ≠ cenv.locals → s.heap.get? c = some o → h'.get? c = some o) → Q () { s with heap := h', toks := tk }) →
      wpAny (model prog w) A (assign (.Tuple [.Name a pa, .Name b pb] kk tp) cenv v) Q E s) ∧
    (∀ i h, St i h → ∀ b ∈ wr, ∃ o, h.get? b = some o) ∧ St 0 s₂.heap ∧ (∀ b ∈ fp, b < s₂.heap.objs.size) ∧ Fr h₀ L s₂.heap m ∧ News h₀ L s₂.heap news ∧ L ∉ fp ∧ (∀ b ∈ wr, h₀.get? b = none) ∧ (∀ p ∈ news, p.1 ∉ wr) ∧
    StepK prog w A h₀ L m env elt a b scope cl s₂ news n B G ∧ (∀ ys tl, Built G n ys tl → Fin s₂ ys (news ++ tl))

theorem ListComp_K {elt iter : Expr} {a b : Str} {pa pb tp : Pos} {kk : Nat} {scope : Scope} {cl : List (Str × Addr)} {pos : Pos} {Q : Value → Shared → Prop} (_F₀ : Fr h₀ L s.heap m)
    (hclos : closureFor scope env = pure cl) (hcell : ∀ y ∈ scope.names, y.2 ≠ .cell) (hkind : scope.kind = .function) (hnames : ∀ y ∈ scope.names, y.2 = .local → scope.names.lookup y.1 = some .local)
    (la : scope.names.lookup a = some .local) (lb : scope.names.lookup b = some .local) (ab : ¬ a = b)
    (src : wpAny (model prog w) A (eval iter env) (fun v z => wpAny (model prog w) A (pyIter v) (SrcK prog w A h₀ L m env elt a b pa pb tp kk scope cl (fun z => FinE h₀ L m z Q)) E z) E s)
    (plain : ∀ x, foldedSetIterable iter env x = pure x := by intro _; rfl) :
    wpAny (model prog w) A (eval (.ListComp elt [⟨.Tuple [.Name a pa, .Name b pb] kk tp, iter, [], 0⟩] scope pos) env) Q E s := by
  have inner : ∀ it z, SrcK prog w A h₀ L m env elt a b pa pb tp kk scope cl (fun z => FinE h₀ L m z Q) it z →
      wpAny (model prog w) A (newList []) (fun acc s₃ => wpAny (model prog w) A (newFunctionEnv scope env.globals cl [] env.qual none .none (some env))
        (fun ce s₄ => codeAny (model prog w) A (.compStart (.ListComp elt [⟨.Tuple [.Name a pa, .Name b pb] kk tp, iter, [], 0⟩] scope pos) 0 it acc { ce with scope := relabel scope env }) (compPost (model prog w) A E none Q acc ce.locals) s₄) E s₃) E z := by
    rintro it z ⟨I, fp, wr, n, P, Md, St, news, B, G, rfl, W, hsz, self, U, live, st0, inF, F, N, lF, nW, hnw, step, fin⟩
    refine block_K W hsz self U live st0 inF F N lF nW hnw step hcell hkind la lb ab fun D C h tk mC ys rows F' ns' N' cL dC nC off hbt => ⟨mC, ns', fun h' hk => ?_⟩
    refine fin ys rows hbt D h' tk (F'.change hk cL nC) (fun p hp => ⟨hk.extBut _ _ ?_ (N' p hp).1, (N' p hp).2⟩) (off1_of fun p hp => (off p hp).2)
    exact (List.mem_cons.mp hp).elim (fun q => by rw [q]; exact dC) fun q => (off p q).1
  rw [eval_ListComp]
  exact wpAny_comprehension_free (use := none) rfl plain hclos hkind hnames (wpAny_mono src (fun v z hz => wpAny_mono hz (fun it z' hz' => inner it z' hz') fun _ _ e => e) fun _ _ e => e)
end
end Mine
end
section
open PySem PySem.W PySem.Calls PyProof.Rows PyProof.Rows.LCg PySem.Spec PyProof.V
set_option maxRecDepth 100000
namespace Mine
section
variable {prog : Program} {w : World} {A : Around} {E : Value → Shared → Prop} {s : Shared} {h₀ : Heap} {L : Addr} {m : Str → Option Value} {env : Env}

theorem zip_src {elt : Expr} {a b : Str} {pa pb tp : Pos} {kk : Nat} {scope : Scope} {cl : List (Str × Addr)} {Fin : Shared → List Value → List (Addr × Obj) → Prop} {l1 l2 : Addr} {xs ys : List Value} {n1 n2 n : Nat} {news : List (Addr × Obj)} {B : Nat → Value → Value → Prop} {G : Nat → Value → List (Addr × Obj) → Prop}
    (hh : A.handled = none) (F : Fr h₀ L s.heap m) (N : News h₀ L s.heap news) (hm1 : (l1, listOf xs.toArray n1) ∈ news) (hm2 : (l2, listOf ys.toArray n2) ∈ news) (hx : xs.length = n) (hy : ys.length = n) (hsz : n ≤ sizeLine)
    (hB : ∀ i x y, xs[i]? = some x → ys[i]? = some y → B i x y)
    (step : ∀ h, StepK prog w A h₀ L m env elt a b scope cl { s with heap := h } news n B G) (fin : ∀ h ys tl, Built G n ys tl → Fin { s with heap := h } ys (news ++ tl)) :
    wpAny (model prog w) A (call (.type "zip") [.ref l1, .ref l2]) (fun xv s₁ => wpAny (model prog w) A (pyIter xv) (SrcK prog w A h₀ L m env elt a b pa pb tp kk scope cl Fin) E s₁) E s := by
  have hax1 := N _ hm1
  have hax2 := N _ hm2
  have hl1 : s.heap.IsList l1 xs.toArray := ⟨_, hax1.1, rfl, n1, rfl⟩
  have hl2 : s.heap.IsList l2 ys.toArray := ⟨_, hax2.1, rfl, n2, rfl⟩
  have hlt1 : l1 < s.heap.objs.size := Heap.lt_size hax1.1
  have hlt2 : l2 < s.heap.objs.size := Heap.lt_size hax2.1
  have hLs : L < s.heap.objs.size := F.ns.lt
  have D : ZipApart (s.heap.objs.size + 4) (s.heap.objs.size + 2) (s.heap.objs.size + 3) s.heap.objs.size (s.heap.objs.size + 1) l1 l2 := ktu_apart _ _ _ hlt1 hlt2
  refine call_zip_2 hl1 hl2 fun h' hz hTI hTO hi1 hi2 hsz' hk => ?_
  refine wpAny_pyIter_zip hz ?_
  have W := KTurns.ofWalksU (elts := [.Name a pa, .Name b pb]) (k := kk) (pos := tp) (WalksT.zip2 (prog := prog) (w := w) hh _ _ _ _ _ _ _ D xs.toArray ys.toArray).toU
  have hn : min xs.toArray.size ys.toArray.size = n := by simp [hx, hy]
  rw [hn] at W
  refine ⟨_, _, _, n, _, _, _, news, B, G, rfl, W, hsz, ?_, ?_, ?_, ?_, ?_, F.keeps hk, N.grown hk, ?_, ?_, ?_, step h', fin h'⟩
  · exact fun s Q E hst hq => wpAny_pyIter_zip hst.1 hq
  · rintro i v s cenv m₁ Q E ⟨T, vals, rfl, ⟨x, y, hx', hy', rfl⟩, hT⟩ ha hb hp hns hQ
    refine kcp_assign hh hT ha hb hp hns fun h' tk hn' hk' => hQ h' tk x y (hB i x y (by simpa using hx') (by simpa using hy')) hn' hk'
  · rintro i h ⟨hz, hTI, ⟨a, b, hTO⟩, ⟨o1, ho1, hc1, _⟩, ⟨o2, ho2, hc2, _⟩, _⟩ c hc
    have hc' : c = s.heap.objs.size + 4 ∨ c = s.heap.objs.size + 3 ∨ c = s.heap.objs.size ∨ c = s.heap.objs.size + 1 := by simpa using hc
    rcases hc' with rfl | rfl | rfl | rfl
    · exact ⟨_, hz⟩
    · exact ⟨_, hTO⟩
    · exact ⟨_, ho1⟩
    · exact ⟨_, ho2⟩
  · exact ⟨hz, hTI, ⟨_, _, hTO⟩, hi1, hi2, hl1.at fun o e => hk _ o e, hl2.at fun o e => hk _ o e⟩
  · intro c hc
    have hc' : c = s.heap.objs.size + 4 ∨ c = s.heap.objs.size + 2 ∨ c = s.heap.objs.size + 3 ∨ c = s.heap.objs.size ∨ c = s.heap.objs.size + 1 ∨ c = l1 ∨ c = l2 := by simpa using hc
    show c < h'.objs.size
    rw [hsz']
    rcases hc' with rfl | rfl | rfl | rfl | rfl | rfl | rfl
    · exact Nat.add_lt_add_left (by decide) _
    · exact Nat.add_lt_add_left (by decide) _
    · exact Nat.add_lt_add_left (by decide) _
    · exact Nat.lt_add_of_pos_right (by decide)
    · exact Nat.add_lt_add_left (by decide) _
    · exact Nat.lt_of_lt_of_le hlt1 (Nat.le_add_right _ _)
    · exact Nat.lt_of_lt_of_le hlt2 (Nat.le_add_right _ _)
  · intro hI'
    have hb' : L = s.heap.objs.size + 4 ∨ L = s.heap.objs.size + 2 ∨ L = s.heap.objs.size + 3 ∨ L = s.heap.objs.size ∨ L = s.heap.objs.size + 1 ∨ L = l1 ∨ L = l2 := by simpa using hI'
    have n1 := hax1.2.1
    have n2 := hax2.2.1
    rcases hb' with e | e | e | e | e | e | e
    · exact ktu_ne 4 hLs e
    · exact ktu_ne 2 hLs e
    · exact ktu_ne 3 hLs e
    · exact Nat.ne_of_lt hLs e
    · exact ktu_ne 1 hLs e
    · exact n1 e.symm
    · exact n2 e.symm
  · intro c hc
    have hc' : c = s.heap.objs.size + 4 ∨ c = s.heap.objs.size + 3 ∨ c = s.heap.objs.size ∨ c = s.heap.objs.size + 1 := by simpa using hc
    rcases hc' with rfl | rfl | rfl | rfl
    · exact ktu_new F (Nat.le_add_right _ _)
    · exact ktu_new F (Nat.le_add_right _ _)
    · exact ktu_new F (Nat.le_refl _)
    · exact ktu_new F (Nat.le_add_right _ _)
  · intro p hp hc
    have hc' : p.1 = s.heap.objs.size + 4 ∨ p.1 = s.heap.objs.size + 3 ∨ p.1 = s.heap.objs.size ∨ p.1 = s.heap.objs.size + 1 := by simpa using hc
    have hlp := Heap.lt_size (N p hp).1
    rcases hc' with e | e | e | e
    · exact ktu_ne 4 hlp e
    · exact ktu_ne 3 hlp e
    · exact Nat.ne_of_lt hlp e
    · exact ktu_ne 1 hlp e

def addrOf : Value → Option Addr
  | .ref T => some T
  | _ => none

/-- two names of a block's own are stored, one behind the other -/
theorem two_names {ce : Env} {a b : Str} {pa pb : Pos} {x y : Value} {mC : Str → Option Value} {Q : Unit → Shared → Prop} (ka : ce.kindOf a = some .local) (kb : ce.kindOf b = some .local) (kn : (ce.scope.kind == .class || (ce.scope.kind == .module && ce.locals != ce.globals)) = false) (ns : s.heap.Ns ce.locals mC)
    (k : ∀ h' tk, h'.Ns ce.locals (fun z => if z = b then some y else if z = a then some x else mC z) → Spares [ce.locals] s.heap h' → Q () { s with heap := h', toks := tk }) :
    wpAny (model prog w) A (assignInOrder [assign (.Name a pa) ce, assign (.Name b pb) ce] [x, y]) Q E s :=
  assignInOrder_cons (wpAny_assign_Name (wpAny_storeName_local ka ns (fun _ n1 s1 =>
    assignInOrder_cons (wpAny_assign_Name (wpAny_storeName_local kb n1 (fun g n2 s2 =>
      assignInOrder_nil (k g _ n2 fun c o nc e => s2.extBut c o (fun q => nc (by simp [q])) (s1.extBut c o (fun q => nc (by simp [q])) e))) kn))) kn))
theorem asg_list {cenv : Env} {a b : Str} {pa pb tp : Pos} {kk : Nat} {T : Addr} {x y : Value} {m₁ : Str → Option Value} {Q : Unit → Shared → Prop} (hh : A.handled = none) (ht : s.heap.IsList T #[x, y])
    (ha : cenv.kindOf a = some .local) (hb : cenv.kindOf b = some .local) (hp : (cenv.scope.kind == .class || (cenv.scope.kind == .module && cenv.locals != cenv.globals)) = false) (hn : s.heap.Ns cenv.locals m₁)
    (h : ∀ (h' : Heap) (tk : Nat), h'.Ns cenv.locals (fun z => if z = b then some y else if z = a then some x else m₁ z) → (∀ c o, c ≠ cenv.locals → s.heap.get? c = some o → h'.get? c = some o) → Q () { s with heap := h', toks := tk }) :
    wpAny (model prog w) A (assign (.Tuple [.Name a pa, .Name b pb] kk tp) cenv (.ref T)) Q E s := by
  rw [assign_Tuple]
  unfold unpack
  refine wpAny_bind (wpAny_standAt (wpAny_bind (wpAny_holding (kun_itemsOf (items := #[x, y]) hh ht fun g eg => ?_))))
  have low : ∀ c o, s.heap.get? c = some o → g.get? c = some o := fun c o e => eg c o (Nat.ne_of_lt (Heap.lt_size e)) e
  exact two_names ha hb hp (hn.at' fun o e => low _ o e) fun h' tk ns sp => h h' tk ns fun c o nc e => sp c o (by simpa using nc) (low c o e)

theorem lol_turns {elts : List Expr} {k : Nat} {pos : Pos} {I ax : Addr} {items : Array Value} {ps : List (Int × Int)} (hh : A.handled = none) (hne : ax ≠ I) (hlen : items.size = ps.length) (hTI : ∀ (j : Nat) (T : Addr), items[j]? = some (Value.ref T) → T ≠ I) :
    KTurns prog w A (.Tuple elts k pos) I (I :: ax :: items.toList.filterMap addrOf) [I] ps.length
      (fun i v h => ∃ p T ta tb, ps[i]? = some p ∧ v = Value.ref T ∧ h.IsList T #[.int p.1 ta, .int p.2 tb])
      (fun i v h => (∃ p T ta tb, ps[i]? = some p ∧ v = Value.ref T ∧ h.IsList T #[.int p.1 ta, .int p.2 tb]) ∧ h.IsListIter I ax (i + 1) ∧ h.IsList ax items ∧ ∀ (j : Nat) (p : Int × Int), ps[j]? = some p → ∃ T ta tb, items[j]? = some (Value.ref T) ∧ h.IsList T #[.int p.1 ta, .int p.2 tb])
      (fun i h => h.IsListIter I ax i ∧ h.IsList ax items ∧ ∀ (j : Nat) (p : Int × Int), ps[j]? = some p → ∃ T ta tb, items[j]? = some (Value.ref T) ∧ h.IsList T #[.int p.1 ta, .int p.2 tb]) where
  sub := fun b hb => by simp at hb; simp [hb]
  frame := fun i h h' st hk => ⟨st.1.at fun o e => hk I (by simp) o e, st.2.1.at fun o e => hk ax (by simp) o e, fun j p hp => by
    obtain ⟨T, ta, tb, e, hl⟩ := st.2.2 j p hp
    refine ⟨T, ta, tb, e, hl.at fun o q => hk T ?_ o q⟩
    refine List.mem_cons_of_mem _ (List.mem_cons_of_mem _ (List.mem_filterMap.mpr ⟨.ref T, ?_, rfl⟩))
    exact List.mem_of_getElem? (i := j) (by simpa using e)⟩
  item := fun i s Q E hi st hQ => by
    obtain ⟨p, hp⟩ : ∃ p, ps[i]? = some p := ⟨ps[i], by simp [hi]⟩
    obtain ⟨T, ta, tb, e, hl⟩ := st.2.2 i p hp
    refine wpAny_pyNext_list_item st.1 st.2.1 (x := .ref T) e fun h' hit' hs' => ?_
    refine hQ _ h' s.toks ⟨⟨p, T, ta, tb, hp, rfl, hl.extBut hs'.extBut (hTI i T e)⟩, hit', st.2.1.extBut hs'.extBut hne, fun j p hp => ?_⟩ fun b o hb e => hs'.extBut b o (fun h => hb (by simp [h])) e
    obtain ⟨T, ta, tb, e, hl⟩ := st.2.2 j p hp
    exact ⟨T, ta, tb, e, hl.extBut hs'.extBut (hTI j T e)⟩
  go := fun i v s Q E hm hQ => by
    obtain ⟨⟨p, T, ta, tb, hp, rfl, hl⟩, st⟩ := hm
    exact wpAny_letOwnedTupleGo_listiter st.1 (hQ s.heap ⟨p, T, ta, tb, hp, rfl, hl⟩ st fun _ _ _ e => e)
  done := fun s Q E st hQ => wpAny_pyNext_list_end hh st.1 st.2.1 (by simp [hlen]) fun h' he' => hQ h' s.toks fun b o hb e => he' b o (fun h => hb (by simp [h])) e

theorem lol_src {elt : Expr} {a b : Str} {pa pb tp : Pos} {kk : Nat} {scope : Scope} {cl : List (Str × Addr)} {Fin : Shared → List Value → List (Addr × Obj) → Prop} {ax : Addr} {its : List Value} {ps : List (Int × Int)} {n1 : Nat} {news : List (Addr × Obj)} {G : Nat → Value → List (Addr × Obj) → Prop}
    (hh : A.handled = none) (F : Fr h₀ L s.heap m) (N : News h₀ L s.heap news) (hm1 : (ax, listOf its.toArray n1) ∈ news) (R : RowsAre news its ps) (hsz : ps.length ≤ sizeLine)
    (step : ∀ h, StepK prog w A h₀ L m env elt a b scope cl { s with heap := h } news ps.length (fun i x y => ∃ p ta tb, ps[i]? = some p ∧ x = Value.int p.1 ta ∧ y = Value.int p.2 tb) G) (fin : ∀ h ys tl, Built G ps.length ys tl → Fin { s with heap := h } ys (news ++ tl)) :
    wpAny (model prog w) A (pyIter (.ref ax)) (SrcK prog w A h₀ L m env elt a b pa pb tp kk scope cl Fin) E s := by
  have hax := N _ hm1
  have hl : s.heap.IsList ax its.toArray := ⟨_, hax.1, rfl, n1, rfl⟩
  have hlt : ax < s.heap.objs.size := Heap.lt_size hax.1
  have hLs : L < s.heap.objs.size := F.ns.lt
  have hlen : its.toArray.size = ps.length := by simpa using R.length
  have row : ∀ (j : Nat) (T : Addr), its.toArray[j]? = some (Value.ref T) → ∃ o, (T, o) ∈ news := fun j T e => by
    have hj : j < ps.length := by
      rw [← hlen]
      have := (Array.getElem?_eq_some_iff.mp e).1
      exact this
    obtain ⟨T', n, ta, tb, e', hm⟩ := R.get j ps[j] (by simp [hj])
    have : T' = T := by
      have q : its[j]? = some (Value.ref T) := by simpa using e
      rw [q] at e'; cases e'; rfl
    exact ⟨_, this ▸ hm⟩
  refine wpAny_pyIter_list hl ?_
  have up : ∀ b o, s.heap.get? b = some o → (s.heap.push { cls := .type "list_iterator", data := .fields #[.ref ax, .int 0 0] }).get? b = some o := fun b o e => Heap.get?_push_of_some _ e
  refine ⟨s.heap.objs.size, _, _, _, _, _, _, news, _, G, rfl, lol_turns (ax := ax) (items := its.toArray) (ps := ps) hh (Nat.ne_of_lt hlt) hlen (fun j T e => ?_), hsz, ?_, ?_, ?_, ?_, ?_, F.keeps up, N.grown up, ?_, ?_, ?_, step _, fin _⟩
  · obtain ⟨o, hm⟩ := row j T e
    exact Nat.ne_of_lt (Heap.lt_size (N _ hm).1)
  · exact fun s Q E hst hq => wpAny_pyIter_listiter hst.1 hq
  · rintro i v s cenv m₁ Q E ⟨p, T, ta, tb, hp', rfl, hT⟩ ha hb hp hns hQ
    exact asg_list hh hT ha hb hp hns fun h' tk hn' hk' => hQ h' tk _ _ ⟨p, ta, tb, hp', rfl, rfl⟩ hn' hk'
  · intro i h hst c hc
    have : c = s.heap.objs.size := by simpa using hc
    subst this
    obtain ⟨o, e, _⟩ := hst.1
    exact ⟨o, e⟩
  · refine ⟨⟨_, Heap.get?_push_size _ rfl, rfl, rfl⟩, hl.push _, fun j p hp => ?_⟩
    obtain ⟨T, n, ta, tb, e, hm⟩ := R.get j p hp
    exact ⟨T, ta, tb, by simpa using e, _, up _ _ (N _ hm).1, rfl, n, rfl⟩
  · intro c hc
    show c < (s.heap.push _).objs.size
    rw [Heap.size_push]
    rcases List.mem_cons.mp hc with rfl | hc
    · exact Nat.lt_succ_self _
    · rcases List.mem_cons.mp hc with rfl | hc
      · exact Nat.lt_succ_of_lt hlt
      · obtain ⟨v, hv, e⟩ := List.mem_filterMap.mp hc
        cases v with
        | ref T =>
          cases e
          obtain ⟨j, hj⟩ := List.getElem?_of_mem hv
          obtain ⟨o, hm⟩ := row j _ (by simpa using hj)
          exact Nat.lt_succ_of_lt (Heap.lt_size (N _ hm).1)
        | _ => cases e
  · intro hc
    rcases List.mem_cons.mp hc with e | hc
    · exact Nat.ne_of_lt hLs e
    · rcases List.mem_cons.mp hc with e | hc
      · exact hax.2.1 e.symm
      · obtain ⟨v, hv, e⟩ := List.mem_filterMap.mp hc
        cases v with
        | ref T =>
          cases e
          obtain ⟨j, hj⟩ := List.getElem?_of_mem hv
          obtain ⟨o, hm⟩ := row j _ (by simpa using hj)
          exact (N _ hm).2.1 rfl
        | _ => cases e
  · intro c hc
    have : c = s.heap.objs.size := by simpa using hc
    subst this
    exact next_is_new F
  · intro p hp hc
    have : p.1 = s.heap.objs.size := by simpa using hc
    exact Nat.ne_of_lt (Heap.lt_size (N p hp).1) this
end
end Mine
end
section
open PySem PySem.W PySem.Calls PyProof.Rows PyProof.Rows.LCg PySem.Spec PyProof.V
set_option maxRecDepth 100000
namespace Mine

def RowG (ps : List (Int × Int)) (i : Nat) (v : Value) (ex : List (Addr × Obj)) : Prop := ∃ T n ta tb p, ps[i]? = some p ∧ v = Value.ref T ∧ ex = [(T, listOf #[Value.int p.1 ta, Value.int p.2 tb] n)]
theorem built_rows {ps : List (Int × Int)} : ∀ {n : Nat} {ys : List Value} {tl : List (Addr × Obj)}, Built (RowG ps) n ys tl → RowsAre tl ys (ps.take n) := by
  intro n ys tl h
  induction h with
  | zero => simp only [List.take_zero]; trivial
  | succ hb hg ih =>
    obtain ⟨T, nn, ta, tb, p, hp, rfl, rfl⟩ := hg
    rw [List.take_add_one, hp]
    simp only [Option.toList_some]
    exact (ih.mono fun q hq => List.mem_append_right _ hq).snoc ⟨T, nn, ta, tb, rfl, by simp⟩
theorem built_seq {ps : List (Int × Int)} : ∀ {n : Nat} {ys : List Value} {tl : List (Addr × Obj)}, Built (RowG ps) n ys tl → AllSeq tl := by
  intro n ys tl h
  induction h with
  | zero => exact fun _ h => nomatch h
  | succ hb hg ih =>
    obtain ⟨T, nn, ta, tb, p, hp, rfl, rfl⟩ := hg
    intro q hq
    rcases List.mem_append.mp hq with h | h
    · rw [List.mem_singleton.mp h]; exact ⟨_, _, rfl⟩
    · exact ih q h
def IntG (ns : List Int) (i : Nat) (v : Value) (ex : List (Addr × Obj)) : Prop := ∃ k t, ns[i]? = some k ∧ v = Value.int k t ∧ ex = []
theorem built_ints {ns : List Int} : ∀ {n : Nat} {ys : List Value} {tl : List (Addr × Obj)}, Built (IntG ns) n ys tl → IntsAre ys (ns.take n) ∧ tl = [] := by
  intro n ys tl h
  induction h with
  | zero => exact ⟨by simp only [List.take_zero]; exact .nil, rfl⟩
  | succ hb hg ih =>
    obtain ⟨k, t, hk, rfl, rfl⟩ := hg
    rw [List.take_add_one, hk]
    exact ⟨by simpa using IntsAre.append ih.1 (.cons k t .nil), by simp [ih.2]⟩

section
variable {prog : Program} {w : World} {A : Around} {E : Value → Shared → Prop} {s : Shared} {h₀ : Heap} {L : Addr} {m : Str → Option Value} {env : Env}
theorem allLt_mem {d : Nat} {l : List (Addr × Obj)} (h : AllLt d l) : ∀ p ∈ l, p.1 < d := by
  induction l with
  | nil => intro p hp; cases hp
  | cons q r ih =>
    intro p hp
    rcases List.mem_cons.mp hp with e | e
    · rw [e]; exact h.1
    · exact ih h.2 p e
theorem endK_row {C D T : Addr} {oC oD : Obj} {news tl : List (Addr × Obj)} {a b : Int} {ta tb : Tok} {n i : Nat} {h' : Heap} {tk : Nat} {s₁ : Shared} {ps : List (Int × Int)}
    (F : Fr h₀ L h' m) (N : News h₀ L h' ((T, listOf [Value.int a ta, Value.int b tb].toArray n) :: (C, oC) :: (D, oD) :: (news ++ tl))) (lt : AllLt T ((C, oC) :: (D, oD) :: (news ++ tl))) (hp : ps[i]? = some (a, b)) :
    EndK h₀ L m s₁ C oC D oD news tl (RowG ps i) (.ref T) { s₁ with heap := h', toks := tk } :=
  ⟨h', tk, [(T, listOf #[Value.int a ta, Value.int b tb] n)], rfl, F, N, fun p hp q hq => by rw [List.mem_singleton.mp hp]; exact allLt_mem lt q hq, T, n, ta, tb, (a, b), hp, rfl, rfl⟩
theorem endK_int {C D : Addr} {oC oD : Obj} {news tl : List (Addr × Obj)} {a : Int} {ta : Tok} {i : Nat} {h' : Heap} {tk : Nat} {s₁ : Shared} {ns : List Int}
    (F : Fr h₀ L h' m) (N : News h₀ L h' ((C, oC) :: (D, oD) :: (news ++ tl))) (hp : ns[i]? = some a) :
    EndK h₀ L m s₁ C oC D oD news tl (IntG ns i) (.int a ta) { s₁ with heap := h', toks := tk } :=
  ⟨h', tk, [], rfl, F, N, (fun _ h => nomatch h), a, ta, hp, rfl, rfl⟩

def BI (as bs : List Int) (i : Nat) (x y : Value) : Prop := ∃ a b ta tb, as[i]? = some a ∧ bs[i]? = some b ∧ x = Value.int a ta ∧ y = Value.int b tb
theorem zip_ints {elt : Expr} {a b : Str} {pa pb tp : Pos} {kk : Nat} {scope : Scope} {cl : List (Str × Addr)} {Fin : Shared → List Value → List (Addr × Obj) → Prop} {l1 l2 : Addr} {xs ys : List Value} {as bs : List Int} {n1 n2 n : Nat} {news : List (Addr × Obj)} {G : Nat → Value → List (Addr × Obj) → Prop}
    (hh : A.handled = none) (F : Fr h₀ L s.heap m) (N : News h₀ L s.heap news) (hm1 : (l1, listOf xs.toArray n1) ∈ news) (hm2 : (l2, listOf ys.toArray n2) ∈ news) (hx : xs.length = n) (hy : ys.length = n) (hsz : n ≤ sizeLine)
    (ia : IntsAre xs as) (ib : IntsAre ys bs)
    (step : ∀ h, StepK prog w A h₀ L m env elt a b scope cl { s with heap := h } news n (BI as bs) G) (fin : ∀ h ys tl, Built G n ys tl → Fin { s with heap := h } ys (news ++ tl)) :
    wpAny (model prog w) A (call (.type "zip") [.ref l1, .ref l2]) (fun xv s₁ => wpAny (model prog w) A (pyIter xv) (SrcK prog w A h₀ L m env elt a b pa pb tp kk scope cl Fin) E s₁) E s :=
  zip_src hh F N hm1 hm2 hx hy hsz (fun i x y hx hy => by
    obtain ⟨k, t, e, hk⟩ := IntsAre.at ia i x hx
    obtain ⟨k', t', e', hk'⟩ := IntsAre.at ib i y hy
    exact ⟨k, k', t, t', hk, hk', e, e'⟩) step fin
end

def stepsL (lf : Bool) : List Int := if lf then [0, 3, 4, 0, 2, 5, 0, 3, 6, 1, 4, 6] else [0, 3, 3, 6, 1, 4, 6, 2, 5, 0, 3, 5]
def sizesL (lf : Bool) : List Int := [31, if lf then 29 else 28, 31, 30, 31, 30, 31, 31, 30, 31, 30, 31]
def plainL (st : Int) (lf : Bool) : List (Int × Int) := List.zipWith (fun a b => ((st + a).fmod 7, b)) (stepsL lf) (sizesL lf)
theorem plainL_get {st : Int} {lf : Bool} {i : Nat} {a b : Int} (ha : (stepsL lf)[i]? = some a) (hb : (sizesL lf)[i]? = some b) : (plainL st lf)[i]? = some ((st + a).fmod 7, b) := by
  simp [plainL, List.getElem?_zipWith, ha, hb]
theorem plainL_len (st : Int) (lf : Bool) : (plainL st lf).length = 12 := by cases lf <;> rfl
end Mine
end
section
open PySem PySem.W PySem.Calls PyProof.Rows PyProof.Rows.LCg PySem.Spec PyProof.V
set_option maxRecDepth 100000
namespace Mine
def constsOf : List Expr → Option (List Int)
  | [] => some []
  | .Constant (.int n) _ _ :: r => (constsOf r).map (n :: ·)
  | _ => none
theorem spliced_consts {M : Model} {A : Around} {E : Value → Shared → Prop} {env : Env} {pos : Pos} : ∀ (elts : List Expr) (ns : List Int) (s : Shared) (Q : List Value → Shared → Prop), constsOf elts = some ns →
    (∀ vs tk, IntsAre vs ns → Q vs { s with toks := tk }) → wpAny M A (spliced (backTo pos (starEach elts env))) Q E s
  | [], ns, s, Q, hc, h => by
    cases hc
    exact spliced_none (h [] s.toks .nil)
  | e :: r, ns, s, Q, hc, h => by
    unfold constsOf at hc
    split at hc
    · rename_i e1; cases e1
    · rename_i n k p r' e1
      cases e1
      cases hr : constsOf r with
      | none => rw [hr] at hc; cases hc
      | some ns' =>
        rw [hr] at hc
        cases hc
        refine spliced_more (wpAny_Constant_int ?_)
        exact spliced_consts r ns' _ _ hr fun vs tk hi => h (.int n s.toks :: vs) tk (.cons n s.toks hi)
    · cases hc
theorem spliced_consts2 {M : Model} {A : Around} {E : Value → Shared → Prop} {env : Env} {pos : Pos} {e1 e2 : Expr} {r : List Expr} {ns : List Int} {s : Shared} {Q : List Value → Shared → Prop} (hc : constsOf (e1 :: e2 :: r) = some ns)
    (h : ∀ vs tk, IntsAre vs ns → vs.length = ns.length → Q vs { s with toks := tk }) : wpAny M A (spliced (backTo pos (starEach (e1 :: e2 :: r) env))) Q E s :=
  spliced_consts _ ns s Q hc fun vs tk hi => h vs tk hi hi.length
theorem allLt_ne {d : Nat} {l : List (Addr × Obj)} (h : AllLt d l) : ∀ p ∈ l, @Ne Nat p.1 d := fun p hp => Nat.ne_of_lt (allLt_mem h p hp)
theorem lt_ne_all {d : Addr} {l : List (Addr × Obj)} (h : ∀ p ∈ l, p.1 < d) : ∀ p ∈ l, p.1 ≠ d := fun p hp => Nat.ne_of_lt (h p hp)
end Mine
end
section
open PySem PySem.W PySem.Calls PyProof.Rows PyProof.Rows.LCg PySem.Spec PyProof.V
set_option maxRecDepth 100000
namespace Mine
def RIL (D : Addr) (rest : List (Addr × Obj)) (x y : Str) (m₀ : Str → Option Value) (st : Nat × Int × List Int) (m : Str → Option Value) (nx : List (Addr × Obj)) : Prop :=
  (∃ vs nn, nx = (D, listOf vs.toArray nn) :: rest ∧ IntsAre vs st.2.2) ∧ st.2.2.length ≤ st.1 ∧ (∃ t, m y = some (.int st.2.1 t)) ∧ ∀ z, z ≠ x → z ≠ y → m z = m₀ z
section
variable {prog : Program} {w : World} {A : Around} {E : Value → Shared → Prop} {s : Shared} {h₀ : Heap} {env : Env} {x : Str} {body : List Stmt} {Q : Flow → Shared → Prop}
theorem iter_rangeN {r : Addr} {a₀ b₀ : Int} {t₀ u₀ v₀ : Tok} {n : Nat} {m₀ : Str → Option Value} {news : List (Addr × Obj)}
    (J : Nat → (Str → Option Value) → List (Addr × Obj) → Prop)
    (hh : A.handled = none) (hr : IsRange s.heap r a₀ b₀ 1 t₀ u₀ v₀) (hsmall : Builtin.Range.small a₀ b₀ 1 = true) (hn : Builtin.Range.rangeSize a₀ b₀ 1 = (n : Int)) (F : Fr h₀ env.locals s.heap m₀) (N : News h₀ env.locals s.heap news) (hJ : J 0 m₀ news)
    (turn : ∀ i t m₁ nx h tk own, i < n → OwnOff own (news.map (·.1)) → J i m₁ nx → Fr h₀ env.locals h (fun y => if y = x then some (.int (a₀ + (i : Nat)) t) else m₁ y) → News h₀ env.locals h (nx ++ own) →
      wpAny (model prog w) A (execs body env) (InvPostN h₀ env.locals (J (i + 1)) own (news.map (·.1)) { s with heap := h, toks := tk } Q) E { s with heap := h, toks := tk })
    (done : ∀ m₁ nx h tk, J n m₁ nx → Fr h₀ env.locals h m₁ → News h₀ env.locals h nx → Q .next { s with heap := h, toks := tk }) :
    wpAny (model prog w) A (pyIter (.ref r)) (fun it s₂ => LoopAtV prog w A h₀ env x body Q E it s₂) E s := by
  refine kpr_invN J hh hr hsmall hn F N hJ (fun i k t m₁ nx h tk own hk ho hj F' N' => ?_) (fun m₁ nx h tk hj => done m₁ nx h tk (by rwa [rangeKs_length] at hj))
  have hi : i < n := by
    have := (List.getElem?_eq_some_iff.mp hk).1
    rwa [rangeKs_length] at this
  have e : k = a₀ + (i : Int) := by simpa [rangeKs, hi] using hk.symm
  subst e
  exact turn i t m₁ nx h tk own hi ho hj F' N'
def foldI (g : Int × List Int → Int → Int × List Int) (a₀ c₀ : Int) : Nat → Int × List Int
  | 0 => (c₀, [])
  | i + 1 => g (foldI g a₀ c₀ i) (a₀ + (i : Nat))
theorem loop_IL {r D : Addr} {a₀ b₀ : Int} {t₀ u₀ v₀ : Tok} {n nn0 : Nat} {m₀ : Str → Option Value} {rest : List (Addr × Obj)} {y : Str} {c₀ : Int} {tc : Tok} (g : Int × List Int → Int → Int × List Int)
    (hh : A.handled = none) (hr : IsRange s.heap r a₀ b₀ 1 t₀ u₀ v₀) (hsmall : Builtin.Range.small a₀ b₀ 1 = true) (hn : Builtin.Range.rangeSize a₀ b₀ 1 = (n : Int)) (F : Fr h₀ env.locals s.heap m₀) (N : News h₀ env.locals s.heap ((D, listOf #[] nn0) :: rest))
    (hD : ∀ p ∈ rest, p.1 ≠ D) (hy : m₀ y = some (.int c₀ tc))
    (turn : ∀ i k t a ta vs ns nn h tk own, i < n → k = a₀ + (i : Nat) → IntsAre vs ns → ns.length ≤ i → vs.length ≤ i → (∀ p ∈ rest ++ own, p.1 ≠ D) → Fr h₀ env.locals h (fun z => if z = x then some (.int k t) else if z = y then some (.int a ta) else m₀ z) → News h₀ env.locals h ((D, listOf vs.toArray nn) :: (rest ++ own)) →
      wpAny (model prog w) A (execs body env) (InvPostN h₀ env.locals (RIL D rest x y m₀ (i + 1, g (a, ns) k)) own (D :: rest.map (·.1)) { s with heap := h, toks := tk } Q) E { s with heap := h, toks := tk })
    (done : ∀ (u : Str → Option Value) vs nn t h tk, IntsAre vs (foldI g a₀ c₀ n).2 → Fr h₀ env.locals h (fun z => if z = x then u z else if z = y then some (.int (foldI g a₀ c₀ n).1 t) else m₀ z) → News h₀ env.locals h ((D, listOf vs.toArray nn) :: rest) → Q .next { s with heap := h, toks := tk }) :
    wpAny (model prog w) A (pyIter (.ref r)) (fun it s₂ => LoopAtV prog w A h₀ env x body Q E it s₂) E s := by
  refine iter_rangeN (fun i => RIL D rest x y m₀ (i, foldI g a₀ c₀ i)) hh hr hsmall hn F N ⟨⟨[], nn0, rfl, .nil⟩, Nat.le_refl _, ⟨tc, hy⟩, fun _ _ _ => rfl⟩ ?_ ?_
  · rintro i t m₁ nx h tk own hin hoff ⟨⟨vs, nn, rfl, hi⟩, hlen, ⟨ta, ha⟩, hm⟩ F₁ N₁
    rw [map_one ha hm] at F₁
    refine turn i _ t _ ta vs _ nn h tk own hin rfl hi hlen (by rw [hi.length]; exact hlen) (fun p hp => ?_) F₁ N₁
    rcases List.mem_append.mp hp with hp | hp
    · exact hD p hp
    · exact hoff p hp D (by simp)
  · rintro m₁ nx h tk ⟨⟨vs, nn, rfl, hi⟩, hlen, ⟨ta, ha⟩, hm⟩ F₁ N₁
    refine done (fun z => m₁ z) vs nn ta h tk hi ?_ N₁
    have e : m₁ = fun z => if z = x then m₁ z else if z = y then some (.int (foldI g a₀ c₀ n).1 ta) else m₀ z := by
      funext z
      by_cases h1 : z = x
      · simp [h1]
      · by_cases h2 : z = y
        · simp only [if_neg h1, if_pos h2]; rw [h2]; exact ha
        · simp only [if_neg h1, if_neg h2]; exact hm z h1 h2
    rw [e] at F₁
    simpa using F₁
theorem end_IL {L D : Addr} {rest own : List (Addr × Obj)} {y : Str} {m₀ m' : Str → Option Value} {i nn : Nat} {a' : Int} {t' : Tok} {vs' : List Value} {ns' : List Int} {its : Array Value} {st : Int × List Int} {s₁ : Shared} {h' : Heap} {tk : Nat}
    (F : Fr h₀ L h' m') (N : News h₀ L h' ((D, listOf its nn) :: (rest ++ own))) (hv : its = vs'.toArray) (hi : IntsAre vs' ns') (hst : st = (a', ns')) (hl : ns'.length ≤ i) (hm : m' y = some (.int a' t')) (hz : ∀ z, z ≠ x → z ≠ y → m' z = m₀ z) :
    InvEndN h₀ L (RIL D rest x y m₀ (i, st)) own (D :: rest.map (·.1)) s₁ { s₁ with heap := h', toks := tk } := by
  subst hst hv
  refine InvEndN.intro F N (nx := (D, listOf vs'.toArray nn) :: rest) ⟨⟨vs', nn, rfl, hi⟩, hl, ⟨t', hm⟩, hz⟩ rfl ?_ ?_
  · intro p hp
    rcases List.mem_cons.mp hp with h | h
    · rw [h]; exact List.mem_cons_self
    · exact List.mem_cons_of_mem _ (List.mem_append_left _ h)
  · exact fun p hp => List.mem_cons_of_mem _ (List.mem_append_right _ hp)
theorem end_same {L D : Addr} {rest own : List (Addr × Obj)} {y : Str} {m₀ m' : Str → Option Value} {i nn : Nat} {a' : Int} {t' : Tok} {vs : List Value} {ns : List Int} {st : Int × List Int} {s₁ : Shared} {h' : Heap} {tk : Nat}
    (F : Fr h₀ L h' m') (N : News h₀ L h' ((D, listOf vs.toArray nn) :: (rest ++ own))) (hi : IntsAre vs ns) (hl : ns.length ≤ i) (hm : m' y = some (.int a' t')) (hz : ∀ z, z ≠ x → z ≠ y → m' z = m₀ z) (hst : st = (a', ns)) :
    InvEndN h₀ L (RIL D rest x y m₀ (i + 1, st)) own (D :: rest.map (·.1)) s₁ { s₁ with heap := h', toks := tk } := end_IL F N rfl hi hst (Nat.le_succ_of_le hl) hm hz
theorem end_app {L D : Addr} {rest own : List (Addr × Obj)} {y : Str} {m₀ m' : Str → Option Value} {i nn : Nat} {a' k : Int} {t' tk' : Tok} {vs : List Value} {ns : List Int} {st : Int × List Int} {s₁ : Shared} {h' : Heap} {tk : Nat}
    (F : Fr h₀ L h' m') (N : News h₀ L h' ((D, listOf (vs.toArray.push (.int k tk')) nn) :: (rest ++ own))) (hi : IntsAre vs ns) (hl : ns.length ≤ i) (hm : m' y = some (.int a' t')) (hz : ∀ z, z ≠ x → z ≠ y → m' z = m₀ z) (hst : st = (a', ns ++ [k])) :
    InvEndN h₀ L (RIL D rest x y m₀ (i + 1, st)) own (D :: rest.map (·.1)) s₁ { s₁ with heap := h', toks := tk } :=
  end_IL (vs' := vs ++ [.int k tk']) F N (by simp) (IntsAre.append hi (.cons k tk' .nil)) hst (by simp; exact hl) hm hz
theorem dropHd {h : Heap} {L : Addr} {a : Addr × Obj} {t : List (Addr × Obj)} (N : News h₀ L h (a :: t)) : News h₀ L h t := fun p hp => N p (List.mem_cons_of_mem _ hp)
end
def stepA (y : Int) (s : Int × List Int) (k : Int) : Int × List Int :=
  let mv := s.1 + (if lp (y + k - 1) = true then 2 else 1)
  (mv, if mv.fmod 7 = 0 ∧ lp (y + k) = lp y then s.2 ++ [k] else s.2)
end Mine
end
section
open PySem PySem.W PySem.Calls PyProof.Rows PyProof.Rows.LCg PySem.Spec PyProof.V
set_option maxRecDepth 100000
namespace Mine
theorem fdiv_eq {x k q r : Int} (hk : 0 < k) (hx : x = k * q + r) (h0 : 0 ≤ r) (h1 : r < k) : x.fdiv k = q := by
  rw [Int.fdiv_eq_ediv_of_nonneg _ (Int.le_of_lt hk), hx, Int.add_comm, Int.add_mul_ediv_left _ _ (Int.ne_of_gt hk), Int.ediv_eq_zero_of_lt h0 h1, Int.zero_add]
theorem fmod_eq {x k q r : Int} (hk : 0 < k) (hx : x = k * q + r) (h0 : 0 ≤ r) (h1 : r < k) : x.fmod k = r := by
  rw [Int.fmod_eq_emod_of_nonneg _ (Int.le_of_lt hk), hx, Int.add_comm, Int.add_mul_emod_self_left, Int.emod_eq_of_lt h0 h1]
theorem divmod_qr {prog : Program} {w : World} {A : Around} {E : Value → Shared → Prop} {s : Shared} {h₀ : Heap} {L : Addr} {m : Str → Option Value} {news : List (Addr × Obj)} {x k q r : Int} {t u : Tok} {Q : Value → Shared → Prop}
    (F : Fr h₀ L s.heap m) (N : News h₀ L s.heap news) (hk : 0 < k) (hx : x = k * q + r) (h0 : 0 ≤ r) (h1 : r < k) (hp : Builtin.divisionGoesByPylong x k = false)
    (h : ∀ h' D t1 t2 tk, Fr h₀ L h' m → News h₀ L h' ((D, { cls := .type "tuple", data := .seq #[.int q t1, .int r t2] }) :: news) → Q (.ref D) { s with toks := tk, heap := h' }) :
    wpAny (model prog w) A (call (.builtin "divmod") [.int x t, .int k u]) Q E s := by
  refine divmod_N F N (Int.ne_of_gt hk) (fun h' F' N' => ?_) (Or.inl hp)
  rw [fdiv_eq hk hx h0 h1, fmod_eq hk hx h0 h1] at N'
  exact h h' _ _ _ _ F' N'
theorem rshift5 {prog : Program} {w : World} {A : Around} {E : Value → Shared → Prop} {s : Shared} {x M r : Int} {t u : Tok} {Q : Value → Shared → Prop}
    (hx : x = 32 * M + r) (h0 : 0 ≤ r) (h1 : r < 32) (h : ∀ t' tk, Q (.int M t') { s with toks := tk }) : wpAny (model prog w) A (binaryOp .RShift (.int x t) (.int 5 u)) Q E s := by
  refine rshift_int (by decide) ?_
  have : x.fdiv (2 ^ (5 : Int).toNat) = M := fdiv_eq (k := 32) (by decide) hx h0 h1
  rw [this]
  exact h _ _
theorem lp_parts {y q b c d : Int} (hb : 0 ≤ b ∧ b ≤ 3) (hc : 0 ≤ c ∧ c ≤ 24) (hd : 0 ≤ d ∧ d ≤ 3) (hy : y = 400 * q + 100 * b + 4 * c + d + 1) : lp y = true ↔ d = 3 ∧ (c ≠ 24 ∨ b = 3) := by
  unfold lp
  rw [decide_eq_true_eq]
  omega
theorem m12 {m : Int} (h : 1 ≤ m ∧ m ≤ 12) : m = 1 ∨ m = 2 ∨ m = 3 ∨ m = 4 ∨ m = 5 ∨ m = 6 ∨ m = 7 ∨ m = 8 ∨ m = 9 ∨ m = 10 ∨ m = 11 ∨ m = 12 := by omega
theorem dbm_bd {y m : Int} (h : 1 ≤ m ∧ m ≤ 12) : 0 ≤ dbm y m ∧ dbm y m ≤ 335 := by
  unfold dbm
  rcases m12 h with h | h | h | h | h | h | h | h | h | h | h | h <;> subst h <;> split <;> decide
theorem dbm_next {y m : Int} (h : 1 ≤ m ∧ m ≤ 11) : dbm y (m + 1) = dbm y m + dim y m := by
  unfold dbm dim
  cases hl : lp y <;> rcases m12 (m := m) (by omega) with h | h | h | h | h | h | h | h | h | h | h | h <;> subst h <;> first | (exfalso; omega) | decide
theorem dbm_M {y m : Int} (h : 1 ≤ m ∧ m ≤ 12) : ∃ M r, dbm y m + 50 = 32 * M + r ∧ 0 ≤ r ∧ r < 32 ∧ ((M = m) ∨ (M = m + 1 ∧ m ≤ 11)) := by
  refine ⟨(dbm y m + 50) / 32, (dbm y m + 50) % 32, by omega, by omega, by omega, ?_⟩
  unfold dbm
  cases hl : lp y <;> rcases m12 h with h | h | h | h | h | h | h | h | h | h | h | h <;> subst h <;> decide
theorem ite_dt {c : Bool} {P Q : Prop} (h : c = true) (hp : P) : if c = true then P else Q := by rw [if_pos h]; exact hp
theorem ite_df {c : Bool} {P Q : Prop} (h : c = false) (hq : Q) : if c = true then P else Q := by rw [if_neg (by rw [h]; decide)]; exact hq
def BoEnd (b : Bool) (s : Shared) (v : Value) (s' : Shared) : Prop := v = Value.bool b ∧ ∃ tk, s' = { s with toks := tk }
inductive BoMark : Prop | mk
theorem bo_mid {M : Model} {A : Around} {t : Sem Value} {E : Value → Shared → Prop} {s : Shared} {Q : Value → Shared → Prop} (b : Bool) (h : BoMark → wpAny M A t (BoEnd b s) E s) (k : ∀ tk, Q (.bool b) { s with toks := tk }) : wpAny M A t Q E s :=
  wpAny_mono (h .mk) (fun v s' hv => by obtain ⟨rfl, tk, rfl⟩ := hv; exact k tk) fun _ _ e => e
theorem bo_end {b c : Bool} {s : Shared} {tk : Nat} (h : c = b) : BoEnd b s (Value.bool c) { s with toks := tk } := ⟨by rw [h], tk, rfl⟩
end Mine
end
section
open PySem PySem.W PyProof.Rows
set_option maxRecDepth 100000
namespace Mine
local macro_rules | `(tactic| walk_at "subscriptTail") => `(tactic| (k_here; (with_reducible show wpAny _ _ (subscriptTail _ _ (Value.ref _) (Value.int _ _)) _ _ _); (with_unfolding_all (refine' topListAny ?F ?X ?l ?i ?k3 ?k4 ?k5 ?_; (case F => k_asm); (case X => k_asm); (case l => k_is); (case i => l_ints); (case k3 => l_idx); (case k4 => l_idx); (case k5 => l_idx); k_whole)); intro _))
local macro_rules | `(tactic| walk_at "call ref") => `(tactic| (k_here; (with_reducible show wpAny _ _ (PySem.call (Value.ref 28) [Value.int _ _]) _ _ _); k_dflt (refine' c_leap _ _ _ _ _ _ _ _ _ _ _ _ _ _ _ _ _ _ _ _ _ _ _ _ ?k1 ?k2 ?k3 ?k4 ?k5 ?kK ?kp ?kd ?ku ?_; (case k1 => k_asm); (case k2 => k_asm); (case k3 => k_asm); (case k4 => k_asm); (case k5 => k_asm); (case kK => first | exact rfl | assumption); (case kp => trivial); (case kd => ((try simp only [depth_deeper]); (try dsimp only [ktrTop]); omega)); (case ku => ((try simp only [units_deeper]); (try dsimp only [ktrTop]); omega)); intro t9 h9 tk9 F9 N9; (try dsimp only); (try k_fold))))
local macro_rules | `(tactic| walk_at "call ref") => `(tactic| (k_here; (with_reducible show wpAny _ _ (PySem.call (Value.ref 35) [Value.int _ _]) _ _ _); k_dflt (refine' c_dby _ _ _ _ _ _ _ _ _ _ _ _ _ _ _ _ _ _ _ _ _ _ _ _ ?k1 ?k2 ?k3 ?k4 ?k5 ?kK ?kp ?kd ?ku ?_; (case k1 => k_asm); (case k2 => k_asm); (case k3 => k_asm); (case k4 => k_asm); (case k5 => k_asm); (case kK => first | exact rfl | assumption); (case kp => trivial); (case kd => ((try simp only [depth_deeper]); (try dsimp only [ktrTop]); omega)); (case ku => ((try simp only [units_deeper]); (try dsimp only [ktrTop]); omega)); intro t9 h9 tk9 F9 N9; (try dsimp only); (try k_fold))))
local macro_rules | `(tactic| walk_at "call ref") => `(tactic| (k_here; (with_reducible show wpAny _ _ (PySem.call (Value.ref 42) [Value.int _ _, Value.int _ _]) _ _ _); k_dflt (refine' c_dim _ _ _ _ _ _ _ _ _ _ _ _ _ _ _ _ _ _ _ _ _ _ _ _ _ _ ?k1 ?k2 ?k3 ?k4 ?k5 ?kK ?kp ?kd ?ku ?_; (case k1 => k_asm); (case k2 => k_asm); (case k3 => k_asm); (case k4 => k_asm); (case k5 => k_asm); (case kK => first | exact rfl | assumption); (case kp => omega); (case kd => ((try simp only [depth_deeper]); (try dsimp only [ktrTop]); omega)); (case ku => ((try simp only [units_deeper]); (try dsimp only [ktrTop]); omega)); intro t9 h9 tk9 F9 N9; (try dsimp only); (try k_fold))))
local macro_rules | `(tactic| walk_at "call ref") => `(tactic| (k_here; (with_reducible show wpAny _ _ (PySem.call (Value.ref 49) [Value.int _ _, Value.int _ _]) _ _ _); k_dflt (refine' c_dbm _ _ _ _ _ _ _ _ _ _ _ _ _ _ _ _ _ _ _ _ _ _ _ _ _ _ ?k1 ?k2 ?k3 ?k4 ?k5 ?kK ?kp ?kd ?ku ?_; (case k1 => k_asm); (case k2 => k_asm); (case k3 => k_asm); (case k4 => k_asm); (case k5 => k_asm); (case kK => first | exact rfl | assumption); (case kp => omega); (case kd => ((try simp only [depth_deeper]); (try dsimp only [ktrTop]); omega)); (case ku => ((try simp only [units_deeper]); (try dsimp only [ktrTop]); omega)); intro t9 h9 tk9 F9 N9; (try dsimp only); (try k_fold))))
local macro_rules | `(tactic| walk_at "call ref") => `(tactic| (k_here; (with_reducible show wpAny _ _ (PySem.call (Value.ref 56) [Value.int _ _, Value.int _ _, Value.int _ _]) _ _ _); k_dflt (refine' c_ord _ _ _ _ _ _ _ _ _ _ _ _ _ _ _ _ _ _ _ _ _ _ _ _ _ _ _ _ ?k1 ?k2 ?k3 ?k4 ?k5 ?kK ?kp ?kd ?ku ?_; (case k1 => k_asm); (case k2 => k_asm); (case k3 => k_asm); (case k4 => k_asm); (case k5 => k_asm); (case kK => first | exact rfl | assumption); (case kp => omega); (case kd => ((try simp only [depth_deeper]); (try dsimp only [ktrTop]); omega)); (case ku => ((try simp only [units_deeper]); (try dsimp only [ktrTop]); omega)); intro t9 h9 tk9 F9 N9; (try dsimp only); (try k_fold))))
local macro_rules | `(tactic| walk_at "call ref") => `(tactic| (k_here; (with_reducible show wpAny _ _ (PySem.call (Value.ref 73) [Value.int _ _]) _ _ _); k_dflt (refine' c_wk1 _ _ _ _ _ _ _ _ _ _ _ _ _ _ _ _ _ _ _ _ _ _ _ _ ?k1 ?k2 ?k3 ?k4 ?k5 ?kK ?kp ?kd ?ku ?_; (case k1 => k_asm); (case k2 => k_asm); (case k3 => k_asm); (case k4 => k_asm); (case k5 => k_asm); (case kK => first | exact rfl | assumption); (case kp => trivial); (case kd => ((try simp only [depth_deeper]); (try dsimp only [ktrTop]); omega)); (case ku => ((try simp only [units_deeper]); (try dsimp only [ktrTop]); omega)); intro t9 h9 tk9 F9 N9; (try dsimp only); (try k_fold))))
local macro_rules | `(tactic| walk_at "call ref") => `(tactic| (k_here; (with_reducible show wpAny _ _ (PySem.call (Value.ref 80) [Value.int _ _]) _ _ _); k_dflt (refine' c_lleap _ _ _ _ _ _ _ _ _ _ _ _ _ _ _ _ _ _ _ _ _ _ _ _ ?k1 ?k2 ?k3 ?k4 ?k5 ?kK ?kp ?kd ?ku ?_; (case k1 => k_asm); (case k2 => k_asm); (case k3 => k_asm); (case k4 => k_asm); (case k5 => k_asm); (case kK => first | exact rfl | assumption); (case kp => trivial); (case kd => ((try simp only [depth_deeper]); (try dsimp only [ktrTop]); omega)); (case ku => ((try simp only [units_deeper]); (try dsimp only [ktrTop]); omega)); intro t9 h9 tk9 F9 N9; (try dsimp only); (try k_fold))))
local macro_rules | `(tactic| walk_at "CompSrc") => `(tactic| k_extra "CompSrc")
local macro_rules | `(tactic| walk_at "CompEnd") => `(tactic| k_extra "CompEnd")
set_option maxHeartbeats 8000000 in
theorem c_sheet (w : World) (mean : ExcName → Option Value) (mg mb : Str → Option Value) (news : List (Addr × Obj)) (y : Int) (ty : Tok) : CG w mean mg mb 85 news 6 (True) [Value.int y ty] (fun v nw => ∃ D ys rows, v = Value.ref D ∧ nw = (D, LCg.lst ys) :: (news ++ rows) ∧ RowsAre rows ys ((rangeKs 1 12).map (fun k => ((ordD y k 1).fmod 7, dim y k))) ∧ AllSeq rows) := by
  w_on
  dsimp only [CG]
  k_fill
  intros; rename_i hpre hdp hun hret
  refine wpAny_call ?_
  k_dflt (refine' code_defC ?k1 ?k2 ?k3 ?k4 ?k5 ?kA ?kF ?kK ?k6 ?k7 ?k8 ?k9 ?kB ?kD ?_ ?c2 ?c3 ?c4; (case kA => exact rfl); (case kF => exact rfl); (case kK => assumption); (case k1 => k_asm); (case k2 => k_asm); (case k3 => k_asm); (case k4 => k_asm); (case k5 => k_asm); (case k6 => k_is); (case k7 => k_is); (case k8 => ktr_room); (case k9 => exact BindsTo.of_eq rfl); (case kB => exact rfl); (case kD => decide +kernel); (case c2 => exact rfl); (case c3 => exact rfl); (case c4 => exact rfl); k_whole; intro g' L' h' tk' cells' FG' F' N' Y' B' X' T' l1; (try k_lt l1); k_cells Y'; (try simp only [List.cons_append, List.nil_append] at N'); (try dsimp only); (try k_lift B'); (try k_fold))
  k_with_none
  (k_with "CompSrc" => (k_dflt (refine LCg.CompSrc.range (by rfl) (by k_asm) (by k_asm) (by assumption) (by first | decide | rfl) (n := 12) (by first | rfl | decide) (by exact Nat.le_of_ble_eq_true rfl) ?_; intro g'; refine' rows_range (fun k => ((ordD y k 1).fmod 7, dim y k)) (fun rows' k' t' I' oI' C' oC' D' m' ys' h' tk' E' hlo' hhi' hC' hx' F' N' off' ne' => ?_) (fun ys' rows' hR' hQ' => ?_) <;> (try simp only [List.cons_append] at N') <;> (try k_fold))))
  (k_with "CompEnd" => (k_dflt (refine row_end (by assumption) (by assumption) (by assumption) (by k_ne) (by k_ne) (by k_ne) rfl rfl)))
  k_steps
  all_goals (refine hret _ _ _ _ ⟨_, _, _, rfl, rfl, by assumption, by assumption⟩ (by k_asm) (drop2 (by assumption)))
end Mine
end
section
open PySem PySem.W PyProof.Rows
set_option maxRecDepth 100000
namespace Mine
local macro_rules | `(tactic| walk_at "subscriptTail") => `(tactic| (k_here; (with_reducible show wpAny _ _ (subscriptTail _ _ (Value.ref _) (Value.int _ _)) _ _ _); (with_unfolding_all (refine' topListAny ?F ?X ?l ?i ?k3 ?k4 ?k5 ?_; (case F => k_asm); (case X => k_asm); (case l => k_is); (case i => l_ints); (case k3 => l_idx); (case k4 => l_idx); (case k5 => l_idx); k_whole)); intro _))
local macro_rules | `(tactic| walk_at "call ref") => `(tactic| (k_here; (with_reducible show wpAny _ _ (PySem.call (Value.ref 28) [Value.int _ _]) _ _ _); k_dflt (refine' c_leap _ _ _ _ _ _ _ _ _ _ _ _ _ _ _ _ _ _ _ _ _ _ _ _ ?k1 ?k2 ?k3 ?k4 ?k5 ?kK ?kp ?kd ?ku ?_; (case k1 => k_asm); (case k2 => k_asm); (case k3 => k_asm); (case k4 => k_asm); (case k5 => k_asm); (case kK => first | exact rfl | assumption); (case kp => trivial); (case kd => ((try simp only [depth_deeper]); (try dsimp only [ktrTop]); omega)); (case ku => ((try simp only [units_deeper]); (try dsimp only [ktrTop]); omega)); intro t9 h9 tk9 F9 N9; (try dsimp only); (try k_fold))))
local macro_rules | `(tactic| walk_at "call ref") => `(tactic| (k_here; (with_reducible show wpAny _ _ (PySem.call (Value.ref 35) [Value.int _ _]) _ _ _); k_dflt (refine' c_dby _ _ _ _ _ _ _ _ _ _ _ _ _ _ _ _ _ _ _ _ _ _ _ _ ?k1 ?k2 ?k3 ?k4 ?k5 ?kK ?kp ?kd ?ku ?_; (case k1 => k_asm); (case k2 => k_asm); (case k3 => k_asm); (case k4 => k_asm); (case k5 => k_asm); (case kK => first | exact rfl | assumption); (case kp => trivial); (case kd => ((try simp only [depth_deeper]); (try dsimp only [ktrTop]); omega)); (case ku => ((try simp only [units_deeper]); (try dsimp only [ktrTop]); omega)); intro t9 h9 tk9 F9 N9; (try dsimp only); (try k_fold))))
local macro_rules | `(tactic| walk_at "call ref") => `(tactic| (k_here; (with_reducible show wpAny _ _ (PySem.call (Value.ref 42) [Value.int _ _, Value.int _ _]) _ _ _); k_dflt (refine' c_dim _ _ _ _ _ _ _ _ _ _ _ _ _ _ _ _ _ _ _ _ _ _ _ _ _ _ ?k1 ?k2 ?k3 ?k4 ?k5 ?kK ?kp ?kd ?ku ?_; (case k1 => k_asm); (case k2 => k_asm); (case k3 => k_asm); (case k4 => k_asm); (case k5 => k_asm); (case kK => first | exact rfl | assumption); (case kp => omega); (case kd => ((try simp only [depth_deeper]); (try dsimp only [ktrTop]); omega)); (case ku => ((try simp only [units_deeper]); (try dsimp only [ktrTop]); omega)); intro t9 h9 tk9 F9 N9; (try dsimp only); (try k_fold))))
local macro_rules | `(tactic| walk_at "call ref") => `(tactic| (k_here; (with_reducible show wpAny _ _ (PySem.call (Value.ref 49) [Value.int _ _, Value.int _ _]) _ _ _); k_dflt (refine' c_dbm _ _ _ _ _ _ _ _ _ _ _ _ _ _ _ _ _ _ _ _ _ _ _ _ _ _ ?k1 ?k2 ?k3 ?k4 ?k5 ?kK ?kp ?kd ?ku ?_; (case k1 => k_asm); (case k2 => k_asm); (case k3 => k_asm); (case k4 => k_asm); (case k5 => k_asm); (case kK => first | exact rfl | assumption); (case kp => omega); (case kd => ((try simp only [depth_deeper]); (try dsimp only [ktrTop]); omega)); (case ku => ((try simp only [units_deeper]); (try dsimp only [ktrTop]); omega)); intro t9 h9 tk9 F9 N9; (try dsimp only); (try k_fold))))
local macro_rules | `(tactic| walk_at "call ref") => `(tactic| (k_here; (with_reducible show wpAny _ _ (PySem.call (Value.ref 56) [Value.int _ _, Value.int _ _, Value.int _ _]) _ _ _); k_dflt (refine' c_ord _ _ _ _ _ _ _ _ _ _ _ _ _ _ _ _ _ _ _ _ _ _ _ _ _ _ _ _ ?k1 ?k2 ?k3 ?k4 ?k5 ?kK ?kp ?kd ?ku ?_; (case k1 => k_asm); (case k2 => k_asm); (case k3 => k_asm); (case k4 => k_asm); (case k5 => k_asm); (case kK => first | exact rfl | assumption); (case kp => omega); (case kd => ((try simp only [depth_deeper]); (try dsimp only [ktrTop]); omega)); (case ku => ((try simp only [units_deeper]); (try dsimp only [ktrTop]); omega)); intro t9 h9 tk9 F9 N9; (try dsimp only); (try k_fold))))
local macro_rules | `(tactic| walk_at "call ref") => `(tactic| (k_here; (with_reducible show wpAny _ _ (PySem.call (Value.ref 73) [Value.int _ _]) _ _ _); k_dflt (refine' c_wk1 _ _ _ _ _ _ _ _ _ _ _ _ _ _ _ _ _ _ _ _ _ _ _ _ ?k1 ?k2 ?k3 ?k4 ?k5 ?kK ?kp ?kd ?ku ?_; (case k1 => k_asm); (case k2 => k_asm); (case k3 => k_asm); (case k4 => k_asm); (case k5 => k_asm); (case kK => first | exact rfl | assumption); (case kp => trivial); (case kd => ((try simp only [depth_deeper]); (try dsimp only [ktrTop]); omega)); (case ku => ((try simp only [units_deeper]); (try dsimp only [ktrTop]); omega)); intro t9 h9 tk9 F9 N9; (try dsimp only); (try k_fold))))
local macro_rules | `(tactic| walk_at "call ref") => `(tactic| (k_here; (with_reducible show wpAny _ _ (PySem.call (Value.ref 80) [Value.int _ _]) _ _ _); k_dflt (refine' c_lleap _ _ _ _ _ _ _ _ _ _ _ _ _ _ _ _ _ _ _ _ _ _ _ _ ?k1 ?k2 ?k3 ?k4 ?k5 ?kK ?kp ?kd ?ku ?_; (case k1 => k_asm); (case k2 => k_asm); (case k3 => k_asm); (case k4 => k_asm); (case k5 => k_asm); (case kK => first | exact rfl | assumption); (case kp => trivial); (case kd => ((try simp only [depth_deeper]); (try dsimp only [ktrTop]); omega)); (case ku => ((try simp only [units_deeper]); (try dsimp only [ktrTop]); omega)); intro t9 h9 tk9 F9 N9; (try dsimp only); (try k_fold))))
local macro_rules | `(tactic| walk_at "CompSrc") => `(tactic| k_extra "CompSrc")
local macro_rules | `(tactic| walk_at "CompEnd") => `(tactic| k_extra "CompEnd")
local macro_rules | `(tactic| walk_at "eval ListComp") => `(tactic| k_extra "eval ListComp")
local macro_rules | `(tactic| walk_at "call type:zip") => `(tactic| k_extra "call type:zip")
local macro_rules | `(tactic| walk_at "spliced") => `(tactic| (k_here; (with_reducible show wpAny _ _ (spliced (backTo _ (starEach (Expr.Constant (Const.int _) _ _ :: Expr.Constant (Const.int _) _ _ :: Expr.Constant (Const.int _) _ _ :: _) _))) _ _ _); (with_reducible (refine' spliced_consts2 ?hc ?_)); (case hc => k_dflt (exact rfl)); intro vs' tk' hI' hLen'))
local macro_rules | `(tactic| walk_at "ite") => `(tactic| first | with_reducible refine ite_tt ?_ | with_reducible refine ite_ff ?_ | k_extra "ite")
local macro_rules | `(tactic| k_all) => `(tactic| first | assumption | exact allLt_ne (by assumption) | exact lt_ne_all (by assumption))
local macro_rules | `(tactic| walk_at "eval Call") => `(tactic| (k_here; first | k_compRoot | k_dflt (refine Call_ ?_)))
local macro_rules | `(tactic| walk_at "EndK") => `(tactic| k_extra "EndK")
local macro_rules | `(tactic| walk_at "pyIter ref") => `(tactic| k_extra "pyIter ref")
local macro_rules | `(tactic| walk_at "InvEndN") => `(tactic| k_extra "InvEndN")
local macro_rules | `(tactic| walk_at "call builtin:list.append") => `(tactic| k_extra "call builtin:list.append")
theorem built_rows12 {st : Int} {lf : Bool} {ys : List Value} {tl : List (Addr × Obj)} (h : Built (RowG (plainL st lf)) 12 ys tl) : RowsAre tl ys (plainL st lf) := by
  have := built_rows h
  rwa [List.take_of_length_le (by rw [plainL_len]; exact Nat.le_refl _)] at this
set_option maxHeartbeats 8000000 in
theorem c_plain (w : World) (mean : ExcName → Option Value) (mg mb : Str → Option Value) (news : List (Addr × Obj)) (st : Int) (ty : Tok) (lf : Bool) : CG w mean mg mb 90 news 6 (True) [Value.int st ty, Value.bool lf] (fun v nw => ∃ D ys rows, v = Value.ref D ∧ nw = (D, LCg.lst ys) :: (news ++ rows) ∧ RowsAre rows ys (plainL st lf) ∧ AllSeq rows) := by
  w_on
  dsimp only [CG]
  cases lf
  all_goals k_fill
  all_goals (intros; rename_i hpre hdp hun hret)
  all_goals refine wpAny_call ?_
  ·
    k_dflt (refine' code_defC ?k1 ?k2 ?k3 ?k4 ?k5 ?kA ?kF ?kK ?k6 ?k7 ?k8 ?k9 ?kB ?kD ?_ ?c2 ?c3 ?c4; (case kA => exact rfl); (case kF => exact rfl); (case kK => assumption); (case k1 => k_asm); (case k2 => k_asm); (case k3 => k_asm); (case k4 => k_asm); (case k5 => k_asm); (case k6 => k_is); (case k7 => k_is); (case k8 => ktr_room); (case k9 => exact BindsTo.of_eq rfl); (case kB => exact rfl); (case kD => decide +kernel); (case c2 => exact rfl); (case c3 => exact rfl); (case c4 => exact rfl); k_whole; intro g' L' h' tk' cells' FG' F' N' Y' B' X' T' l1; (try k_lt l1); k_cells Y'; (try simp only [List.cons_append, List.nil_append] at N'); (try dsimp only); (try k_lift B'); (try k_fold))
    k_with_none
    (k_with "eval ListComp" => (k_dflt (refine ListComp_K (by k_asm) (by with_unfolding_all rfl) (by decide) (by rfl) (by decide) (by rfl) (by rfl) (by decide) ?_)))
    (k_with "call type:zip" => (k_dflt (refine zip_ints (n := 12) (as := stepsL false) (bs := sizesL false) (G := RowG (plainL st false)) (by rfl) (by k_asm) (by k_asm) (by k_mem) (by k_mem) (by first | assumption | (simp only [List.length_cons, *]; rfl)) (by first | assumption | (simp only [List.length_cons, *]; rfl)) (by exact Nat.le_of_ble_eq_true rfl) (by assumption) (by exact .cons _ _ (.cons _ _ (by assumption))) (fun g' i' x' y' C' oC' D' m' ys' tl' h' tk' E' hi' hB' hC' hx' hy' F' N' => ?_) (fun g' ys' tl' hR' => ?_); all_goals (try (obtain ⟨a', b', ta', tb', ha', hb', e1', e2'⟩ := hB'; subst e1' e2'; simp only [List.cons_append] at N')))))
    (k_with "EndK" => (k_dflt (refine endK_row (by assumption) (by assumption) (by assumption) (plainL_get (by assumption) (by assumption)))))
    k_steps
    all_goals (refine hret _ _ _ _ ⟨_, _, _, rfl, rfl, built_rows12 (by assumption), built_seq (by assumption)⟩ (by k_asm) (drop2 (drop2 (drop2 (by assumption)))))
  ·
    k_dflt (refine' code_defC ?k1 ?k2 ?k3 ?k4 ?k5 ?kA ?kF ?kK ?k6 ?k7 ?k8 ?k9 ?kB ?kD ?_ ?c2 ?c3 ?c4; (case kA => exact rfl); (case kF => exact rfl); (case kK => assumption); (case k1 => k_asm); (case k2 => k_asm); (case k3 => k_asm); (case k4 => k_asm); (case k5 => k_asm); (case k6 => k_is); (case k7 => k_is); (case k8 => ktr_room); (case k9 => exact BindsTo.of_eq rfl); (case kB => exact rfl); (case kD => decide +kernel); (case c2 => exact rfl); (case c3 => exact rfl); (case c4 => exact rfl); k_whole; intro g' L' h' tk' cells' FG' F' N' Y' B' X' T' l1; (try k_lt l1); k_cells Y'; (try simp only [List.cons_append, List.nil_append] at N'); (try dsimp only); (try k_lift B'); (try k_fold))
    k_with_none
    (k_with "eval ListComp" => (k_dflt (refine ListComp_K (by k_asm) (by with_unfolding_all rfl) (by decide) (by rfl) (by decide) (by rfl) (by rfl) (by decide) ?_)))
    (k_with "call type:zip" => (k_dflt (refine zip_ints (n := 12) (as := stepsL true) (bs := sizesL true) (G := RowG (plainL st true)) (by rfl) (by k_asm) (by k_asm) (by k_mem) (by k_mem) (by first | assumption | (simp only [List.length_cons, *]; rfl)) (by first | assumption | (simp only [List.length_cons, *]; rfl)) (by exact Nat.le_of_ble_eq_true rfl) (by assumption) (by exact .cons _ _ (.cons _ _ (by assumption))) (fun g' i' x' y' C' oC' D' m' ys' tl' h' tk' E' hi' hB' hC' hx' hy' F' N' => ?_) (fun g' ys' tl' hR' => ?_); all_goals (try (obtain ⟨a', b', ta', tb', ha', hb', e1', e2'⟩ := hB'; subst e1' e2'; simp only [List.cons_append] at N')))))
    (k_with "EndK" => (k_dflt (refine endK_row (by assumption) (by assumption) (by assumption) (plainL_get (by assumption) (by assumption)))))
    k_steps
    all_goals (refine hret _ _ _ _ ⟨_, _, _, rfl, rfl, built_rows12 (by assumption), built_seq (by assumption)⟩ (by k_asm) (drop2 (drop2 (drop2 (by assumption)))))
end Mine
end
section
open PySem PySem.W PyProof.Rows
set_option maxRecDepth 100000
namespace Mine
local macro_rules | `(tactic| walk_at "subscriptTail") => `(tactic| (k_here; (with_reducible show wpAny _ _ (subscriptTail _ _ (Value.ref _) (Value.int _ _)) _ _ _); (with_unfolding_all (refine' topListAny ?F ?X ?l ?i ?k3 ?k4 ?k5 ?_; (case F => k_asm); (case X => k_asm); (case l => k_is); (case i => l_ints); (case k3 => l_idx); (case k4 => l_idx); (case k5 => l_idx); k_whole)); intro _))
local macro_rules | `(tactic| walk_at "call ref") => `(tactic| (k_here; (with_reducible show wpAny _ _ (PySem.call (Value.ref 28) [Value.int _ _]) _ _ _); k_dflt (refine' c_leap _ _ _ _ _ _ _ _ _ _ _ _ _ _ _ _ _ _ _ _ _ _ _ _ ?k1 ?k2 ?k3 ?k4 ?k5 ?kK ?kp ?kd ?ku ?_; (case k1 => k_asm); (case k2 => k_asm); (case k3 => k_asm); (case k4 => k_asm); (case k5 => k_asm); (case kK => first | exact rfl | assumption); (case kp => trivial); (case kd => ((try simp only [depth_deeper]); (try dsimp only [ktrTop]); omega)); (case ku => ((try simp only [units_deeper]); (try dsimp only [ktrTop]); omega)); intro t9 h9 tk9 F9 N9; (try dsimp only); (try k_fold))))
local macro_rules | `(tactic| walk_at "call ref") => `(tactic| (k_here; (with_reducible show wpAny _ _ (PySem.call (Value.ref 35) [Value.int _ _]) _ _ _); k_dflt (refine' c_dby _ _ _ _ _ _ _ _ _ _ _ _ _ _ _ _ _ _ _ _ _ _ _ _ ?k1 ?k2 ?k3 ?k4 ?k5 ?kK ?kp ?kd ?ku ?_; (case k1 => k_asm); (case k2 => k_asm); (case k3 => k_asm); (case k4 => k_asm); (case k5 => k_asm); (case kK => first | exact rfl | assumption); (case kp => trivial); (case kd => ((try simp only [depth_deeper]); (try dsimp only [ktrTop]); omega)); (case ku => ((try simp only [units_deeper]); (try dsimp only [ktrTop]); omega)); intro t9 h9 tk9 F9 N9; (try dsimp only); (try k_fold))))
local macro_rules | `(tactic| walk_at "call ref") => `(tactic| (k_here; (with_reducible show wpAny _ _ (PySem.call (Value.ref 42) [Value.int _ _, Value.int _ _]) _ _ _); k_dflt (refine' c_dim _ _ _ _ _ _ _ _ _ _ _ _ _ _ _ _ _ _ _ _ _ _ _ _ _ _ ?k1 ?k2 ?k3 ?k4 ?k5 ?kK ?kp ?kd ?ku ?_; (case k1 => k_asm); (case k2 => k_asm); (case k3 => k_asm); (case k4 => k_asm); (case k5 => k_asm); (case kK => first | exact rfl | assumption); (case kp => omega); (case kd => ((try simp only [depth_deeper]); (try dsimp only [ktrTop]); omega)); (case ku => ((try simp only [units_deeper]); (try dsimp only [ktrTop]); omega)); intro t9 h9 tk9 F9 N9; (try dsimp only); (try k_fold))))
local macro_rules | `(tactic| walk_at "call ref") => `(tactic| (k_here; (with_reducible show wpAny _ _ (PySem.call (Value.ref 49) [Value.int _ _, Value.int _ _]) _ _ _); k_dflt (refine' c_dbm _ _ _ _ _ _ _ _ _ _ _ _ _ _ _ _ _ _ _ _ _ _ _ _ _ _ ?k1 ?k2 ?k3 ?k4 ?k5 ?kK ?kp ?kd ?ku ?_; (case k1 => k_asm); (case k2 => k_asm); (case k3 => k_asm); (case k4 => k_asm); (case k5 => k_asm); (case kK => first | exact rfl | assumption); (case kp => omega); (case kd => ((try simp only [depth_deeper]); (try dsimp only [ktrTop]); omega)); (case ku => ((try simp only [units_deeper]); (try dsimp only [ktrTop]); omega)); intro t9 h9 tk9 F9 N9; (try dsimp only); (try k_fold))))
local macro_rules | `(tactic| walk_at "call ref") => `(tactic| (k_here; (with_reducible show wpAny _ _ (PySem.call (Value.ref 56) [Value.int _ _, Value.int _ _, Value.int _ _]) _ _ _); k_dflt (refine' c_ord _ _ _ _ _ _ _ _ _ _ _ _ _ _ _ _ _ _ _ _ _ _ _ _ _ _ _ _ ?k1 ?k2 ?k3 ?k4 ?k5 ?kK ?kp ?kd ?ku ?_; (case k1 => k_asm); (case k2 => k_asm); (case k3 => k_asm); (case k4 => k_asm); (case k5 => k_asm); (case kK => first | exact rfl | assumption); (case kp => omega); (case kd => ((try simp only [depth_deeper]); (try dsimp only [ktrTop]); omega)); (case ku => ((try simp only [units_deeper]); (try dsimp only [ktrTop]); omega)); intro t9 h9 tk9 F9 N9; (try dsimp only); (try k_fold))))
local macro_rules | `(tactic| walk_at "call ref") => `(tactic| (k_here; (with_reducible show wpAny _ _ (PySem.call (Value.ref 73) [Value.int _ _]) _ _ _); k_dflt (refine' c_wk1 _ _ _ _ _ _ _ _ _ _ _ _ _ _ _ _ _ _ _ _ _ _ _ _ ?k1 ?k2 ?k3 ?k4 ?k5 ?kK ?kp ?kd ?ku ?_; (case k1 => k_asm); (case k2 => k_asm); (case k3 => k_asm); (case k4 => k_asm); (case k5 => k_asm); (case kK => first | exact rfl | assumption); (case kp => trivial); (case kd => ((try simp only [depth_deeper]); (try dsimp only [ktrTop]); omega)); (case ku => ((try simp only [units_deeper]); (try dsimp only [ktrTop]); omega)); intro t9 h9 tk9 F9 N9; (try dsimp only); (try k_fold))))
local macro_rules | `(tactic| walk_at "call ref") => `(tactic| (k_here; (with_reducible show wpAny _ _ (PySem.call (Value.ref 80) [Value.int _ _]) _ _ _); k_dflt (refine' c_lleap _ _ _ _ _ _ _ _ _ _ _ _ _ _ _ _ _ _ _ _ _ _ _ _ ?k1 ?k2 ?k3 ?k4 ?k5 ?kK ?kp ?kd ?ku ?_; (case k1 => k_asm); (case k2 => k_asm); (case k3 => k_asm); (case k4 => k_asm); (case k5 => k_asm); (case kK => first | exact rfl | assumption); (case kp => trivial); (case kd => ((try simp only [depth_deeper]); (try dsimp only [ktrTop]); omega)); (case ku => ((try simp only [units_deeper]); (try dsimp only [ktrTop]); omega)); intro t9 h9 tk9 F9 N9; (try dsimp only); (try k_fold))))
local macro_rules | `(tactic| walk_at "CompSrc") => `(tactic| k_extra "CompSrc")
local macro_rules | `(tactic| walk_at "CompEnd") => `(tactic| k_extra "CompEnd")
local macro_rules | `(tactic| walk_at "eval ListComp") => `(tactic| k_extra "eval ListComp")
local macro_rules | `(tactic| walk_at "call type:zip") => `(tactic| k_extra "call type:zip")
local macro_rules | `(tactic| walk_at "spliced") => `(tactic| (k_here; (with_reducible show wpAny _ _ (spliced (backTo _ (starEach (Expr.Constant (Const.int _) _ _ :: Expr.Constant (Const.int _) _ _ :: Expr.Constant (Const.int _) _ _ :: _) _))) _ _ _); (with_reducible (refine' spliced_consts2 ?hc ?_)); (case hc => k_dflt (exact rfl)); intro vs' tk' hI' hLen'))
local macro_rules | `(tactic| walk_at "ite") => `(tactic| first | with_reducible refine ite_tt ?_ | with_reducible refine ite_ff ?_)
local macro_rules | `(tactic| k_all) => `(tactic| first | assumption | exact allLt_ne (by assumption) | exact lt_ne_all (by assumption))
local macro_rules | `(tactic| walk_at "EndK") => `(tactic| k_extra "EndK")
local macro_rules | `(tactic| walk_at "pyIter ref") => `(tactic| k_extra "pyIter ref")
local macro_rules | `(tactic| walk_at "InvEndN") => `(tactic| k_extra "InvEndN")
local macro_rules | `(tactic| walk_at "call builtin:list.append") => `(tactic| k_extra "call builtin:list.append")
theorem stA_true_app {y a k : Int} {ns : List Int} (h1 : lp (y + k - 1) = true) (h2 : (a + 2).fmod 7 = 0) (h3 : (lp (y + k) == lp y) = true) : stepA y (a, ns) k = (a + 2, ns ++ [k]) := by
  have h4 : lp (y + k) = lp y := by simpa using h3
  simp [stepA, h1, h2, h4]
theorem stA_true_no {y a k : Int} {ns : List Int} (h1 : lp (y + k - 1) = true) (h3 : (lp (y + k) == lp y) = false) : stepA y (a, ns) k = (a + 2, ns) := by
  have h4 : ¬ lp (y + k) = lp y := by simpa using h3
  simp [stepA, h1, h4]
theorem stA_true_ne {y a k : Int} {ns : List Int} (h1 : lp (y + k - 1) = true) (h2 : (a + 2).fmod 7 ≠ 0) : stepA y (a, ns) k = (a + 2, ns) := by
  simp [stepA, h1, h2]
theorem stA_false_app {y a k : Int} {ns : List Int} (h1 : lp (y + k - 1) = false) (h2 : (a + 1).fmod 7 = 0) (h3 : (lp (y + k) == lp y) = true) : stepA y (a, ns) k = (a + 1, ns ++ [k]) := by
  have h4 : lp (y + k) = lp y := by simpa using h3
  simp [stepA, h1, h2, h4]
theorem stA_false_no {y a k : Int} {ns : List Int} (h1 : lp (y + k - 1) = false) (h3 : (lp (y + k) == lp y) = false) : stepA y (a, ns) k = (a + 1, ns) := by
  have h4 : ¬ lp (y + k) = lp y := by simpa using h3
  simp [stepA, h1, h4]
theorem stA_false_ne {y a k : Int} {ns : List Int} (h1 : lp (y + k - 1) = false) (h2 : (a + 1).fmod 7 ≠ 0) : stepA y (a, ns) k = (a + 1, ns) := by
  simp [stepA, h1, h2]
set_option maxHeartbeats 8000000 in
theorem c_again (w : World) (mean : ExcName → Option Value) (mg mb : Str → Option Value) (news : List (Addr × Obj)) (y : Int) (ty : Tok) : CG w mean mg mb 97 news 6 (True) [Value.int y ty] (fun v nw => ∃ D vs nn, v = Value.ref D ∧ nw = (D, listOf vs.toArray nn) :: news ∧ IntsAre vs (foldI (stepA y) 1 0 12).2) := by
  w_on
  dsimp only [CG]
  k_fill
  intros; rename_i hpre hdp hun hret
  refine wpAny_call ?_
  k_dflt cell_enter
  k_with_none
  (k_with "pyIter ref" => (k_dflt (refine loop_IL (stepA y) (n := 12) (y := Str.ofString "moved") (by rfl) (by assumption) (by decide) (by rfl) (by k_asm) (dropHd (by assumption)) (lt_ne_all (by assumption)) (by rfl) (fun i' k' t' a' ta' vs' ns' nn' h' tk' own' hin' hk' hI' hl' hl2' hoff' F' N' => ?_) (fun u' vs' nn' t' h' tk' hI' F' N' => ?_) <;> (try k_fold))))
  (k_with "InvEndN" => (k_dflt (first | refine end_same (by assumption) (by assumption) (by assumption) (by assumption) (by rfl) (by intro z h1 h2; simp [h1, h2]) ?_ | refine end_app (by assumption) (by assumption) (by assumption) (by assumption) (by rfl) (by intro z h1 h2; simp [h1, h2]) ?_)))
  (k_with "call builtin:list.append" => (k_dflt (refine append_K (by k_asm) (by k_asm) (Upd.head (by assumption)) ?_ (by rw [sizeLine_eq]; simp only [List.size_toArray]; omega)); intro h' F' N'))
  k_steps
  all_goals first | exact hret _ _ _ _ ⟨_, _, _, rfl, rfl, by assumption⟩ (by k_asm) (by assumption) | exact stA_true_app (by assumption) (by assumption) (by assumption) | exact stA_true_no (by assumption) (by assumption) | exact stA_true_ne (by assumption) (by assumption) | exact stA_false_app (by assumption) (by assumption) (by assumption) | exact stA_false_no (by assumption) (by assumption) | exact stA_false_ne (by assumption) (by assumption)
end Mine
end
section
open PySem PySem.W PyProof.Rows
set_option maxRecDepth 100000
namespace Mine
local macro_rules | `(tactic| walk_at "subscriptTail") => `(tactic| (k_here; (with_reducible show wpAny _ _ (subscriptTail _ _ (Value.ref _) (Value.int _ _)) _ _ _); (with_unfolding_all (refine' topListAny ?F ?X ?l ?i ?k3 ?k4 ?k5 ?_; (case F => k_asm); (case X => k_asm); (case l => k_is); (case i => l_ints); (case k3 => l_idx); (case k4 => l_idx); (case k5 => l_idx); k_whole)); intro _))
local macro_rules | `(tactic| walk_at "call ref") => `(tactic| (k_here; (with_reducible show wpAny _ _ (PySem.call (Value.ref 28) [Value.int _ _]) _ _ _); k_dflt (refine' c_leap _ _ _ _ _ _ _ _ _ _ _ _ _ _ _ _ _ _ _ _ _ _ _ _ ?k1 ?k2 ?k3 ?k4 ?k5 ?kK ?kp ?kd ?ku ?_; (case k1 => k_asm); (case k2 => k_asm); (case k3 => k_asm); (case k4 => k_asm); (case k5 => k_asm); (case kK => first | exact rfl | assumption); (case kp => trivial); (case kd => ((try simp only [depth_deeper]); (try dsimp only [ktrTop]); omega)); (case ku => ((try simp only [units_deeper]); (try dsimp only [ktrTop]); omega)); intro t9 h9 tk9 F9 N9; (try dsimp only); (try k_fold))))
local macro_rules | `(tactic| walk_at "call ref") => `(tactic| (k_here; (with_reducible show wpAny _ _ (PySem.call (Value.ref 35) [Value.int _ _]) _ _ _); k_dflt (refine' c_dby _ _ _ _ _ _ _ _ _ _ _ _ _ _ _ _ _ _ _ _ _ _ _ _ ?k1 ?k2 ?k3 ?k4 ?k5 ?kK ?kp ?kd ?ku ?_; (case k1 => k_asm); (case k2 => k_asm); (case k3 => k_asm); (case k4 => k_asm); (case k5 => k_asm); (case kK => first | exact rfl | assumption); (case kp => trivial); (case kd => ((try simp only [depth_deeper]); (try dsimp only [ktrTop]); omega)); (case ku => ((try simp only [units_deeper]); (try dsimp only [ktrTop]); omega)); intro t9 h9 tk9 F9 N9; (try dsimp only); (try k_fold))))
local macro_rules | `(tactic| walk_at "call ref") => `(tactic| (k_here; (with_reducible show wpAny _ _ (PySem.call (Value.ref 42) [Value.int _ _, Value.int _ _]) _ _ _); k_dflt (refine' c_dim _ _ _ _ _ _ _ _ _ _ _ _ _ _ _ _ _ _ _ _ _ _ _ _ _ _ ?k1 ?k2 ?k3 ?k4 ?k5 ?kK ?kp ?kd ?ku ?_; (case k1 => k_asm); (case k2 => k_asm); (case k3 => k_asm); (case k4 => k_asm); (case k5 => k_asm); (case kK => first | exact rfl | assumption); (case kp => omega); (case kd => ((try simp only [depth_deeper]); (try dsimp only [ktrTop]); omega)); (case ku => ((try simp only [units_deeper]); (try dsimp only [ktrTop]); omega)); intro t9 h9 tk9 F9 N9; (try dsimp only); (try k_fold))))
local macro_rules | `(tactic| walk_at "call ref") => `(tactic| (k_here; (with_reducible show wpAny _ _ (PySem.call (Value.ref 49) [Value.int _ _, Value.int _ _]) _ _ _); k_dflt (refine' c_dbm _ _ _ _ _ _ _ _ _ _ _ _ _ _ _ _ _ _ _ _ _ _ _ _ _ _ ?k1 ?k2 ?k3 ?k4 ?k5 ?kK ?kp ?kd ?ku ?_; (case k1 => k_asm); (case k2 => k_asm); (case k3 => k_asm); (case k4 => k_asm); (case k5 => k_asm); (case kK => first | exact rfl | assumption); (case kp => omega); (case kd => ((try simp only [depth_deeper]); (try dsimp only [ktrTop]); omega)); (case ku => ((try simp only [units_deeper]); (try dsimp only [ktrTop]); omega)); intro t9 h9 tk9 F9 N9; (try dsimp only); (try k_fold))))
local macro_rules | `(tactic| walk_at "call ref") => `(tactic| (k_here; (with_reducible show wpAny _ _ (PySem.call (Value.ref 56) [Value.int _ _, Value.int _ _, Value.int _ _]) _ _ _); k_dflt (refine' c_ord _ _ _ _ _ _ _ _ _ _ _ _ _ _ _ _ _ _ _ _ _ _ _ _ _ _ _ _ ?k1 ?k2 ?k3 ?k4 ?k5 ?kK ?kp ?kd ?ku ?_; (case k1 => k_asm); (case k2 => k_asm); (case k3 => k_asm); (case k4 => k_asm); (case k5 => k_asm); (case kK => first | exact rfl | assumption); (case kp => omega); (case kd => ((try simp only [depth_deeper]); (try dsimp only [ktrTop]); omega)); (case ku => ((try simp only [units_deeper]); (try dsimp only [ktrTop]); omega)); intro t9 h9 tk9 F9 N9; (try dsimp only); (try k_fold))))
local macro_rules | `(tactic| walk_at "call ref") => `(tactic| (k_here; (with_reducible show wpAny _ _ (PySem.call (Value.ref 73) [Value.int _ _]) _ _ _); k_dflt (refine' c_wk1 _ _ _ _ _ _ _ _ _ _ _ _ _ _ _ _ _ _ _ _ _ _ _ _ ?k1 ?k2 ?k3 ?k4 ?k5 ?kK ?kp ?kd ?ku ?_; (case k1 => k_asm); (case k2 => k_asm); (case k3 => k_asm); (case k4 => k_asm); (case k5 => k_asm); (case kK => first | exact rfl | assumption); (case kp => trivial); (case kd => ((try simp only [depth_deeper]); (try dsimp only [ktrTop]); omega)); (case ku => ((try simp only [units_deeper]); (try dsimp only [ktrTop]); omega)); intro t9 h9 tk9 F9 N9; (try dsimp only); (try k_fold))))
local macro_rules | `(tactic| walk_at "call ref") => `(tactic| (k_here; (with_reducible show wpAny _ _ (PySem.call (Value.ref 80) [Value.int _ _]) _ _ _); k_dflt (refine' c_lleap _ _ _ _ _ _ _ _ _ _ _ _ _ _ _ _ _ _ _ _ _ _ _ _ ?k1 ?k2 ?k3 ?k4 ?k5 ?kK ?kp ?kd ?ku ?_; (case k1 => k_asm); (case k2 => k_asm); (case k3 => k_asm); (case k4 => k_asm); (case k5 => k_asm); (case kK => first | exact rfl | assumption); (case kp => trivial); (case kd => ((try simp only [depth_deeper]); (try dsimp only [ktrTop]); omega)); (case ku => ((try simp only [units_deeper]); (try dsimp only [ktrTop]); omega)); intro t9 h9 tk9 F9 N9; (try dsimp only); (try k_fold))))
local macro_rules | `(tactic| walk_at "CompSrc") => `(tactic| k_extra "CompSrc")
local macro_rules | `(tactic| walk_at "CompEnd") => `(tactic| k_extra "CompEnd")
local macro_rules | `(tactic| walk_at "eval ListComp") => `(tactic| k_extra "eval ListComp")
local macro_rules | `(tactic| walk_at "call type:zip") => `(tactic| k_extra "call type:zip")
local macro_rules | `(tactic| walk_at "spliced") => `(tactic| (k_here; (with_reducible show wpAny _ _ (spliced (backTo _ (starEach (Expr.Constant (Const.int _) _ _ :: Expr.Constant (Const.int _) _ _ :: Expr.Constant (Const.int _) _ _ :: _) _))) _ _ _); (with_reducible (refine' spliced_consts2 ?hc ?_)); (case hc => k_dflt (exact rfl)); intro vs' tk' hI' hLen'))
local macro_rules | `(tactic| walk_at "ite") => `(tactic| first | with_reducible refine ite_tt ?_ | with_reducible refine ite_ff ?_ | k_extra "ite")
local macro_rules | `(tactic| k_all) => `(tactic| first | assumption | exact allLt_ne (by assumption) | exact lt_ne_all (by assumption))
local macro_rules | `(tactic| walk_at "eval Call") => `(tactic| (k_here; first | k_compRoot | k_dflt (refine Call_ ?_)))
local macro_rules | `(tactic| walk_at "EndK") => `(tactic| k_extra "EndK")
local macro_rules | `(tactic| walk_at "pyIter ref") => `(tactic| k_extra "pyIter ref")
local macro_rules | `(tactic| walk_at "InvEndN") => `(tactic| k_extra "InvEndN")
local macro_rules | `(tactic| walk_at "call builtin:list.append") => `(tactic| k_extra "call builtin:list.append")
local macro_rules | `(tactic| walk_at "call builtin:divmod") => `(tactic| k_extra "call builtin:divmod")
local macro_rules | `(tactic| walk_at "binaryOp RShift int int") => `(tactic| k_extra "binaryOp RShift int int")
local macro_rules | `(tactic| walk_at "call ref") => `(tactic| k_extra "call ref")
local macro_rules | `(tactic| walk_at "eval BoolOp") => `(tactic| k_extra "eval BoolOp")

theorem c_leap3 (w : World) (mean : ExcName → Option Value) (mg mb : Str → Option Value) (news : List (Addr × Obj)) (x y : Int) (t : Tok) : CC w mean mg mb 28 news 1 (x = y) [Value.int x t] (fun _ => Value.bool (lp y)) := by
  intro dp un gd cn cs a ccd cl outer A₀ base h₀ L m s Q E hB hF hK hN hT hk hp hd hu hr
  refine c_leap w mean mg mb news x t dp un gd cn cs a ccd cl outer A₀ base h₀ L m s Q E hB hF hK hN hT hk trivial hd hu ?_
  rw [hp]
  exact hr
theorem c_dimE (w : World) (mean : ExcName → Option Value) (mg mb : Str → Option Value) (news : List (Addr × Obj)) (x m : Int) (t u : Tok) : CG w mean mg mb 42 news 2 (1 ≤ m ∧ m ≤ 12) [Value.int x t, Value.int m u] (fun v nw => nw = news ∧ ∃ k tk, v = Value.int k tk ∧ 28 ≤ k) := by
  intro dp un gd cn cs a ccd cl outer A₀ base h₀ L m' s Q E hB hF hK hN hT hk hp hd hu hr
  exact c_dim w mean mg mb news x t m u dp un gd cn cs a ccd cl outer A₀ base h₀ L m' s Q E hB hF hK hN hT hk hp hd hu fun t' h' tk' F' N' => hr _ news h' tk' ⟨rfl, _, t', rfl, dim_pos hp⟩ F' N'
theorem tab_b {y m : Int} : [-1, 0, 31, 59, 90, 120, 151, 181, 212, 243, 273, 304, 334].getD m.toNat 0 + (if (decide (2 < m) && lp y) = true then 1 else 0) = dbm y m := by
  simp [dbm]
theorem dt_b {y m k : Int} (hk : k = m) : [-1, 31, 28, 31, 30, 31, 30, 31, 31, 30, 31, 30, 31].getD k.toNat 0 + (if (decide (k = 2) && lp y) = true then 1 else 0) = dim y m := by
  subst hk
  by_cases h : k = 2
  · subst h; cases hl : lp y <;> simp [dim, hl]
  · simp [dim, h]
theorem bo3_t {k y : Int} (h : k = 2) : lp y = (decide (k = 2) && lp y) := by simp [h]
theorem bo3_f {k y : Int} (h : ¬ k = 2) : (k == 2) = (decide (k = 2) && lp y) := by simp [h]
theorem bo3_g {k y : Int} (h : ¬ k = 2) : decide (k = 2) = (decide (k = 2) && lp y) := by simp [h]
theorem bo3_h {k y : Int} (h : ¬ k = 2) : false = (decide (k = 2) && lp y) := by simp [h]
def O2Y (news : List (Addr × Obj)) (y m : Int) (v : Value) (nw : List (Addr × Obj)) : Prop := ∃ T t1 t2 t3, v = Value.ref T ∧ nw = (T, { cls := .type "tuple", data := .seq #[.int y t1, .int m t2, .int 1 t3] }) :: news
theorem o2y_of {news : List (Addr × Obj)} {y m a b c : Int} {T : Addr} {t1 t2 t3 : Tok} (h1 : a = y) (h2 : b = m) (h3 : c = 1) : O2Y news y m (.ref T) ((T, { cls := .type "tuple", data := .seq [Value.int a t1, Value.int b t2, Value.int c t3].toArray }) :: news) := by
  subst h1 h2 h3
  exact ⟨T, t1, t2, t3, rfl, rfl⟩

set_option maxHeartbeats 8000000 in
theorem c_o2y_same (w : World) (mean : ExcName → Option Value) (mg mb : Str → Option Value) (news : List (Addr × Obj)) (q b c d m y e r : Int) (tn : Tok) (hb : 0 ≤ b ∧ b ≤ 3) (hc : 0 ≤ c ∧ c ≤ 24) (hd : 0 ≤ d ∧ d ≤ 3) (hm : 1 ≤ m ∧ m ≤ 12) (hy : y = 400 * q + 100 * b + 4 * c + d + 1) (he : dbm y m = e) (hE : 0 ≤ e ∧ e ≤ 335) (hM : e + 50 = 32 * m + r) (hr0 : 0 ≤ r ∧ r < 32) :
    CG w mean mg mb 66 news 4 True [Value.int (146097 * q + 36524 * b + 1461 * c + 365 * d + e + 1) tn] (O2Y news y m) := by
  w_on
  dsimp only [CG]
  k_fill
  intros; rename_i hpre hdp hun hret
  have hlq := lp_parts hb hc hd hy
  have hT := tab_b (y := y) (m := m)
  refine wpAny_call ?_
  k_dflt cell_enter
  k_with_none
  (k_with "call builtin:divmod" => (k_dflt (first
    | refine divmod_qr (q := q) (r := 36524 * b + 1461 * c + 365 * d + e) (by k_asm) (by k_asm) (by decide) (by omega) (by omega) (by omega) (PyProof.noPylong_of_log2 (by decide +kernel)) ?_
    | refine divmod_qr (q := b) (r := 1461 * c + 365 * d + e) (by k_asm) (by k_asm) (by decide) (by omega) (by omega) (by omega) (PyProof.noPylong_of_log2 (by decide +kernel)) ?_
    | refine divmod_qr (q := c) (r := 365 * d + e) (by k_asm) (by k_asm) (by decide) (by omega) (by omega) (by omega) (PyProof.noPylong_of_log2 (by decide +kernel)) ?_
    | refine divmod_qr (q := d) (r := e) (by k_asm) (by k_asm) (by decide) (by omega) (by omega) (by omega) (PyProof.noPylong_of_log2 (by decide +kernel)) ?_); intro h' D' t1' t2' tk' F' N'))
  (k_with "binaryOp RShift int int" => (k_dflt (refine rshift5 (M := m) (r := r) (by omega) hr0.1 hr0.2 ?_); intro t' tk'))
  (k_with "call ref" => first | (k_dflt (refine c_leap3 w mean mg mb _ _ y _ _ _ _ _ _ _ _ _ _ _ _ _ _ _ _ _ _ (by k_asm) (by k_asm) (by k_asm) (by k_asm) (by k_asm) (by first | exact rfl | assumption) (by omega) (by (try simp only [depth_deeper]); (try dsimp only [ktrTop]); omega) (by (try simp only [units_deeper]); (try dsimp only [ktrTop]); omega) ?_); intro t9 h9 tk9 F9 N9) | (k_dflt (refine c_dimE w mean mg mb _ _ _ _ _ _ _ _ _ _ _ _ _ _ _ _ _ _ _ _ _ _ (by k_asm) (by k_asm) (by k_asm) (by k_asm) (by k_asm) (by first | exact rfl | assumption) (by omega) (by (try simp only [depth_deeper]); (try dsimp only [ktrTop]); omega) (by (try simp only [units_deeper]); (try dsimp only [ktrTop]); omega) ?_); (intro v9 nw9 h9 tk9 hp9 F9 N9; obtain ⟨e9, k9, u9, ev9, hk9⟩ := hp9; subst e9 ev9)))
  (k_with "ite" => (fail_if_success (rename BoMark => hmk)); first | (with_reducible refine ite_dt (by first | (simp; done) | (simp; omega)) ?_) | (with_reducible refine ite_df (by first | (simp; done) | (simp; omega)) ?_))
  (k_with "eval BoolOp" => (fail_if_success (rename BoMark => hmk)); (first
    | (refine' bo_mid (lp y) ?bh ?_; (case bh => (intro hmk; k_steps; all_goals (refine bo_end ?_; rw [Bool.eq_iff_iff, hlq]; simp; omega))); intro tk')
    | (refine' bo_mid (decide (2 < m) && lp y) ?bh ?_; (case bh => (intro hmk; k_steps; all_goals (refine bo_end ?_; simp [*]))); intro tk')
    | (refine' bo_mid (decide (m = 2) && lp y) ?bh ?_; (case bh => (intro hmk; k_steps; all_goals (refine bo_end ?_; first | exact bo3_t (by assumption) | exact bo3_f (by assumption) | exact bo3_g (by assumption) | exact bo3_h (by assumption) | simp [*]))); intro tk')))
  k_steps
  all_goals (refine' hret _ _ _ _ ?fp (by k_asm) ?fn; (case fn => exact drop2 (drop2 (drop2 (drop2 (by assumption))))); (case fp => exact o2y_of (by omega) (by omega) (by omega)))

set_option maxHeartbeats 8000000 in
theorem c_o2y_next (w : World) (mean : ExcName → Option Value) (mg mb : Str → Option Value) (news : List (Addr × Obj)) (q b c d m y e r : Int) (tn : Tok) (hb : 0 ≤ b ∧ b ≤ 3) (hc : 0 ≤ c ∧ c ≤ 24) (hd : 0 ≤ d ∧ d ≤ 3) (hm : 1 ≤ m ∧ m ≤ 11) (hy : y = 400 * q + 100 * b + 4 * c + d + 1) (he : dbm y m = e) (hE : 0 ≤ e ∧ e ≤ 335) (hM : e + 50 = 32 * (m + 1) + r) (hr0 : 0 ≤ r ∧ r < 32) :
    CG w mean mg mb 66 news 4 True [Value.int (146097 * q + 36524 * b + 1461 * c + 365 * d + e + 1) tn] (O2Y news y m) := by
  w_on
  dsimp only [CG]
  k_fill
  intros; rename_i hpre hdp hun hret
  have hlq := lp_parts hb hc hd hy
  have he1 := dbm_next (y := y) hm
  have hdm := dim_pos (y := y) (m := m) (by omega)
  have hT := tab_b (y := y) (m := m + 1)
  have hU := dt_b (y := y) (m := m) (k := m + 1 - 1) (by omega)
  refine wpAny_call ?_
  k_dflt cell_enter
  k_with_none
  (k_with "call builtin:divmod" => (k_dflt (first
    | refine divmod_qr (q := q) (r := 36524 * b + 1461 * c + 365 * d + e) (by k_asm) (by k_asm) (by decide) (by omega) (by omega) (by omega) (PyProof.noPylong_of_log2 (by decide +kernel)) ?_
    | refine divmod_qr (q := b) (r := 1461 * c + 365 * d + e) (by k_asm) (by k_asm) (by decide) (by omega) (by omega) (by omega) (PyProof.noPylong_of_log2 (by decide +kernel)) ?_
    | refine divmod_qr (q := c) (r := 365 * d + e) (by k_asm) (by k_asm) (by decide) (by omega) (by omega) (by omega) (PyProof.noPylong_of_log2 (by decide +kernel)) ?_
    | refine divmod_qr (q := d) (r := e) (by k_asm) (by k_asm) (by decide) (by omega) (by omega) (by omega) (PyProof.noPylong_of_log2 (by decide +kernel)) ?_); intro h' D' t1' t2' tk' F' N'))
  (k_with "binaryOp RShift int int" => (k_dflt (refine rshift5 (M := (m + 1)) (r := r) (by omega) hr0.1 hr0.2 ?_); intro t' tk'))
  (k_with "call ref" => first | (k_dflt (refine c_leap3 w mean mg mb _ _ y _ _ _ _ _ _ _ _ _ _ _ _ _ _ _ _ _ _ (by k_asm) (by k_asm) (by k_asm) (by k_asm) (by k_asm) (by first | exact rfl | assumption) (by omega) (by (try simp only [depth_deeper]); (try dsimp only [ktrTop]); omega) (by (try simp only [units_deeper]); (try dsimp only [ktrTop]); omega) ?_); intro t9 h9 tk9 F9 N9) | (k_dflt (refine c_dimE w mean mg mb _ _ _ _ _ _ _ _ _ _ _ _ _ _ _ _ _ _ _ _ _ _ (by k_asm) (by k_asm) (by k_asm) (by k_asm) (by k_asm) (by first | exact rfl | assumption) (by omega) (by (try simp only [depth_deeper]); (try dsimp only [ktrTop]); omega) (by (try simp only [units_deeper]); (try dsimp only [ktrTop]); omega) ?_); (intro v9 nw9 h9 tk9 hp9 F9 N9; obtain ⟨e9, k9, u9, ev9, hk9⟩ := hp9; subst e9 ev9)))
  (k_with "ite" => (fail_if_success (rename BoMark => hmk)); first | (with_reducible refine ite_dt (by first | (simp; done) | (simp; omega)) ?_) | (with_reducible refine ite_df (by first | (simp; done) | (simp; omega)) ?_))
  (k_with "eval BoolOp" => (fail_if_success (rename BoMark => hmk)); (first
    | (refine' bo_mid (lp y) ?bh ?_; (case bh => (intro hmk; k_steps; all_goals (refine bo_end ?_; rw [Bool.eq_iff_iff, hlq]; simp; omega))); intro tk')
    | (refine' bo_mid (decide (2 < (m + 1)) && lp y) ?bh ?_; (case bh => (intro hmk; k_steps; all_goals (refine bo_end ?_; simp [*]))); intro tk')
    | (refine' bo_mid (decide (m + 1 - 1 = 2) && lp y) ?bh ?_; (case bh => (intro hmk; k_steps; all_goals (refine bo_end ?_; first | exact bo3_t (by assumption) | exact bo3_f (by assumption) | exact bo3_g (by assumption) | exact bo3_h (by assumption) | simp [*]))); intro tk')))
  k_steps
  all_goals (refine' hret _ _ _ _ ?fp (by k_asm) ?fn; (case fn => exact drop2 (drop2 (drop2 (drop2 (by assumption))))); (case fp => exact o2y_of (by omega) (by omega) (by omega)))
end Mine
end
section
open PySem PySem.W PyProof.Rows
set_option maxRecDepth 100000
namespace Mine
theorem dby_e (y : Int) : dby y = (y - 1) * 365 + (y - 1) / 4 - (y - 1) / 100 + (y - 1) / 400 := by
  unfold dby
  rw [Int.fdiv_eq_ediv_of_nonneg _ (by decide), Int.fdiv_eq_ediv_of_nonneg _ (by decide), Int.fdiv_eq_ediv_of_nonneg _ (by decide)]
theorem c_o2y (w : World) (mean : ExcName → Option Value) (mg mb : Str → Option Value) (news : List (Addr × Obj)) (n y m : Int) (tn : Tok) : CG w mean mg mb 66 news 4 (n = ordD y m 1 ∧ 1 ≤ m ∧ m ≤ 12) [Value.int n tn] (O2Y news y m) := by
  intro dp un gd cn cs a ccd cl outer A₀ base h₀ L m' s Q E hB hF hK hN hT hk hp hd hu hr
  obtain ⟨hn, hm⟩ := hp
  obtain ⟨M, r, hM, hr0, hr1, hMm⟩ := dbm_M (y := y) hm
  have hE := dbm_bd (y := y) hm
  have hn' : n = 146097 * ((y - 1) / 400) + 36524 * ((y - 1) % 400 / 100) + 1461 * ((y - 1) % 100 / 4) + 365 * ((y - 1) % 4) + dbm y m + 1 := by
    rw [hn]; unfold ordD; rw [dby_e]; omega
  subst hn'
  rcases hMm with h | ⟨h, h'⟩
  · subst h
    exact c_o2y_same w mean mg mb news _ _ _ _ M y _ r tn (by omega) (by omega) (by omega) hm (by omega) rfl hE hM ⟨hr0, hr1⟩ dp un gd cn cs a ccd cl outer A₀ base h₀ L m' s Q E hB hF hK hN hT hk trivial hd hu hr
  · subst h
    exact c_o2y_next w mean mg mb news _ _ _ _ m y _ r tn (by omega) (by omega) (by omega) ⟨hm.1, h'⟩ (by omega) rfl hE hM ⟨hr0, hr1⟩ dp un gd cn cs a ccd cl outer A₀ base h₀ L m' s Q E hB hF hK hN hT hk trivial hd hu hr
end Mine
end
section
open PySem PySem.W PySem.Calls PyProof.Rows PyProof.Rows.LCg PySem.Spec PyProof.V
set_option maxRecDepth 100000
namespace Mine
def sheetL (y : Int) : List (Int × Int) := (rangeKs 1 12).map (fun k => ((ordD y k 1).fmod 7, dim y k))
def NextP (P : Shared → Prop) (f : Flow) (s' : Shared) : Prop := f = Flow.next ∧ P s'
theorem seq_cut {M : Model} {A : Around} {E : Value → Shared → Prop} {s : Shared} {st : Stmt} {rest : List Stmt} {env : Env} {Q : Flow → Shared → Prop} (P : Shared → Prop)
    (h1 : wpAny M A (exec st env) (NextP P) E s) (h2 : ∀ s', P s' → wpAny M A (execs rest env) Q E s') : wpAny M A (execs (st :: rest) env) Q E s :=
  wpAny_execs_cons (wpAny_mono h1 (fun f s' h => by obtain ⟨rfl, hp⟩ := h; exact h2 s' hp) fun _ _ e => e)
/-- the state between two statements of the def: its four cells (later, start, leap, year), and a ledger's tail -/
def StR (g : Heap) (L : Addr) (s₀ : Shared) (vt vs vl vy : Option Value) (facts : (Str → Option Value) → List (Addr × Obj) → Prop) (s' : Shared) : Prop :=
  ∃ h tk m o1 o2 o3 o4 tail, s' = { s₀ with heap := h, toks := tk } ∧ Fr g L h m ∧ News g L h ((L + 1 + 1 + 1 + 1, o1) :: (L + 1 + 1 + 1, o2) :: (L + 1 + 1, o3) :: (L + 1, o4) :: tail) ∧
    o1.data = .cell vt ∧ o2.data = .cell vs ∧ o3.data = .cell vl ∧ o4.data = .cell vy ∧ (∀ p ∈ tail, p.1 ≠ L + 1 + 1 + 1 + 1) ∧ (∀ p ∈ tail, p.1 ≠ L + 1 + 1 + 1) ∧ (∀ p ∈ tail, p.1 ≠ L + 1 + 1) ∧ (∀ p ∈ tail, p.1 ≠ L + 1) ∧ facts m tail
theorem kind_ne {g h : Heap} {L c : Addr} {o : Obj} {v : Option Value} {all : List (Addr × Obj)} (N : News g L h all) (hc : (c, o) ∈ all) (hd : o.data = .cell v) {new : List (Addr × Obj)} (hs : ∀ p ∈ new, p ∈ all) (hq : AllSeq new) : ∀ p ∈ new, p.1 ≠ c := by
  intro p hp e
  have h1 := (N _ hc).1
  have h2 := (N p (hs p hp)).1
  rw [e] at h2
  obtain ⟨its, n, hd'⟩ := hq p hp
  have : o = p.2 := Option.some.inj (h1.symm.trans h2)
  rw [this, hd'] at hd
  cases hd
theorem st_end {g h : Heap} {L : Addr} {s₀ : Shared} {vt vs vl vy : Option Value} {facts : (Str → Option Value) → List (Addr × Obj) → Prop} {m : Str → Option Value} {tk : Nat} {o1 o2 o3 o4 : Obj} {all tail : List (Addr × Obj)} (new : List (Addr × Obj))
    (F : Fr g L h m) (N : News g L h all) (m1 : (L + 1 + 1 + 1 + 1, o1) ∈ all) (m2 : (L + 1 + 1 + 1, o2) ∈ all) (m3 : (L + 1 + 1, o3) ∈ all) (m4 : (L + 1, o4) ∈ all) (hn : ∀ p ∈ new, p ∈ all) (ht : ∀ p ∈ tail, p ∈ all)
    (d1 : o1.data = .cell vt) (d2 : o2.data = .cell vs) (d3 : o3.data = .cell vl) (d4 : o4.data = .cell vy) (t1 : ∀ p ∈ tail, p.1 ≠ L + 1 + 1 + 1 + 1) (t2 : ∀ p ∈ tail, p.1 ≠ L + 1 + 1 + 1) (t3 : ∀ p ∈ tail, p.1 ≠ L + 1 + 1) (t4 : ∀ p ∈ tail, p.1 ≠ L + 1)
    (hq : AllSeq new) (hf : facts m (tail ++ new)) : NextP (StR g L s₀ vt vs vl vy facts) Flow.next { s₀ with heap := h, toks := tk } := by
  refine ⟨rfl, h, tk, m, o1, o2, o3, o4, tail ++ new, rfl, F, ?_, d1, d2, d3, d4, ?_, ?_, ?_, ?_, hf⟩
  · intro p hp
    rcases List.mem_cons.mp hp with e | hp
    · rw [e]; exact N _ m1
    rcases List.mem_cons.mp hp with e | hp
    · rw [e]; exact N _ m2
    rcases List.mem_cons.mp hp with e | hp
    · rw [e]; exact N _ m3
    rcases List.mem_cons.mp hp with e | hp
    · rw [e]; exact N _ m4
    rcases List.mem_append.mp hp with hp | hp
    · exact N _ (ht p hp)
    · exact N _ (hn p hp)
  · exact fun p hp => (List.mem_append.mp hp).elim (t1 p) (kind_ne N m1 d1 hn hq p)
  · exact fun p hp => (List.mem_append.mp hp).elim (t2 p) (kind_ne N m2 d2 hn hq p)
  · exact fun p hp => (List.mem_append.mp hp).elim (t3 p) (kind_ne N m3 d3 hn hq p)
  · exact fun p hp => (List.mem_append.mp hp).elim (t4 p) (kind_ne N m4 d4 hn hq p)
theorem ne1 {g h : Heap} {L c D : Addr} {o ob : Obj} {v : Option Value} {its : Array Value} {n : Nat} {all : List (Addr × Obj)} (N : News g L h all) (hc : (c, o) ∈ all) (hd : o.data = .cell v) (hD : (D, ob) ∈ all) (hq : ob.data = .seq its n) : @Ne Nat D c := by
  intro e
  have h1 := (N _ hc).1
  have h2 := (N _ hD).1
  rw [show D = c from e] at h2
  have : o = ob := Option.some.inj (h1.symm.trans h2)
  rw [this, hq] at hd
  cases hd
theorem off_app {c : Addr} {a b : List (Addr × Obj)} (h1 : ∀ p ∈ a, p.1 ≠ c) (h2 : ∀ p ∈ b, p.1 ≠ c) : ∀ p ∈ a ++ b, p.1 ≠ c := fun p hp => (List.mem_append.mp hp).elim (h1 p) (h2 p)
theorem allSeq_cons {D : Addr} {o : Obj} {its : Array Value} {n : Nat} {rows : List (Addr × Obj)} (h : o.data = .seq its n) (hq : AllSeq rows) : AllSeq ((D, o) :: rows) := fun p hp => by
  rcases List.mem_cons.mp hp with e | e
  · rw [e]; exact ⟨its, n, h⟩
  · exact hq p e
theorem sub_ref {prog : Program} {w : World} {A : Around} {E : Value → Shared → Prop} {s : Shared} {h₀ : Heap} {L : Addr} {nw : List (Addr × Obj)} {value slice : PySem.Expr} {l : Addr} {vs : List Value} {n : Nat} {k : Int} {u : Tok} {v : Value} {Q : Value → Shared → Prop}
    (N : News h₀ L s.heap nw) (hm : (l, listOf vs.toArray n) ∈ nw) (h0 : 0 ≤ k) (hhi : k < 2 ^ 63) (hx : vs[k.toNat]? = some v) (h : Q v s)
    (hs : subscripted slice false (.ref l) (.int k u) = operate [.ref l, .int k u] (getItem (.ref l) (.int k u)) := by with_unfolding_all rfl) :
    wpAny (model prog w) A (subscriptTail value slice (.ref l) (.int k u)) Q E s :=
  item_litK ⟨_, (N _ hm).1, rfl, n, rfl⟩ h0 hhi hx h hs
theorem lt_ne_cell {L : Addr} {news : List (Addr × Obj)} (l1 : ∀ p ∈ news, p.1 < L) (k : Nat) : ∀ p ∈ news, p.1 ≠ L + k := fun p hp => Nat.ne_of_lt (Nat.lt_of_lt_of_le (l1 p hp) (Nat.le_add_right _ _))
end Mine
end
section
open PySem PySem.W PySem.Calls PyProof.Rows PyProof.Rows.LCg PySem.Spec PyProof.V
set_option maxRecDepth 100000
namespace Mine
def rowD (p : Int × Int) : PyData := .list [.int p.1, .int p.2]
theorem reads_rows {g h : Heap} {L : Addr} {nw : List (Addr × Obj)} (N : News g L h nw) : ∀ {ys : List Value} {ps : List (Int × Int)}, RowsAre nw ys ps → ∃ as, ReadsAll h ys (ps.map rowD) as
  | [], [], _ => ⟨[], .nil⟩
  | _ :: _, _ :: _, ⟨⟨T, n, ta, tb, e, hm⟩, r⟩ => by
    obtain ⟨as, ra⟩ := reads_rows N r
    subst e
    exact ⟨_, .cons (reads_list_at (N _ hm).1 rfl rfl (.cons (.int _ _) (.cons (.int _ _) .nil))) ra⟩
theorem reads_sheet {g h : Heap} {L D : Addr} {nw : List (Addr × Obj)} {ys : List Value} {n : Nat} {ps : List (Int × Int)} (N : News g L h nw) (hm : (D, listOf ys.toArray n) ∈ nw) (R : RowsAre nw ys ps) : ∃ as, Reads h (.ref D) (.list (ps.map rowD)) as := by
  obtain ⟨as, ra⟩ := reads_rows N R
  exact ⟨_, reads_list_at (N _ hm).1 rfl rfl (by simpa using ra)⟩
theorem rows_can : ∀ ps : List (Int × Int), PyData.canLayAll0 (ps.map rowD) = true
  | [] => rfl
  | p :: r => by simp [rowD, PyData.canLayAll0, PyData.canLay0, rows_can r]
theorem rows_depth : ∀ ps : List (Int × Int), PyData.depthAll (ps.map rowD) ≤ 1
  | [] => by simp [PyData.depthAll]
  | p :: r => by
    have := rows_depth r
    simp only [List.map_cons, PyData.depthAll, rowD, PyData.depth]
    omega
theorem rows_shaped (ps : List (Int × Int)) : SeqAt.shaped (.list (ps.map rowD)) = true := by
  have := rows_depth ps
  unfold SeqAt.shaped
  rw [Bool.and_eq_true]
  refine ⟨by simp [PyData.canLay0, rows_can], decide_eq_true ?_⟩
  simp only [PyData.depth]
  omega
theorem rows_eqv : ∀ ps qs : List (Int × Int), PyData.eqvAll (ps.map rowD) (qs.map rowD) = decide (ps = qs)
  | [], [] => by simp [PyData.eqvAll]
  | [], _ :: _ => by simp [PyData.eqvAll]
  | _ :: _, [] => by simp [PyData.eqvAll]
  | (a, b) :: r, (c, d) :: t => by
    simp only [List.map_cons, PyData.eqvAll, PyData.eqv, rowD]
    rw [rows_eqv r t]
    by_cases h : a = c <;> by_cases h' : b = d <;> by_cases h'' : r = t <;> simp [h, h', h'']
theorem ne_rows {prog : Program} {w : World} {A : Around} {E : Value → Shared → Prop} {s : Shared} {g : Heap} {L D D' : Addr} {nw : List (Addr × Obj)} {ys ys' : List Value} {n n' : Nat} {ps qs : List (Int × Int)} {Q : Value → Shared → Prop}
    (N : News g L s.heap nw) (hm : (D, listOf ys.toArray n) ∈ nw) (R : RowsAre nw ys ps) (hm' : (D', listOf ys'.toArray n') ∈ nw) (R' : RowsAre nw ys' qs) (hu : A.units + 64 < cLine) (he : ps = qs) (h : Q (.bool false) s) :
    wpAny (model prog w) A (compareOp .NotEq (.ref D) (.ref D')) Q E s := by
  obtain ⟨as, ra⟩ := reads_sheet N hm R
  obtain ⟨bs, rb⟩ := reads_sheet N hm' R'
  refine ne_dataH ra rb (rows_shaped _) (rows_shaped _) hu ?_
  have : PyData.eqv (.list (ps.map rowD)) (.list (qs.map rowD)) = true := by
    show PyData.eqvAll _ _ = true
    rw [rows_eqv, he]
    simp
  rw [this]
  exact h
theorem ne_rows5 {prog : Program} {w : World} {A : Around} {E : Value → Shared → Prop} {s : Shared} {g : Heap} {L D D' : Addr} {c1 c2 c3 c4 : Addr × Obj} {tail rows : List (Addr × Obj)} {ys ys' : List Value} {ps qs : List (Int × Int)} {Q : Value → Shared → Prop}
    (N : News g L s.heap ((D', lst ys') :: c1 :: c2 :: c3 :: c4 :: (tail ++ rows))) (hm : (D, lst ys) ∈ tail) (R : RowsAre tail ys ps) (R' : RowsAre rows ys' qs) (hu : A.units + 64 < cLine) (he : ps = qs) (h : Q (.bool false) s) :
    wpAny (model prog w) A (compareOp .NotEq (.ref D) (.ref D')) Q E s :=
  ne_rows N (n := ys.length) (n' := ys'.length) (by simp [hm]) (R.mono fun p hp => by simp [hp]) (by simp) (R'.mono fun p hp => by simp [hp]) hu he h
theorem fm7 {a c s : Int} (h : c % 7 = s % 7) : (a + c + 1).fmod 7 = ((a + 0 + 1).fmod 7 + s).fmod 7 := by
  rw [Int.fmod_eq_emod_of_nonneg _ (by decide), Int.fmod_eq_emod_of_nonneg _ (by decide), Int.fmod_eq_emod_of_nonneg _ (by decide)]
  omega
theorem sheet_plain (y : Int) : sheetL y = plainL ((ordD y 1 1).fmod 7) (lp y) := by
  have e : sheetL y = [((ordD y 1 1).fmod 7, dim y 1), ((ordD y 2 1).fmod 7, dim y 2), ((ordD y 3 1).fmod 7, dim y 3), ((ordD y 4 1).fmod 7, dim y 4), ((ordD y 5 1).fmod 7, dim y 5), ((ordD y 6 1).fmod 7, dim y 6), ((ordD y 7 1).fmod 7, dim y 7), ((ordD y 8 1).fmod 7, dim y 8), ((ordD y 9 1).fmod 7, dim y 9), ((ordD y 10 1).fmod 7, dim y 10), ((ordD y 11 1).fmod 7, dim y 11), ((ordD y 12 1).fmod 7, dim y 12)] := rfl
  have d1 : dbm y 1 = 0 := by simp [dbm]
  rw [e]
  cases hl : lp y
  · simp only [plainL, stepsL, sizesL, Bool.false_eq_true, if_false, List.zipWith_cons_cons, List.zipWith_nil_left, ordD, d1]
    simp only [List.cons.injEq, Prod.mk.injEq, and_true]
    refine ⟨⟨fm7 rfl, ?_⟩, ⟨?_, ?_⟩, ⟨?_, ?_⟩, ⟨?_, ?_⟩, ⟨?_, ?_⟩, ⟨?_, ?_⟩, ⟨?_, ?_⟩, ⟨?_, ?_⟩, ⟨?_, ?_⟩, ⟨?_, ?_⟩, ⟨?_, ?_⟩, ⟨?_, ?_⟩⟩ <;> first | (simp [dim, hl]; done) | (refine fm7 ?_; simp [dbm, hl]; done)
  · simp only [plainL, stepsL, sizesL, if_true, List.zipWith_cons_cons, List.zipWith_nil_left, ordD, d1]
    simp only [List.cons.injEq, Prod.mk.injEq, and_true]
    refine ⟨⟨fm7 rfl, ?_⟩, ⟨?_, ?_⟩, ⟨?_, ?_⟩, ⟨?_, ?_⟩, ⟨?_, ?_⟩, ⟨?_, ?_⟩, ⟨?_, ?_⟩, ⟨?_, ?_⟩, ⟨?_, ?_⟩, ⟨?_, ?_⟩, ⟨?_, ?_⟩, ⟨?_, ?_⟩⟩ <;> first | (simp [dim, hl]; done) | (refine fm7 ?_; simp [dbm, hl]; done)
end Mine
end
section
open PySem PySem.W PySem.Calls PyProof.Rows PyProof.Rows.LCg PySem.Spec PyProof.V
set_option maxRecDepth 100000
namespace Mine
def laterL (y : Int) : List (Int × Int) := (rangeKs 1 12).map (fun k => ((ordD (y + k) 1 1).fmod 7, dim (y + k) 2))
def againP (y k : Int) : Bool := decide ((ordD (y + k) 1 1).fmod 7 = (ordD y 1 1).fmod 7 ∧ dim (y + k) 2 = if lp y = true then 29 else 28)
theorem againP_t {y k : Int} (h : lp y = true) : decide ((ordD (y + k) 1 1).fmod 7 = (ordD y 1 1).fmod 7 ∧ dim (y + k) 2 = 29) = againP y k := by simp [againP, h]
theorem againP_f {y k : Int} (h : lp y = false) : decide ((ordD (y + k) 1 1).fmod 7 = (ordD y 1 1).fmod 7 ∧ dim (y + k) 2 = 28) = againP y k := by simp [againP, h]
def skipP (y k : Int) : Bool := decide ((y + k).fmod 4 = 0) && !lp (y + k)
theorem skipP_a {y k : Int} (h : lp (y + k) = true) : false = skipP y k := by simp [skipP, h]
theorem skipP_b {y k : Int} (h1 : (y + k).fmod 4 = 0) (h : lp (y + k) = false) : true = skipP y k := by simp [skipP, h, h1]
theorem skipP_c {y k : Int} (h1 : (y + k).fmod 4 ≠ 0) : false = skipP y k := by simp [skipP, h1]
def tabL (y : Int) : List Int := if y.fmod 4 = 0 then [] else if y.fmod 4 = 1 then [6] else [11]
theorem set_ne {m : Str → Option Value} {z y : Str} {v : Option Value} {u : Value} (h : ¬ z = y) (hm : m z = some u) : (fun x => if x = y then v else m x) z = some u := by simp [h, hm]
theorem set_eq {m : Str → Option Value} {y : Str} {u : Value} : (fun x => if x = y then some u else m x) y = some u := by simp
theorem laterL_get {y k : Int} (h1 : 1 ≤ k) (h2 : k < 1 + ((12 : Nat) : Int)) : (laterL y)[(k - 1).toNat]? = some ((ordD (y + k) 1 1).fmod 7, dim (y + k) 2) := by
  have hi : (k - 1).toNat < 12 := by omega
  have e : (1 : Int) + ((k - 1).toNat : Int) = k := by omega
  simp only [laterL, rangeKs, List.map_map, List.getElem?_map, List.getElem?_range hi, Option.map_some, Function.comp, e]
theorem eq_row {prog : Program} {w : World} {A : Around} {E : Value → Shared → Prop} {s : Shared} {g : Heap} {L T U : Addr} {nw : List (Addr × Obj)} {a b c d : Int} {ta tb tc td : Tok} {n n' : Nat} {Q : Value → Shared → Prop}
    (N : News g L s.heap nw) (hm : (T, listOf #[Value.int a ta, Value.int b tb] n) ∈ nw) (hm' : (U, listOf [Value.int c tc, Value.int d td].toArray n') ∈ nw) (hu : A.units + 64 < cLine) (h : Q (.bool (decide (a = c ∧ b = d))) s) :
    wpAny (model prog w) A (compareOp .Eq (.ref T) (.ref U)) Q E s := by
  refine ke_eq_ints (xs := [Value.int a ta, Value.int b tb]) (ys := [Value.int c tc, Value.int d td]) ⟨_, (N _ hm).1, rfl, n, rfl⟩ ⟨_, (N _ hm').1, rfl, n', rfl⟩ (.cons a ta (.cons b tb .nil)) (.cons c tc (.cons d td .nil)) hu ?_
  have : decide ([a, b] = [c, d]) = decide (a = c ∧ b = d) := by simp
  rw [this]
  exact h
theorem NextP.imp {P P' : Shared → Prop} {f : Flow} {s : Shared} (h : NextP P f s) (hi : ∀ s, P s → P' s) : NextP P' f s := ⟨h.1, hi s h.2⟩
def FiltEnd (h₀ : Heap) (L : Addr) (m : Str → Option Value) (s₁ : Shared) (all : List (Addr × Obj)) (b ok : Bool) (s' : Shared) : Prop := ok = b ∧ ∃ h' tk', s' = { s₁ with heap := h', toks := tk' } ∧ Fr h₀ L h' m ∧ News h₀ L h' all
theorem filtEnd_of {h₀ h' : Heap} {L : Addr} {m : Str → Option Value} {s₁ : Shared} {all : List (Addr × Obj)} {b ok : Bool} {tk' : Nat} (F : Fr h₀ L h' m) (N : News h₀ L h' all) (e : ok = b) : FiltEnd h₀ L m s₁ all b ok { s₁ with heap := h', toks := tk' } := ⟨e, h', tk', rfl, F, N⟩
section
variable {prog : Program} {w : World} {A : Around} {h₀ : Heap} {L : Addr} {m : Str → Option Value} {env : Env} {ct : Expr} {x : Str} {px : Pos} {scope : Scope} {cl : List (Str × Addr)} {s : Shared} {Fin : List Value → List (Addr × Obj) → Prop} {news : List (Addr × Obj)}
theorem filt_foldl (p : Int → Bool) (ks : List Int) : ∀ l : List Int, ks.foldl (fun l k => if p k = true then l ++ [k] else l) l = l ++ ks.filter p := by
  induction ks with
  | nil => intro l; simp
  | cons k r ih =>
    intro l
    simp only [List.foldl_cons, ih, List.filter_cons]
    by_cases h : p k = true <;> simp [h]
theorem filt_range {n : Nat} {a : Int} (p : Int → Bool) (hkd : ∀ C, (compEnvC scope cl C env).scope.kind = .function) (hl : ∀ C, (compEnvC scope cl C env).kindOf x = some .local) (hdb : (x == ("__debug__" : Str)) = false)
    (turn : ∀ k t I oI C oC D m₂ ys h tk (E' : Value → Shared → Prop), a ≤ k → k < a + (n : Int) → LCg.NsObj oC m₂ → m₂ x = some (.int k t) → Fr h₀ L h m → News h₀ L h ((I, oI) :: (C, oC) :: (D, LCg.lst ys) :: news) →
      wpAny (model prog w) A (isTrue ct (compEnvC scope cl C env) (eval ct (compEnvC scope cl C env))) (FiltEnd h₀ L m { s with heap := h, toks := tk } ((I, oI) :: (C, oC) :: (D, LCg.lst ys) :: news) (p k)) E' { s with heap := h, toks := tk })
    (fin : ∀ ys, IntsAre ys ((rangeKs a n).filter p) → Fin ys news) : LCt.CompRestT prog w A h₀ L m env ct (.Name x px) x scope cl s (fun _ => True) (fun i v => ∃ t, v = .int (a + (i : Int)) t) Fin n 0 [] news := by
  refine kci_range (fun l k => if p k = true then l ++ [k] else l) (fun k t I oI C oC D m₂ ys l h tk E' hlo hhi hI hC hx F N off ne _ => ?_) (fun ys hy _ => fin ys (by rw [filt_foldl, List.nil_append] at hy; exact hy)) ?_
  · refine wpAny_mono (turn k t I oI C oC D m₂ ys h tk E' hlo hhi hC hx F N) (fun ok s' hq => ?_) fun _ _ e => e
    obtain ⟨rfl, h', tk', rfl, F', N'⟩ := hq
    cases hp : p k with
    | true =>
      simp only [if_true]
      refine LCgL.ld_own (s := { s with heap := h', toks := tk' }) N' (List.mem_cons_of_mem _ List.mem_cons_self) hC hx ?_ (hkd C) (hl C) hdb
      exact LCg.CompEnd.intro F' N' news (fun _ h => h) off trivial ⟨rfl, k, t, rfl, rfl⟩
    | false =>
      simp only [Bool.false_eq_true, if_false]
      exact LCg.CompEnd.intro F' N' news (fun _ h => h) off trivial ⟨rfl, rfl⟩
  · intro l k
    by_cases h : p k = true <;> simp [h]
end
end Mine
end
section
open PySem PySem.W PyProof.Rows
set_option maxRecDepth 100000
namespace Mine
theorem lp_per (y q : Int) : lp (y + 400 * q) = lp y := by
  unfold lp; rw [decide_eq_decide]; omega
theorem dby_per (y q : Int) : dby (y + 400 * q) = dby y + 146097 * q := by
  rw [dby_e, dby_e]; omega
theorem dby_next (y : Int) : dby (y + 1) = dby y + 365 + (if lp y = true then 1 else 0) := by
  rw [dby_e, dby_e]
  unfold lp
  simp only [decide_eq_true_eq]
  split <;> omega
theorem ord1 (y : Int) : ordD y 1 1 = dby y + 1 := by simp [ordD, dbm]
theorem dim2 (y : Int) : dim y 2 = if lp y = true then 29 else 28 := by
  unfold dim; by_cases h : lp y = true <;> simp [h]
theorem rangeKs_snoc (a : Int) (n : Nat) : rangeKs a (n + 1) = rangeKs a n ++ [a + (n : Int)] := by
  simp [rangeKs, List.range_succ]
theorem againP_e {y k a : Int} (h : (a - (dby (y + k) - dby y)) % 7 = 0) : againP y k = decide (a.fmod 7 = 0 ∧ lp (y + k) = lp y) := by
  unfold againP
  rw [decide_eq_decide, ord1, ord1, dim2, Int.fmod_eq_emod_of_nonneg _ (by decide), Int.fmod_eq_emod_of_nonneg _ (by decide), Int.fmod_eq_emod_of_nonneg _ (by decide)]
  have e : ((if lp (y + k) = true then (29 : Int) else 28) = if lp y = true then 29 else 28) ↔ lp (y + k) = lp y := by
    cases lp (y + k) <;> cases lp y <;> simp
  rw [e]
  constructor <;> (rintro ⟨h1, h2⟩; exact ⟨by omega, h2⟩)
theorem fold_again (y : Int) (n : Nat) : ((foldI (stepA y) 1 0 n).1 - (dby (y + (n : Int)) - dby y)) % 7 = 0 ∧ (foldI (stepA y) 1 0 n).2 = (rangeKs 1 n).filter (againP y) := by
  induction n with
  | zero => exact ⟨by simp [foldI], rfl⟩
  | succ n ih =>
    obtain ⟨h1, h2⟩ := ih
    have e1 : y + (1 + (n : Int)) - 1 = y + (n : Int) := by omega
    have e2 : y + (((n + 1 : Nat)) : Int) = y + (n : Int) + 1 := by omega
    have e3 : y + (1 + (n : Int)) = y + (n : Int) + 1 := by omega
    have hd := dby_next (y + (n : Int))
    have hm : ((foldI (stepA y) 1 0 n).1 + (if lp (y + (n : Int)) = true then 2 else 1) - (dby (y + (n : Int) + 1) - dby y)) % 7 = 0 := by
      rw [hd]; split <;> omega
    refine ⟨?_, ?_⟩
    · rw [e2]
      show ((foldI (stepA y) 1 0 n).1 + (if lp (y + (1 + (n : Int)) - 1) = true then 2 else 1) - _) % 7 = 0
      rw [e1]
      exact hm
    · show (if ((foldI (stepA y) 1 0 n).1 + (if lp (y + (1 + (n : Int)) - 1) = true then 2 else 1)).fmod 7 = 0 ∧ lp (y + (1 + (n : Int))) = lp y then (foldI (stepA y) 1 0 n).2 ++ [1 + (n : Int)] else (foldI (stepA y) 1 0 n).2) = _
      rw [rangeKs_snoc, List.filter_append, h2, List.filter_cons, List.filter_nil]
      have hg := againP_e (y := y) (k := 1 + (n : Int)) (a := (foldI (stepA y) 1 0 n).1 + (if lp (y + (n : Int)) = true then 2 else 1)) (by rw [e3]; exact hm)
      rw [hg, e1]
      by_cases hc : ((foldI (stepA y) 1 0 n).1 + (if lp (y + (n : Int)) = true then 2 else 1)).fmod 7 = 0 ∧ lp (y + (1 + (n : Int))) = lp y
      · simp [hc]
      · simp [hc]
theorem law2 (y : Int) : (rangeKs 1 12).filter (againP y) = (foldI (stepA y) 1 0 12).2 := (fold_again y 12).2.symm
theorem fold_same {y z : Int} (h : ∀ k : Int, 0 ≤ k → k ≤ 12 → lp (y + k) = lp (z + k)) : ∀ n : Nat, n ≤ 12 → foldI (stepA y) 1 0 n = foldI (stepA z) 1 0 n
  | 0, _ => rfl
  | n + 1, hn => by
    have h0 := h 0 (by omega) (by omega)
    have h1 := h (n : Int) (by omega) (by omega)
    have h2 := h (1 + (n : Int)) (by omega) (by omega)
    rw [Int.add_zero, Int.add_zero] at h0
    have e1 : y + (1 + (n : Int)) - 1 = y + (n : Int) := by omega
    have e2 : z + (1 + (n : Int)) - 1 = z + (n : Int) := by omega
    show stepA y (foldI (stepA y) 1 0 n) (1 + (n : Int)) = stepA z (foldI (stepA z) 1 0 n) (1 + (n : Int))
    rw [fold_same h n (by omega)]
    simp only [stepA, e1, e2, h0, h1, h2]
theorem lp_four {y : Int} (h0 : (rangeKs 0 13).filter (skipP y) = []) (k : Int) (hk : 0 ≤ k) (hk' : k ≤ 12) : lp (y + k) = decide ((y + k) % 4 = 0) := by
  have hm : k ∈ rangeKs 0 13 := by
    have : rangeKs 0 13 = (List.range 13).map (fun i : Nat => (0 : Int) + i) := rfl
    rw [this, List.mem_map]
    exact ⟨k.toNat, List.mem_range.mpr (by omega), by omega⟩
  have hf := (List.filter_eq_nil_iff.mp h0) k hm
  unfold skipP at hf
  rw [Int.fmod_eq_emod_of_nonneg _ (by decide)] at hf
  cases hl : lp (y + k) with
  | false =>
    rw [hl] at hf
    simpa using hf
  | true =>
    have := hl
    unfold lp at this
    simp only [decide_eq_true_eq] at this
    exact (decide_eq_true this.1).symm
theorem law3 (y : Int) (h0 : (rangeKs 0 13).filter (skipP y) = []) : (rangeKs 1 12).filter (againP y) = tabL y := by
  rw [law2]
  have hs : ∀ z : Int, (4 ≤ z ∧ z ≤ 7) → y % 4 = z % 4 → foldI (stepA y) 1 0 12 = foldI (stepA z) 1 0 12 := fun z hz e => fold_same (fun k h1 h2 => by
    rw [lp_four h0 k h1 h2]
    unfold lp
    rw [decide_eq_decide]
    omega) 12 (by omega)
  unfold tabL
  rw [Int.fmod_eq_emod_of_nonneg _ (by decide)]
  have : y % 4 = 0 ∨ y % 4 = 1 ∨ y % 4 = 2 ∨ y % 4 = 3 := by omega
  rcases this with h | h | h | h
  · rw [hs 4 (by omega) (by omega), h]; decide
  · rw [hs 5 (by omega) (by omega), h]; decide
  · rw [hs 6 (by omega) (by omega), h]; decide
  · rw [hs 7 (by omega) (by omega), h]; decide
end Mine
end
section
open PySem PySem.W PyProof.Rows
set_option maxRecDepth 100000
namespace Mine
theorem dbm_per (y m : Int) : dbm (y + 400) m = dbm y m := by
  have := lp_per y 1
  rw [Int.mul_one] at this
  simp only [dbm, this]
theorem law4b (y m : Int) : ordD (y + 400) m 1 = ordD y m 1 + 146097 := by
  have := dby_per y 1
  rw [Int.mul_one] at this
  simp only [ordD, dbm_per, this]; omega
def sumS (y : Int) (k : Nat) : Int := (((sheetL y).take k).map (·.2)).sum
theorem law4a (y : Int) (k : Nat) (hk : k < 12) : dbm y ((k : Int) + 1) = sumS y k := by
  have e : sheetL y = [((ordD y 1 1).fmod 7, dim y 1), ((ordD y 2 1).fmod 7, dim y 2), ((ordD y 3 1).fmod 7, dim y 3), ((ordD y 4 1).fmod 7, dim y 4), ((ordD y 5 1).fmod 7, dim y 5), ((ordD y 6 1).fmod 7, dim y 6), ((ordD y 7 1).fmod 7, dim y 7), ((ordD y 8 1).fmod 7, dim y 8), ((ordD y 9 1).fmod 7, dim y 9), ((ordD y 10 1).fmod 7, dim y 10), ((ordD y 11 1).fmod 7, dim y 11), ((ordD y 12 1).fmod 7, dim y 12)] := rfl
  unfold sumS
  rw [e]
  have : k = 0 ∨ k = 1 ∨ k = 2 ∨ k = 3 ∨ k = 4 ∨ k = 5 ∨ k = 6 ∨ k = 7 ∨ k = 8 ∨ k = 9 ∨ k = 10 ∨ k = 11 := by omega
  cases hl : lp y <;> rcases this with h | h | h | h | h | h | h | h | h | h | h | h <;> subst h <;> simp [dbm, dim, hl]
theorem wk1_e (y : Int) : wk1 y = dby y + 1 + [1, 0, -1, -2, -3, 3, 2].getD ((ordD y 1 1).fmod 7).toNat 0 := by
  unfold wk1
  rw [ord1, Int.fmod_eq_emod_of_nonneg _ (by decide), Int.fmod_eq_emod_of_nonneg _ (by decide)]
  have h : (dby y + 1) % 7 = 0 ∨ (dby y + 1) % 7 = 1 ∨ (dby y + 1) % 7 = 2 ∨ (dby y + 1) % 7 = 3 ∨ (dby y + 1) % 7 = 4 ∨ (dby y + 1) % 7 = 5 ∨ (dby y + 1) % 7 = 6 := by omega
  rcases h with h | h | h | h | h | h | h <;> rw [h] <;> split <;> simp <;> omega
theorem law5b (y : Int) : wk1 (y + 1) = wk1 y + 7 * (if (ordD y 1 1).fmod 7 = 4 ∨ (lp y = true ∧ (ordD y 1 1).fmod 7 = 3) then 53 else 52) := by
  unfold wk1
  rw [ord1, ord1, dby_next, Int.fmod_eq_emod_of_nonneg _ (by decide), Int.fmod_eq_emod_of_nonneg _ (by decide), Int.fmod_eq_emod_of_nonneg _ (by decide)]
  generalize dby y = a
  cases lp y <;> simp <;> (repeat' split) <;> omega
theorem end7 {g h : Heap} {L D DA DK DT : Addr} {s₀ : Shared} {vt vs vl vy : Option Value} {y : Int} {m : Str → Option Value} {tk nT : Nat} {o1 o2 o3 o4 : Obj} {all tail : List (Addr × Obj)} {vsT : List Value}
    (F : Fr g L h m) (N : News g L h all) (hmT : m (Str.ofString "table") = some (.ref DT)) (hmS : m (Str.ofString "sheet") = some (.ref D)) (hmA : m (Str.ofString "again") = some (.ref DA)) (hmK : m (Str.ofString "skipped") = some (.ref DK)) (hT : (DT, listOf vsT.toArray nT) ∈ all) (hI : IntsAre vsT (tabL y))
    (m1 : (L + 1 + 1 + 1 + 1, o1) ∈ all) (m2 : (L + 1 + 1 + 1, o2) ∈ all) (m3 : (L + 1 + 1, o3) ∈ all) (m4 : (L + 1, o4) ∈ all) (ht : ∀ p ∈ tail, p ∈ all)
    (d1 : o1.data = .cell vt) (d2 : o2.data = .cell vs) (d3 : o3.data = .cell vl) (d4 : o4.data = .cell vy) (t1 : ∀ p ∈ tail, p.1 ≠ L + 1 + 1 + 1 + 1) (t2 : ∀ p ∈ tail, p.1 ≠ L + 1 + 1 + 1) (t3 : ∀ p ∈ tail, p.1 ≠ L + 1 + 1) (t4 : ∀ p ∈ tail, p.1 ≠ L + 1) :
    NextP (fun s' => ∃ DT vsT nT, StR g L s₀ vt vs vl vy (fun m tl => m (Str.ofString "sheet") = some (.ref D) ∧ m (Str.ofString "again") = some (.ref DA) ∧ m (Str.ofString "skipped") = some (.ref DK) ∧ m (Str.ofString "table") = some (.ref DT) ∧ (DT, listOf vsT.toArray nT) ∈ tl ∧ IntsAre vsT (tabL y) ∧ ∀ p ∈ tail, p ∈ tl) s') Flow.next { s₀ with heap := h, toks := tk } :=
  NextP.imp (st_end [(DT, listOf vsT.toArray nT)] F N m1 m2 m3 m4 (fun p hp => by rw [List.mem_singleton.mp hp]; exact hT) ht d1 d2 d3 d4 t1 t2 t3 t4 (allSeq_cons rfl (fun _ h => nomatch h)) ⟨hmS, hmA, hmK, hmT, by simp, hI, fun p hp => by simp [hp]⟩) fun _ hs => ⟨DT, vsT, nT, hs⟩
theorem tab0 {y : Int} (h : y.fmod 4 = 0) : IntsAre [] (tabL y) := by rw [show tabL y = [] by simp [tabL, h]]; exact .nil
theorem tab1 {y : Int} {t : Tok} (h : y.fmod 4 = 1) : IntsAre [.int 6 t] (tabL y) := by rw [show tabL y = [6] by simp [tabL, h]]; exact .cons 6 t .nil
theorem tab2 {y : Int} {t : Tok} (h : y.fmod 4 = 2) : IntsAre [.int 11 t] (tabL y) := by rw [show tabL y = [11] by simp [tabL, h]]; exact .cons 11 t .nil
theorem tab3 {y : Int} {t : Tok} (h : y.fmod 4 = 3) : IntsAre [.int 11 t] (tabL y) := by rw [show tabL y = [11] by simp [tabL, h]]; exact .cons 11 t .nil
end Mine
end
section
open PySem PySem.W PySem.Calls PyProof.Rows PyProof.Rows.LCg PySem.Spec PyProof.V
set_option maxRecDepth 100000
namespace Mine
section
variable {prog : Program} {w : World} {A : Around} {E : Value → Shared → Prop} {s : Shared} {g : Heap} {L D D' : Addr} {nw : List (Addr × Obj)} {xs ys : List Value} {n n' : Nat} {ns ms : List Int} {Q : Value → Shared → Prop}
theorem ne_ints_f (N : News g L s.heap nw) (hm : (D, PySem.W.listOf xs.toArray n) ∈ nw) (hm' : (D', PySem.W.listOf ys.toArray n') ∈ nw) (hi : IntsAre xs ns) (hj : IntsAre ys ms) (he : ns = ms) (hu : A.units + 64 < cLine) (h : Q (.bool false) s) :
    wpAny (model prog w) A (compareOp .NotEq (.ref D) (.ref D')) Q E s :=
  ke_ne_ints ⟨_, (N _ hm).1, rfl, n, rfl⟩ ⟨_, (N _ hm').1, rfl, n', rfl⟩ hi hj hu (by simp only [he, decide_true, Bool.not_true]; exact h)
theorem eq_ints_t (N : News g L s.heap nw) (hm : (D, PySem.W.listOf xs.toArray n) ∈ nw) (hm' : (D', PySem.W.listOf ys.toArray n') ∈ nw) (hi : IntsAre xs ns) (hj : IntsAre ys ms) (he : ns = ms) (hu : A.units + 64 < cLine) (h : Q (.bool true) s) :
    wpAny (model prog w) A (compareOp .Eq (.ref D) (.ref D')) Q E s :=
  ke_eq_ints ⟨_, (N _ hm).1, rfl, n, rfl⟩ ⟨_, (N _ hm').1, rfl, n', rfl⟩ hi hj hu (by simp only [he, decide_true]; exact h)
theorem eq_ints_f (N : News g L s.heap nw) (hm : (D, PySem.W.listOf xs.toArray n) ∈ nw) (hm' : (D', PySem.W.listOf ys.toArray n') ∈ nw) (hi : IntsAre xs ns) (hj : IntsAre ys ms) (he : ¬ ns = ms) (hu : A.units + 64 < cLine) (h : Q (.bool false) s) :
    wpAny (model prog w) A (compareOp .Eq (.ref D) (.ref D')) Q E s :=
  ke_eq_ints ⟨_, (N _ hm).1, rfl, n, rfl⟩ ⟨_, (N _ hm').1, rfl, n', rfl⟩ hi hj hu (by simp only [he, decide_false]; exact h)
end
theorem end9 {g h : Heap} {L D : Addr} {s₀ : Shared} {vt vs vl vy : Option Value} {z : Int} {tf : Tok} {m : Str → Option Value} {tk : Nat} {o1 o2 o3 o4 : Obj} {all tail : List (Addr × Obj)}
    (F : Fr g L h m) (N : News g L h all) (hmS : m (Str.ofString "sheet") = some (.ref D)) (hmF : m (Str.ofString "first") = some (.int z tf))
    (m1 : (L + 1 + 1 + 1 + 1, o1) ∈ all) (m2 : (L + 1 + 1 + 1, o2) ∈ all) (m3 : (L + 1 + 1, o3) ∈ all) (m4 : (L + 1, o4) ∈ all) (ht : ∀ p ∈ tail, p ∈ all)
    (d1 : o1.data = .cell vt) (d2 : o2.data = .cell vs) (d3 : o3.data = .cell vl) (d4 : o4.data = .cell vy) (t1 : ∀ p ∈ tail, p.1 ≠ L + 1 + 1 + 1 + 1) (t2 : ∀ p ∈ tail, p.1 ≠ L + 1 + 1 + 1) (t3 : ∀ p ∈ tail, p.1 ≠ L + 1 + 1) (t4 : ∀ p ∈ tail, p.1 ≠ L + 1) :
    NextP (fun s' => ∃ tf, StR g L s₀ vt vs vl vy (fun m tl => m (Str.ofString "sheet") = some (.ref D) ∧ m (Str.ofString "first") = some (.int z tf) ∧ tl = tail ++ []) s') Flow.next { s₀ with heap := h, toks := tk } :=
  NextP.imp (st_end [] F N m1 m2 m3 m4 (fun p hp => nomatch hp) ht d1 d2 d3 d4 t1 t2 t3 t4 (fun _ h => nomatch h) ⟨hmS, hmF, rfl⟩) fun _ hs => ⟨tf, hs⟩
end Mine
end
section
open PySem PySem.W PySem.Calls PyProof.Rows PyProof.Rows.LCg PySem.Spec PyProof.V
set_option maxRecDepth 100000
namespace Mine
def TurnR (P : Prop) : Prop := P
def JR (news : List (Addr × Obj)) (D : Addr) (f : Int) (tf : Tok) (m : Str → Option Value) (nx : List (Addr × Obj)) : Prop := nx = news ∧ m (Str.ofString "sheet") = some (.ref D) ∧ m (Str.ofString "first") = some (.int f tf)
def StF (g : Heap) (L : Addr) (s₀ : Shared) (nw : List (Addr × Obj)) (facts : (Str → Option Value) → Prop) (s' : Shared) : Prop :=
  ∃ h tk m, s' = { s₀ with heap := h, toks := tk } ∧ Fr g L h m ∧ News g L h nw ∧ facts m
theorem stF_end {g h : Heap} {L : Addr} {s₀ : Shared} {nw all : List (Addr × Obj)} {facts : (Str → Option Value) → Prop} {m : Str → Option Value} {tk : Nat}
    (F : Fr g L h m) (N : News g L h all) (hs : ∀ p ∈ nw, p ∈ all) (hf : facts m) : NextP (StF g L s₀ nw facts) Flow.next { s₀ with heap := h, toks := tk } :=
  ⟨rfl, h, tk, m, rfl, F, fun p hp => N p (hs p hp), hf⟩
section
variable {prog : Program} {w : World} {A : Around} {E : Value → Shared → Prop} {s : Shared} {h₀ : Heap} {env : Env} {body : List Stmt} {Q : Flow → Shared → Prop}
theorem loop_R {r D : Addr} {t₀ u₀ v₀ : Tok} {m₀ : Str → Option Value} {news : List (Addr × Obj)} {f : Int} {tf : Tok}
    (hh : A.handled = none) (hr : IsRange s.heap r 0 12 1 t₀ u₀ v₀) (F : Fr h₀ env.locals s.heap m₀) (N : News h₀ env.locals s.heap news) (hmS : m₀ (Str.ofString "sheet") = some (.ref D)) (hmF : m₀ (Str.ofString "first") = some (.int f tf))
    (turn : TurnR (∀ (i : Nat) (k : Int) (t : Tok) (m₁ : Str → Option Value) (h : Heap) (tk : Nat) (own : List (Addr × Obj)), i < 12 → k = (i : Int) → OwnOff own (news.map (·.1)) → m₁ (Str.ofString "sheet") = some (.ref D) → m₁ (Str.ofString "first") = some (.int f tf) → m₁ (Str.ofString "k") = some (.int k t) → Fr h₀ env.locals h m₁ → News h₀ env.locals h (news ++ own) →
      wpAny (model prog w) A (execs body env) (InvPostN h₀ env.locals (JR news D f tf) own (news.map (·.1)) { s with heap := h, toks := tk } Q) E { s with heap := h, toks := tk }))
    (done : ∀ m₁ h tk, m₁ (Str.ofString "first") = some (.int f tf) → Fr h₀ env.locals h m₁ → News h₀ env.locals h news → Q .next { s with heap := h, toks := tk }) :
    wpAny (model prog w) A (pyIter (.ref r)) (fun it s₂ => LoopAtV prog w A h₀ env (Str.ofString "k") body Q E it s₂) E s := by
  refine iter_rangeN (n := 12) (fun _ => JR news D f tf) hh hr (by decide) (by rfl) F N ⟨rfl, hmS, hmF⟩ ?_ ?_
  · rintro i t m₁ nx h tk own hi ho ⟨rfl, h1, h2⟩ F' N'
    refine turn i _ t _ h tk own hi rfl ho (set_ne (by decide) h1) (set_ne (by decide) h2) ?_ F' N'
    rw [Int.zero_add]; exact set_eq
  · rintro m₁ nx h tk ⟨rfl, h1, h2⟩ F' N'
    exact done m₁ h tk h2 F' N'
end
theorem endR {h₀ h' : Heap} {L D : Addr} {news own all : List (Addr × Obj)} {f : Int} {tf : Tok} {m' : Str → Option Value} {s₁ : Shared} {tk : Nat} (F : Fr h₀ L h' m') (N : News h₀ L h' all) (hs : ∀ p ∈ news ++ own, p ∈ all) (hmS : m' (Str.ofString "sheet") = some (.ref D)) (hmF : m' (Str.ofString "first") = some (.int f tf)) :
    InvEndN h₀ L (JR news D f tf) own (news.map (·.1)) s₁ { s₁ with heap := h', toks := tk } :=
  InvEndN.intro F N (nx := news) ⟨rfl, hmS, hmF⟩ rfl (fun p hp => hs p (List.mem_append_left _ hp)) (fun p hp => hs p (List.mem_append_right _ hp))
theorem pick_take (vs : List Value) {y : Int} (h : 0 ≤ y) : (slicePick vs.toArray none (some y) none).toList = vs.take y.toNat := by
  rw [kms_pick_eq]
  have e : kms_hi (some y) vs.length = min y.toNat vs.length := if_neg (by omega)
  simp only [kms_pick, kms_lo, e, List.drop_zero, Nat.sub_zero, kmk_take_min]
theorem RowsAre.take {nw : List (Addr × Obj)} : ∀ {vs : List Value} {ps : List (Int × Int)}, RowsAre nw vs ps → ∀ n : Nat, RowsAre nw (vs.take n) (ps.take n)
  | [], [], _, n => by simp only [List.take_nil]; trivial
  | _ :: _, _ :: _, ⟨a, r⟩, n => by
    cases n with
    | zero => simp only [List.take_zero]; trivial
    | succ n => simp only [List.take_succ_cons]; exact ⟨a, r.take n⟩
theorem sheetL_len (y : Int) : (sheetL y).length = 12 := rfl
theorem built_sizes {y : Int} {n k : Nat} {ys : List Value} {tl : List (Addr × Obj)} (hk : n = ((sheetL y).take k).length) (h : Built (IntG (((sheetL y).take k).map (·.2))) n ys tl) : IntsAre ys (((sheetL y).take k).map (·.2)) ∧ tl = [] := by
  have := built_ints h
  rw [hk, List.take_of_length_le (by simp)] at this
  exact this
theorem ord_first {y k : Int} {i : Nat} (hi : i < 12) (hk : k = (i : Int)) : ordD y (k + 1) 1 = dby y + 1 + (((sheetL y).take k.toNat).map (·.2)).sum := by
  subst hk
  have := law4a y i hi
  unfold sumS at this
  rw [Int.toNat_natCast, ← this]
  unfold ordD
  omega
theorem dbm_first {y k : Int} {i : Nat} (hi : i < 12) (hk : k = (i : Int)) : dbm y (k + 1) = (((sheetL y).take k.toNat).map (·.2)).sum := by
  subst hk
  have := law4a y i hi
  unfold sumS at this
  rw [Int.toNat_natCast, ← this]
theorem ne_int_f {prog : Program} {w : World} {A : Around} {E : Value → Shared → Prop} {s : Shared} {a b : Int} {t u : Tok} {Q : Value → Shared → Prop} (e : a = b) (h : Q (.bool false) s) : wpAny (model prog w) A (compareOp .NotEq (.int a t) (.int b u)) Q E s := by
  subst e
  exact PyProof.Rows.ne_int (by simpa using h)
theorem eq_int_t {prog : Program} {w : World} {A : Around} {E : Value → Shared → Prop} {s : Shared} {a b : Int} {t u : Tok} {Q : Value → Shared → Prop} (e : a = b) (h : Q (.bool true) s) : wpAny (model prog w) A (compareOp .Eq (.int a t) (.int b u)) Q E s := by
  subst e
  exact PyProof.Rows.eq_int (by simpa using h)
theorem sub_ints {prog : Program} {w : World} {A : Around} {E : Value → Shared → Prop} {s : Shared} {h₀ : Heap} {L : Addr} {nw : List (Addr × Obj)} {value slice : PySem.Expr} {l : Addr} {vs : List Value} {ns : List Int} {n : Nat} {k : Int} {u : Tok} {Q : Value → Shared → Prop}
    (N : News h₀ L s.heap nw) (hm : (l, PySem.W.listOf vs.toArray n) ∈ nw) (hi : IntsAre vs ns) (h0 : 0 ≤ k) (h1 : k < ns.length) (hhi : k < 2 ^ 63) (h : ∀ t, Q (.int (ns.getD k.toNat 0) t) s)
    (hs : subscripted slice false (.ref l) (.int k u) = operate [.ref l, .int k u] (getItem (.ref l) (.int k u)) := by with_unfolding_all rfl) :
    wpAny (model prog w) A (subscriptTail value slice (.ref l) (.int k u)) Q E s := by
  obtain ⟨t, hx⟩ := hi.get k.toNat _ (ints_getD h0 h1)
  exact sub_ref N hm h0 hhi hx (h t) hs
def wksD (y : Int) : Int := if (ordD y 1 1).fmod 7 = 4 ∨ (lp y = true ∧ (ordD y 1 1).fmod 7 = 3) then 53 else 52
theorem law5w (y : Int) : wk1 (y + 1) = wk1 y + 7 * wksD y := law5b y
theorem wks_a {y : Int} (h : (ordD y 1 1).fmod 7 = 4) : wksD y = 53 := by simp [wksD, h]
theorem wks_b {y : Int} (h : lp y = true) (h' : (ordD y 1 1).fmod 7 = 3) : wksD y = 53 := by simp [wksD, h, h']
theorem wks_c {y : Int} (h : (ordD y 1 1).fmod 7 ≠ 4) (h' : (ordD y 1 1).fmod 7 ≠ 3) : wksD y = 52 := by simp [wksD, h, h']
theorem wks_d {y : Int} (h : (ordD y 1 1).fmod 7 ≠ 4) (h' : lp y = false) : wksD y = 52 := by simp [wksD, h, h']
theorem fm7_bd (a : Int) : 0 ≤ a.fmod 7 ∧ a.fmod 7 < 7 := by rw [Int.fmod_eq_emod_of_nonneg _ (by decide)]; omega
theorem dbm_ord (y m : Int) : dbm y m = ordD y m 1 - (dby y + 1) := by unfold ordD; omega
theorem ne_tup3 {prog : Program} {w : World} {A : Around} {E : Value → Shared → Prop} {s : Shared} {g : Heap} {L T U : Addr} {nw : List (Addr × Obj)} {a b c a' b' c' : Int} {ta tb tc ta' tb' tc' : Tok} {Q : Value → Shared → Prop}
    (N : News g L s.heap nw) (hm : (T, { cls := .type "tuple", data := .seq #[.int a ta, .int b tb, .int c tc] }) ∈ nw) (hm' : (U, { cls := .type "tuple", data := .seq [Value.int a' ta', Value.int b' tb', Value.int c' tc'].toArray }) ∈ nw)
    (ea : a = a') (eb : b = b') (ec : c = c') (hu : A.units + 64 < cLine) (h : Q (.bool false) s) :
    wpAny (model prog w) A (compareOp .NotEq (.ref T) (.ref U)) Q E s := by
  subst ea eb ec
  refine ne_dataH (reads_tuple_at (N _ hm).1 rfl rfl (.cons (.int a ta) (.cons (.int b tb) (.cons (.int c tc) .nil)))) (reads_tuple_at (N _ hm').1 rfl rfl (.cons (.int a ta') (.cons (.int b tb') (.cons (.int c tc') .nil)))) (by rfl) (by rfl) hu ?_
  have : PyData.eqv (.tuple [.int a, .int b, .int c]) (.tuple [.int a, .int b, .int c]) = true := by simp [PyData.eqv, PyData.eqvAll]
  rw [this]
  exact h
end Mine
end
section
open PySem PySem.W PyProof.Rows
set_option maxRecDepth 100000
namespace Mine
local macro_rules | `(tactic| walk_at "subscriptTail") => `(tactic| (k_here; (with_reducible show wpAny _ _ (subscriptTail _ _ (Value.ref _) (Value.int _ _)) _ _ _); (with_unfolding_all (refine' topListAny ?F ?X ?l ?i ?k3 ?k4 ?k5 ?_; (case F => k_asm); (case X => k_asm); (case l => k_is); (case i => l_ints); (case k3 => l_idx); (case k4 => l_idx); (case k5 => l_idx); k_whole)); intro _))
local macro_rules | `(tactic| walk_at "call ref") => `(tactic| (k_here; (with_reducible show wpAny _ _ (PySem.call (Value.ref 28) [Value.int _ _]) _ _ _); k_dflt (refine' c_leap _ _ _ _ _ _ _ _ _ _ _ _ _ _ _ _ _ _ _ _ _ _ _ _ ?k1 ?k2 ?k3 ?k4 ?k5 ?kK ?kp ?kd ?ku ?_; (case k1 => k_asm); (case k2 => k_asm); (case k3 => k_asm); (case k4 => k_asm); (case k5 => k_asm); (case kK => first | exact rfl | assumption); (case kp => trivial); (case kd => ((try simp only [depth_deeper]); (try dsimp only [ktrTop]); omega)); (case ku => ((try simp only [units_deeper]); (try dsimp only [ktrTop]); omega)); intro t9 h9 tk9 F9 N9; (try dsimp only); (try k_fold))))
local macro_rules | `(tactic| walk_at "call ref") => `(tactic| (k_here; (with_reducible show wpAny _ _ (PySem.call (Value.ref 35) [Value.int _ _]) _ _ _); k_dflt (refine' c_dby _ _ _ _ _ _ _ _ _ _ _ _ _ _ _ _ _ _ _ _ _ _ _ _ ?k1 ?k2 ?k3 ?k4 ?k5 ?kK ?kp ?kd ?ku ?_; (case k1 => k_asm); (case k2 => k_asm); (case k3 => k_asm); (case k4 => k_asm); (case k5 => k_asm); (case kK => first | exact rfl | assumption); (case kp => trivial); (case kd => ((try simp only [depth_deeper]); (try dsimp only [ktrTop]); omega)); (case ku => ((try simp only [units_deeper]); (try dsimp only [ktrTop]); omega)); intro t9 h9 tk9 F9 N9; (try dsimp only); (try k_fold))))
local macro_rules | `(tactic| walk_at "call ref") => `(tactic| (k_here; (with_reducible show wpAny _ _ (PySem.call (Value.ref 42) [Value.int _ _, Value.int _ _]) _ _ _); k_dflt (refine' c_dim _ _ _ _ _ _ _ _ _ _ _ _ _ _ _ _ _ _ _ _ _ _ _ _ _ _ ?k1 ?k2 ?k3 ?k4 ?k5 ?kK ?kp ?kd ?ku ?_; (case k1 => k_asm); (case k2 => k_asm); (case k3 => k_asm); (case k4 => k_asm); (case k5 => k_asm); (case kK => first | exact rfl | assumption); (case kp => omega); (case kd => ((try simp only [depth_deeper]); (try dsimp only [ktrTop]); omega)); (case ku => ((try simp only [units_deeper]); (try dsimp only [ktrTop]); omega)); intro t9 h9 tk9 F9 N9; (try dsimp only); (try k_fold))))
local macro_rules | `(tactic| walk_at "call ref") => `(tactic| (k_here; (with_reducible show wpAny _ _ (PySem.call (Value.ref 49) [Value.int _ _, Value.int _ _]) _ _ _); k_dflt (refine' c_dbm _ _ _ _ _ _ _ _ _ _ _ _ _ _ _ _ _ _ _ _ _ _ _ _ _ _ ?k1 ?k2 ?k3 ?k4 ?k5 ?kK ?kp ?kd ?ku ?_; (case k1 => k_asm); (case k2 => k_asm); (case k3 => k_asm); (case k4 => k_asm); (case k5 => k_asm); (case kK => first | exact rfl | assumption); (case kp => omega); (case kd => ((try simp only [depth_deeper]); (try dsimp only [ktrTop]); omega)); (case ku => ((try simp only [units_deeper]); (try dsimp only [ktrTop]); omega)); intro t9 h9 tk9 F9 N9; (try dsimp only); (try k_fold))))
local macro_rules | `(tactic| walk_at "call ref") => `(tactic| (k_here; (with_reducible show wpAny _ _ (PySem.call (Value.ref 56) [Value.int _ _, Value.int _ _, Value.int _ _]) _ _ _); k_dflt (refine' c_ord _ _ _ _ _ _ _ _ _ _ _ _ _ _ _ _ _ _ _ _ _ _ _ _ _ _ _ _ ?k1 ?k2 ?k3 ?k4 ?k5 ?kK ?kp ?kd ?ku ?_; (case k1 => k_asm); (case k2 => k_asm); (case k3 => k_asm); (case k4 => k_asm); (case k5 => k_asm); (case kK => first | exact rfl | assumption); (case kp => omega); (case kd => ((try simp only [depth_deeper]); (try dsimp only [ktrTop]); omega)); (case ku => ((try simp only [units_deeper]); (try dsimp only [ktrTop]); omega)); intro t9 h9 tk9 F9 N9; (try dsimp only); (try k_fold))))
local macro_rules | `(tactic| walk_at "call ref") => `(tactic| (k_here; (with_reducible show wpAny _ _ (PySem.call (Value.ref 73) [Value.int _ _]) _ _ _); k_dflt (refine' c_wk1 _ _ _ _ _ _ _ _ _ _ _ _ _ _ _ _ _ _ _ _ _ _ _ _ ?k1 ?k2 ?k3 ?k4 ?k5 ?kK ?kp ?kd ?ku ?_; (case k1 => k_asm); (case k2 => k_asm); (case k3 => k_asm); (case k4 => k_asm); (case k5 => k_asm); (case kK => first | exact rfl | assumption); (case kp => trivial); (case kd => ((try simp only [depth_deeper]); (try dsimp only [ktrTop]); omega)); (case ku => ((try simp only [units_deeper]); (try dsimp only [ktrTop]); omega)); intro t9 h9 tk9 F9 N9; (try dsimp only); (try k_fold))))
local macro_rules | `(tactic| walk_at "call ref") => `(tactic| (k_here; (with_reducible show wpAny _ _ (PySem.call (Value.ref 80) [Value.int _ _]) _ _ _); k_dflt (refine' c_lleap _ _ _ _ _ _ _ _ _ _ _ _ _ _ _ _ _ _ _ _ _ _ _ _ ?k1 ?k2 ?k3 ?k4 ?k5 ?kK ?kp ?kd ?ku ?_; (case k1 => k_asm); (case k2 => k_asm); (case k3 => k_asm); (case k4 => k_asm); (case k5 => k_asm); (case kK => first | exact rfl | assumption); (case kp => trivial); (case kd => ((try simp only [depth_deeper]); (try dsimp only [ktrTop]); omega)); (case ku => ((try simp only [units_deeper]); (try dsimp only [ktrTop]); omega)); intro t9 h9 tk9 F9 N9; (try dsimp only); (try k_fold))))
local macro_rules | `(tactic| walk_at "CompSrc") => `(tactic| k_extra "CompSrc")
local macro_rules | `(tactic| walk_at "CompEnd") => `(tactic| k_extra "CompEnd")
local macro_rules | `(tactic| walk_at "eval ListComp") => `(tactic| k_extra "eval ListComp")
local macro_rules | `(tactic| walk_at "call type:zip") => `(tactic| k_extra "call type:zip")
local macro_rules | `(tactic| walk_at "spliced") => `(tactic| (k_here; (with_reducible show wpAny _ _ (spliced (backTo _ (starEach (Expr.Constant (Const.int _) _ _ :: Expr.Constant (Const.int _) _ _ :: Expr.Constant (Const.int _) _ _ :: _) _))) _ _ _); (with_reducible (refine' spliced_consts2 ?hc ?_)); (case hc => k_dflt (exact rfl)); intro vs' tk' hI' hLen'))
local macro_rules | `(tactic| walk_at "ite") => `(tactic| first | with_reducible refine ite_tt ?_ | with_reducible refine ite_ff ?_ | k_extra "ite")
local macro_rules | `(tactic| k_all) => `(tactic| first | assumption | exact allLt_ne (by assumption) | exact lt_ne_all (by assumption))
local macro_rules | `(tactic| walk_at "eval Call") => `(tactic| (k_here; first | k_compRoot | k_dflt (refine Call_ ?_)))
local macro_rules | `(tactic| walk_at "EndK") => `(tactic| k_extra "EndK")
local macro_rules | `(tactic| walk_at "pyIter ref") => `(tactic| k_extra "pyIter ref")
local macro_rules | `(tactic| walk_at "InvEndN") => `(tactic| k_extra "InvEndN")
local macro_rules | `(tactic| walk_at "call builtin:list.append") => `(tactic| k_extra "call builtin:list.append")
local macro_rules | `(tactic| walk_at "call ref") => `(tactic| k_extra "call ref")
local macro_rules | `(tactic| walk_at "subscriptTail") => `(tactic| k_extra "subscriptTail")
local macro_rules | `(tactic| walk_at "compareOp NotEq ref ref") => `(tactic| k_extra "compareOp NotEq ref ref")
local macro_rules | `(tactic| walk_at "FinE") => `(tactic| k_extra "FinE")
local macro_rules | `(tactic| walk_at "exec Assign cons ListComp") => `(tactic| k_extra "exec Assign cons ListComp")
local macro_rules | `(tactic| walk_at "CompSrcT") => `(tactic| k_extra "CompSrcT")
local macro_rules | `(tactic| walk_at "compareOp Eq ref ref") => `(tactic| k_extra "compareOp Eq ref ref")
local macro_rules | `(tactic| walk_at "subscriptTail Name Slice ref ref") => `(tactic| k_extra "subscriptTail Name Slice ref ref")
local macro_rules | `(tactic| walk_at "call builtin:sum") => `(tactic| k_extra "call builtin:sum")
local macro_rules | `(tactic| walk_at "compareOp NotEq int int") => `(tactic| k_extra "compareOp NotEq int int")
local macro_rules | `(tactic| walk_at "compareOp Eq int int") => `(tactic| k_extra "compareOp Eq int int")
local macro_rules | `(tactic| walk_at "FinA") => `(tactic| k_extra "FinA")
local macro_rules | `(tactic| k_mem) => `(tactic| assumption)
local macro_rules | `(tactic| walk_at "eval Name") => `(tactic| (k_here; (with_reducible show wpAny _ _ (eval (Expr.Name _ _) (envOfC _ _ _ _ _)) _ _ _); k_dflt (refine' nameX_L ?k1 ?k2 ?_; (case k1 => k_asm); (case k2 => assumption); k_whole)))
set_option maxHeartbeats 8000000 in
theorem c_right (w : World) (mean : ExcName → Option Value) (mg mb : Str → Option Value) (news : List (Addr × Obj)) (y : Int) (ty : Tok) : CC w mean mg mb 102 news 8 True [Value.int y ty] (fun _ => Value.bool true) := by
  w_on
  dsimp only [CC, CbRet]
  k_fill
  intro dp un gd cn cs a ccd cl outer A₀ base h₀ L m s Q E hB hF hK hN hT hk hpre hdp hun hret
  refine wpAny_call ?_
  k_dflt (refine' code_defC ?k1 ?k2 ?k3 ?k4 ?k5 ?kA ?kF ?kK ?k6 ?k7 ?k8 ?k9 ?kB ?kD ?_ ?c2 ?c3 ?c4; (case kA => exact rfl); (case kF => exact rfl); (case kK => assumption); (case k1 => k_asm); (case k2 => k_asm); (case k3 => k_asm); (case k4 => k_asm); (case k5 => k_asm); (case k6 => k_is); (case k7 => k_is); (case k8 => ktr_room); (case k9 => exact BindsTo.of_eq rfl); (case kB => exact rfl); (case kD => decide +kernel); (case c2 => exact rfl); (case c3 => exact rfl); (case c4 => exact rfl); k_whole; intro g' L' h' tk' cells' FG' F' N' Y' B' X' T' l1)
  have hY := CellsAre.four Y'
  obtain ⟨o1, o2, o3, o4, hE, d1, d2, d3, d4⟩ := hY
  subst hE
  clear Y'
  simp only [List.cons_append, List.nil_append] at N'

  have d4' : o4.data = .cell (some (.int y ty)) := d4
  have d3' : o3.data = .cell none := d3
  have d2' : o2.data = .cell none := d2
  have d1' : o1.data = .cell none := d1
  clear d1 d2 d3 d4
  have t1 : ∀ p ∈ news, p.1 ≠ L' + 1 + 1 + 1 + 1 := lt_ne_cell l1 4
  have t2 : ∀ p ∈ news, p.1 ≠ L' + 1 + 1 + 1 := lt_ne_cell l1 3
  have t3 : ∀ p ∈ news, p.1 ≠ L' + 1 + 1 := lt_ne_cell l1 2
  have t4 : ∀ p ∈ news, p.1 ≠ L' + 1 := lt_ne_cell l1 1
  k_with_none
  with_reducible refine seq_cut (StR g' L' s none none (some (.bool (lp y))) (some (.int y ty)) (fun m tail => ∃ D ys, m (Str.ofString "sheet") = some (.ref D) ∧ (D, LCg.lst ys) ∈ tail ∧ RowsAre tail ys (sheetL y) ∧ ∀ p ∈ news, p ∈ tail)) ?_ ?_
  · (k_with "call ref" => (k_dflt (refine c_sheet w mean mg mb _ y _ _ _ _ _ _ _ _ _ _ _ _ _ _ _ _ _ _ (by k_asm) (by k_asm) (by k_asm) (by k_asm) (by k_asm) (by first | exact rfl | assumption) trivial (by (try simp only [depth_deeper]); (try dsimp only [ktrTop]); omega) (by (try simp only [units_deeper]); (try dsimp only [ktrTop]); omega) ?_); (intro v9 nw9 h9 tk9 hp9 F9 N9; obtain ⟨D9, ys9, rows9, ev9, en9, hR9, hQ9⟩ := hp9; subst ev9 en9; simp only [List.cons_append] at N9; k_dflt (have hz9 := ne1 N9 (c := L' + 1 + 1) (D := D9) (by k_mem) d3' (by k_mem) rfl); k_dflt (have ht9 := off_app t3 (kind_ne N9 (c := L' + 1 + 1) (by k_mem) d3' (fun p hp => by simp [hp]) hQ9)))))
    k_steps
    all_goals (refine st_end ((D9, LCg.lst ys9) :: rows9) (by k_asm) (by k_asm) (by k_mem) (by k_mem) (by k_mem) (by k_mem) (fun p hp => by (rcases List.mem_cons.mp hp with e | e) <;> simp [e]) (fun p hp => by simp [hp]) (by assumption) (by assumption) (by assumption) (by assumption) t1 t2 t3 t4 (allSeq_cons rfl hQ9) ⟨D9, ys9, by rfl, by simp, hR9.mono (fun p hp => by simp [hp]), fun p hp => by simp [hp]⟩)
  clear N' F' d1' d2' d3' d4' t1 t2 t3 t4
  rintro s' ⟨h1, tk1, m1, o1, o2, o3, o4, tail, rfl, F1, N1, d1, d2, d3, d4, t1, t2, t3, t4, D, ys, hmS, hDt, hR, hnw⟩
  k_with_none
  obtain ⟨T0, n0, ta0, tb0, e0, hm0⟩ := hR.get 0 ((ordD y 1 1).fmod 7, dim y 1) rfl
  with_reducible refine seq_cut (StR g' L' s none (some (.int ((ordD y 1 1).fmod 7) ta0)) (some (.bool (lp y))) (some (.int y ty)) (fun m tl => m (Str.ofString "sheet") = some (.ref D) ∧ tl = tail ++ [])) ?_ ?_
  · (k_with "subscriptTail" => (k_dflt (first
      | refine sub_ref (by k_asm) (List.mem_cons_of_mem _ (List.mem_cons_of_mem _ (List.mem_cons_of_mem _ (List.mem_cons_of_mem _ hDt)))) (by decide) (by decide) e0 ?_
      | refine sub_ref (by k_asm) (List.mem_cons_of_mem _ (List.mem_cons_of_mem _ (List.mem_cons_of_mem _ (List.mem_cons_of_mem _ hm0)))) (by decide) (by decide) rfl ?_)))
    k_steps
    all_goals (refine st_end [] (by k_asm) (by k_asm) (by k_mem) (by k_mem) (by k_mem) (by k_mem) (fun p hp => nomatch hp) (fun p hp => by simp [hp]) (by assumption) (by assumption) (by assumption) (by assumption) t1 t2 t3 t4 (fun _ h => nomatch h) (And.intro hmS rfl))
  clear F1 N1 d1 d2 d3 d4
  rintro s' ⟨h2, tk2, m2, o1, o2, o3, o4, tail2, rfl, F2, N2, d1, d2, d3, d4, _, _, _, _, hmS2, rfl⟩
  rw [List.append_nil] at N2
  k_with_none
  with_reducible refine seq_cut (StR g' L' s none (some (.int ((ordD y 1 1).fmod 7) ta0)) (some (.bool (lp y))) (some (.int y ty)) (fun m tl => m (Str.ofString "sheet") = some (.ref D) ∧ tl = tail ++ [])) ?_ ?_
  · (k_with "call ref" => (k_dflt (refine c_plain w mean mg mb _ _ _ _ _ _ _ _ _ _ _ _ _ _ _ _ _ _ _ _ _ (by k_asm) (by k_asm) (by k_asm) (by k_asm) (by k_asm) (by first | exact rfl | assumption) trivial (by (try simp only [depth_deeper]); (try dsimp only [ktrTop]); omega) (by (try simp only [units_deeper]); (try dsimp only [ktrTop]); omega) ?_); (intro v9 nw9 h9 tk9 hp9 F9 N9; obtain ⟨D9, ys9, rows9, ev9, en9, hR9, hQ9⟩ := hp9; subst ev9 en9; simp only [List.cons_append] at N9)))
    (k_with "compareOp NotEq ref ref" => (k_dflt (refine ne_rows5 (by k_asm) hDt hR hR9 (by (try simp only [units_deeper]); (try dsimp only [ktrTop]); omega) (sheet_plain y) ?_)))
    (k_with "ite" => first | (with_reducible refine ite_df (by simp) ?_) | (with_reducible refine ite_dt (by simp) ?_))
    k_steps
    all_goals (refine st_end [] (by k_asm) (by k_asm) (by k_mem) (by k_mem) (by k_mem) (by k_mem) (fun p hp => nomatch hp) (fun p hp => by simp [hp]) (by assumption) (by assumption) (by assumption) (by assumption) t1 t2 t3 t4 (fun _ h => nomatch h) (And.intro hmS2 rfl))
  clear F2 N2 d1 d2 d3 d4 hmS hmS2
  rintro s' ⟨h3, tk3, m3, o1, o2, o3, o4, tail3, rfl, F3, N3, d1, d2, d3, d4, _, _, _, _, hmS, rfl⟩
  rw [List.append_nil] at N3
  k_with_none
  with_reducible refine seq_cut (fun s' => ∃ DL ysL, StR g' L' s (some (.ref DL)) (some (.int ((ordD y 1 1).fmod 7) ta0)) (some (.bool (lp y))) (some (.int y ty)) (fun m tl => m (Str.ofString "sheet") = some (.ref D) ∧ (DL, LCg.lst ysL) ∈ tl ∧ RowsAre tl ysL (laterL y) ∧ ∀ p ∈ tail, p ∈ tl) s') ?_ ?_
  · (k_with "CompSrc" => (k_dflt (refine LCg.CompSrc.range (by rfl) (by k_asm) (by k_asm) (by assumption) (by first | decide | rfl) (n := 12) (by first | rfl | decide) (by exact Nat.le_of_ble_eq_true rfl) ?_; intro g'; refine' rows_range (fun k => ((ordD (y + k) 1 1).fmod 7, dim (y + k) 2)) (fun rows' k' t' I' oI' C' oC' D' m' ys' h' tk' E' hlo' hhi' hC' hx' F' N' off' ne' => ?_) (fun ys9 rows9 hR9 hQ9 => ?_) <;> (try simp only [List.cons_append] at N') <;> (try k_fold))))
    (k_with "CompEnd" => (k_dflt (refine row_end (by assumption) (by assumption) (by assumption) (by k_ne) (by k_ne) (by k_ne) rfl rfl)))
    (k_with "FinE" => (k_dflt (intro D9 h9 tk9 F9 N9 off9); (simp only [List.cons_append] at N9); k_dflt (have hz9 := ne1 N9 (c := L' + 1 + 1 + 1 + 1) (D := D9) (by k_mem) d1 (by k_mem) rfl); k_dflt (have ht9 := off_app t1 (kind_ne N9 (c := L' + 1 + 1 + 1 + 1) (by k_mem) d1 (fun p hp => by simp [hp]) hQ9))))
    k_steps
    all_goals (refine NextP.imp (st_end ((D9, LCg.lst ys9) :: rows9) (by k_asm) (by k_asm) (by k_mem) (by k_mem) (by k_mem) (by k_mem) (fun p hp => by (rcases List.mem_cons.mp hp with e | e) <;> simp [e]) (fun p hp => by simp [hp]) (by assumption) (by assumption) (by assumption) (by assumption) t1 t2 t3 t4 (allSeq_cons rfl hQ9) (And.intro hmS (And.intro (by simp) (And.intro (hR9.mono (fun p hp => by simp [hp])) (fun p hp => by simp [hp]))))) (fun s' h => ⟨D9, ys9, h⟩))
  clear F3 N3 d1 d2 d3 d4 hmS t1 t2 t3 t4
  rintro s' ⟨DL, ysL, h4, tk4, m4, o1, o2, o3, o4, tail4, rfl, F4, N4, d1, d2, d3, d4, t1, t2, t3, t4, hmS, hDL, hRL, hsub⟩
  replace hDt := hsub _ hDt
  replace hnw := fun p hp => hsub p (hnw p hp)
  replace hR := hR.mono hsub
  clear hsub hm0
  k_with_none
  with_reducible refine seq_cut (fun s' => ∃ DA ysA, StR g' L' s (some (.ref DL)) (some (.int ((ordD y 1 1).fmod 7) ta0)) (some (.bool (lp y))) (some (.int y ty)) (fun m tl => m (Str.ofString "sheet") = some (.ref D) ∧ m (Str.ofString "again") = some (.ref DA) ∧ (DA, LCg.lst ysA) ∈ tl ∧ IntsAre ysA ((rangeKs 1 12).filter (againP y)) ∧ ∀ p ∈ tail4, p ∈ tl) s') ?_ ?_
  · (k_with "exec Assign cons ListComp" => (k_dflt (refine LCt.Assign_ListComp_T (F₀ := by k_asm) (by rfl) (by with_unfolding_all rfl) (by with_unfolding_all rfl) (by decide) (by rfl) (by decide) (by rfl) (by rfl) (by rfl) ?_)))
    (k_with "CompSrcT" => ((k_dflt (refine LCt.CompSrcT.range (by rfl) (by k_asm) (by k_asm) (by assumption) (by first | decide | rfl) (n := 12) (by first | rfl | decide) (by exact Nat.le_of_ble_eq_true rfl) ?_; intro gg'; refine filt_range (againP y) (fun C => by rfl) (fun C => by rfl) (by decide) (fun k' t' I' oI' C' oC' D' m' ys' h' tk' E' hlo' hhi' hC' hx' F' N' => ?_) (fun ys9 hI9 => ?_))); (all_goals (try (obtain ⟨TK, nK, taK, tbK, eK, hmK⟩ := hRL.get (k' - 1).toNat _ (laterL_get hlo' hhi'))))))
    (k_with "subscriptTail" => (k_dflt (refine sub_ref (by k_asm) (by k_mem) (by omega) (by omega) eK ?_)))
    (k_with "compareOp Eq ref ref" => (k_dflt (refine eq_row (by k_asm) (by k_mem) (by k_mem) (by (try simp only [units_deeper]); (try dsimp only [ktrTop]); omega) ?_)))
    (k_with "FinA" => (k_dflt (intro D9 h9 tk9 F9 N9 off9)))
    k_steps
    all_goals first
      | exact filtEnd_of (by k_asm) (dropHd (by assumption)) (againP_t (by assumption))
      | exact filtEnd_of (by k_asm) (dropHd (by assumption)) (againP_f (by assumption))
      | (refine NextP.imp (st_end [(D9, LCg.lst ys9)] F9 N9 (by k_mem) (by k_mem) (by k_mem) (by k_mem) (fun p hp => by simp at hp; simp [hp]) (fun p hp => by simp [hp]) d1 d2 d3 d4 t1 t2 t3 t4 (allSeq_cons rfl (fun _ h => nomatch h)) (And.intro (set_ne (by decide) hmS) (And.intro set_eq (And.intro (by simp) (And.intro hI9 (fun p hp => by simp [hp])))))) (fun s' h => ⟨D9, ys9, h⟩))
  clear F4 N4 d1 d2 d3 d4 hmS t1 t2 t3 t4
  rintro s' ⟨DA, ysA, h5, tk5, m5, o1, o2, o3, o4, tail5, rfl, F5, N5, d1, d2, d3, d4, t1, t2, t3, t4, hmS, hmA, hDA, hIA, hsub⟩
  replace hDt := hsub _ hDt
  replace hnw := fun p hp => hsub p (hnw p hp)
  replace hR := hR.mono hsub
  clear hsub hDL hRL
  k_with_none
  with_reducible refine seq_cut (fun s' => ∃ DK ysK, StR g' L' s (some (.ref DL)) (some (.int ((ordD y 1 1).fmod 7) ta0)) (some (.bool (lp y))) (some (.int y ty)) (fun m tl => m (Str.ofString "sheet") = some (.ref D) ∧ m (Str.ofString "again") = some (.ref DA) ∧ m (Str.ofString "skipped") = some (.ref DK) ∧ (DK, LCg.lst ysK) ∈ tl ∧ IntsAre ysK ((rangeKs 0 13).filter (skipP y)) ∧ ∀ p ∈ tail5, p ∈ tl) s') ?_ ?_
  · (k_with "exec Assign cons ListComp" => (k_dflt (refine LCt.Assign_ListComp_T (F₀ := by k_asm) (by rfl) (by with_unfolding_all rfl) (by with_unfolding_all rfl) (by decide) (by rfl) (by decide) (by rfl) (by rfl) (by rfl) ?_)))
    (k_with "CompSrcT" => (k_dflt (refine LCt.CompSrcT.range (by rfl) (by k_asm) (by k_asm) (by assumption) (by first | decide | rfl) (n := 13) (by first | rfl | decide) (by exact Nat.le_of_ble_eq_true rfl) ?_; intro gg'; refine filt_range (skipP y) (fun C => by rfl) (fun C => by rfl) (by decide) (fun k' t' I' oI' C' oC' D' m' ys' h' tk' E' hlo' hhi' hC' hx' F' N' => ?_) (fun ys9 hI9 => ?_))))
    (k_with "FinA" => (k_dflt (intro D9 h9 tk9 F9 N9 off9)))
    k_steps
    all_goals first
      | exact filtEnd_of (by k_asm) (by k_asm) (skipP_a (by assumption))
      | exact filtEnd_of (by k_asm) (by k_asm) (skipP_b (by assumption) (by assumption))
      | exact filtEnd_of (by k_asm) (by k_asm) (skipP_c (by assumption))
      | (refine NextP.imp (st_end [(D9, LCg.lst ys9)] F9 N9 (by k_mem) (by k_mem) (by k_mem) (by k_mem) (fun p hp => by simp at hp; simp [hp]) (fun p hp => by simp [hp]) d1 d2 d3 d4 t1 t2 t3 t4 (allSeq_cons rfl (fun _ h => nomatch h)) (And.intro (set_ne (by decide) hmS) (And.intro (set_ne (by decide) hmA) (And.intro set_eq (And.intro (by simp) (And.intro hI9 (fun p hp => by simp [hp]))))))) (fun s' h => ⟨D9, ys9, h⟩))
  clear F5 N5 d1 d2 d3 d4 hmS hmA t1 t2 t3 t4
  rintro s' ⟨DK, ysK, h6, tk6, m6, o1, o2, o3, o4, tail6, rfl, F6, N6, d1, d2, d3, d4, t1, t2, t3, t4, hmS, hmA, hmK, hDK, hIK, hsub⟩
  replace hDt := hsub _ hDt
  replace hnw := fun p hp => hsub p (hnw p hp)
  replace hR := hR.mono hsub
  replace hDA := hsub _ hDA
  clear hsub
  k_with_none
  with_reducible refine seq_cut (fun s' => ∃ (DT : Addr) (vsT : List Value) (nT : Nat), StR g' L' s (some (.ref DL)) (some (.int ((ordD y 1 1).fmod 7) ta0)) (some (.bool (lp y))) (some (.int y ty)) (fun m tl => m (Str.ofString "sheet") = some (.ref D) ∧ m (Str.ofString "again") = some (.ref DA) ∧ m (Str.ofString "skipped") = some (.ref DK) ∧ m (Str.ofString "table") = some (.ref DT) ∧ (DT, PySem.W.listOf vsT.toArray nT) ∈ tl ∧ IntsAre vsT (tabL y) ∧ ∀ p ∈ tail6, p ∈ tl) s') ?_ ?_
  · have hk4 : y.fmod 4 = 0 ∨ y.fmod 4 = 1 ∨ y.fmod 4 = 2 ∨ y.fmod 4 = 3 := by rw [Int.fmod_eq_emod_of_nonneg _ (by decide)]; omega
    (k_with "subscriptTail" => (rcases hk4 with hk4 | hk4 | hk4 | hk4 <;> k_dflt (refine sub_ref (by k_asm) (by k_mem) (by omega) (by omega) (by rw [hk4]; rfl) ?_)))
    k_steps
    all_goals (refine' end7 ?f7 ?n7 ?m7 ?s7 ?g7 ?q7 ?h7 ?i7 ?a7 ?b7 ?c7 ?e7 ?t7 d1 d2 d3 d4 t1 t2 t3 t4; (case f7 => k_asm); (case n7 => k_asm); (case s7 => exact set_ne (by decide) hmS); (case g7 => exact set_ne (by decide) hmA); (case q7 => exact set_ne (by decide) hmK); (case m7 => exact set_eq); (case h7 => k_mem); (case i7 => first | exact tab0 hk4 | exact tab1 hk4 | exact tab2 hk4 | exact tab3 hk4); (case a7 => k_mem); (case b7 => k_mem); (case c7 => k_mem); (case e7 => k_mem); (case t7 => exact fun p hp => by simp [hp]))
  clear F6 N6 d1 d2 d3 d4 hmS hmA hmK t1 t2 t3 t4
  rintro s' ⟨DT, vsT, nT, h7, tk7, m7, o1, o2, o3, o4, tail7, rfl, F7, N7, d1, d2, d3, d4, t1, t2, t3, t4, hmS, hmA, hmK, hmT, hDT, hIT, hsub⟩
  replace hDt := hsub _ hDt
  replace hnw := fun p hp => hsub p (hnw p hp)
  replace hR := hR.mono hsub
  replace hDA := hsub _ hDA
  replace hDK := hsub _ hDK
  clear hsub
  k_with_none
  with_reducible refine seq_cut (StR g' L' s (some (.ref DL)) (some (.int ((ordD y 1 1).fmod 7) ta0)) (some (.bool (lp y))) (some (.int y ty)) (fun m tl => m (Str.ofString "sheet") = some (.ref D) ∧ tl = tail7 ++ [])) ?_ ?_
  · (k_with "call ref" => (k_dflt (refine c_again w mean mg mb _ y _ _ _ _ _ _ _ _ _ _ _ _ _ _ _ _ _ _ (by k_asm) (by k_asm) (by k_asm) (by k_asm) (by k_asm) (by first | exact rfl | assumption) trivial (by (try simp only [depth_deeper]); (try dsimp only [ktrTop]); omega) (by (try simp only [units_deeper]); (try dsimp only [ktrTop]); omega) ?_); (intro v9 nw9 h9 tk9 hp9 F9 N9; obtain ⟨D9, vs9, nn9, ev9, en9, hI9⟩ := hp9; subst ev9 en9)))
    (k_with "compareOp NotEq ref ref" => (k_dflt (first
      | refine ne_ints_f (by k_asm) (by k_mem) (by k_mem) hIA hI9 (law2 y) (by (try simp only [units_deeper]); (try dsimp only [ktrTop]); omega) ?_
      | refine ne_ints_f (by k_asm) (by k_mem) (by k_mem) hIA hIT (law3 y hsk) (by (try simp only [units_deeper]); (try dsimp only [ktrTop]); omega) ?_)))
    (k_with "compareOp Eq ref ref" => (by_cases hsk : (rangeKs 0 13).filter (skipP y) = [] <;> k_dflt (first
      | refine eq_ints_t (by k_asm) (by k_mem) (by k_mem) hIK (.nil) hsk (by (try simp only [units_deeper]); (try dsimp only [ktrTop]); omega) ?_
      | refine eq_ints_f (by k_asm) (by k_mem) (by k_mem) hIK (.nil) hsk (by (try simp only [units_deeper]); (try dsimp only [ktrTop]); omega) ?_)))
    (k_with "ite" => first | (with_reducible refine ite_df (by simp) ?_) | (with_reducible refine ite_dt (by simp) ?_))
    k_steps
    all_goals (refine st_end [] (by k_asm) (by k_asm) (by k_mem) (by k_mem) (by k_mem) (by k_mem) (fun p hp => nomatch hp) (fun p hp => by simp [hp]) (by assumption) (by assumption) (by assumption) (by assumption) t1 t2 t3 t4 (fun _ h => nomatch h) (And.intro hmS rfl))
  clear F7 N7 d1 d2 d3 d4 hmS hmA hmK hmT
  rintro s' ⟨h8, tk8, m8, o1, o2, o3, o4, tail8, rfl, F8, N8, d1, d2, d3, d4, _, _, _, _, hmS, rfl⟩
  rw [List.append_nil] at N8
  k_with_none
  with_reducible refine seq_cut (fun s' => ∃ tf, StR g' L' s (some (.ref DL)) (some (.int ((ordD y 1 1).fmod 7) ta0)) (some (.bool (lp y))) (some (.int y ty)) (fun m tl => m (Str.ofString "sheet") = some (.ref D) ∧ m (Str.ofString "first") = some (.int (dby y + 1) tf) ∧ tl = tail7 ++ []) s') ?_ ?_
  · k_steps
    all_goals (refine' end9 ?f7 ?n7 ?s7 ?g7 ?a7 ?b7 ?c7 ?e7 ?t7 d1 d2 d3 d4 t1 t2 t3 t4; (case f7 => k_asm); (case n7 => k_asm); (case s7 => exact set_ne (by decide) hmS); (case g7 => exact set_eq); (case a7 => k_mem); (case b7 => k_mem); (case c7 => k_mem); (case e7 => k_mem); (case t7 => exact fun p hp => by simp [hp]))
  clear F8 N8 d1 d2 d3 d4 hmS
  rintro s' ⟨tf, h9, tk9, m9, o1, o2, o3, o4, tail9, rfl, F9, N9, d1, d2, d3, d4, _, _, _, _, hmS, hmF, rfl⟩
  rw [List.append_nil] at N9
  k_with_none
  with_reducible refine seq_cut (StF g' L' s ((L' + 1 + 1 + 1 + 1, o1) :: (L' + 1 + 1 + 1, o2) :: (L' + 1 + 1, o3) :: (L' + 1, o4) :: tail7) (fun m => m (Str.ofString "first") = some (.int (dby y + 1) tf))) ?_ ?_
  · (k_with "pyIter ref" => (k_dflt (refine loop_R (by rfl) (by assumption) (by k_asm) (by k_asm) hmS hmF ?_ (fun m' h' tk' hmF' F' N' => ?_)) <;> (try k_fold)))
    k_steps
    · unfold TurnR
      intro i k t m1 h tk own hi hk ho hmS1 hmF1 hmK1 F1 N1
      have F1' : Fr g' L' h m1 := F1
      obtain ⟨tl, htl⟩ : ∃ tl, tl = tail7 ++ own := ⟨_, rfl⟩
      have N1' : News g' L' h ((L' + 1 + 1 + 1 + 1, o1) :: (L' + 1 + 1 + 1, o2) :: (L' + 1 + 1, o3) :: (L' + 1, o4) :: tl) := by rw [htl]; exact N1
      have hDt' : (D, LCg.lst ys) ∈ tl := by rw [htl]; exact List.mem_append_left _ hDt
      have hR' : RowsAre tl ys (sheetL y) := hR.mono (fun p hp => by rw [htl]; exact List.mem_append_left _ hp)
      have t1' : ∀ p ∈ tl, p.1 ≠ L' + 1 + 1 + 1 + 1 := by rw [htl]; exact off_app t1 (ho.ne (by simp))
      have t2' : ∀ p ∈ tl, p.1 ≠ L' + 1 + 1 + 1 := by rw [htl]; exact off_app t2 (ho.ne (by simp))
      have t3' : ∀ p ∈ tl, p.1 ≠ L' + 1 + 1 := by rw [htl]; exact off_app t3 (ho.ne (by simp))
      have t4' : ∀ p ∈ tl, p.1 ≠ L' + 1 := by rw [htl]; exact off_app t4 (ho.ne (by simp))
      clear N1 F1
      with_reducible refine seq_cut (StF g' L' s ((L' + 1 + 1 + 1 + 1, o1) :: (L' + 1 + 1 + 1, o2) :: (L' + 1 + 1, o3) :: (L' + 1, o4) :: tl) (fun m => m (Str.ofString "sheet") = some (.ref D) ∧ m (Str.ofString "first") = some (.int (dby y + 1) tf) ∧ m (Str.ofString "k") = some (.int k t) ∧ ∃ tn, m (Str.ofString "number") = some (.int (ordD y (k + 1) 1) tn))) ?_ ?_
      · k_with_none
        (k_with "subscriptTail Name Slice ref ref" => (k_dflt (refine kmk_slice_lit (by k_asm) (by k_asm) (News.isList (by k_asm) (List.mem_cons_of_mem _ (List.mem_cons_of_mem _ (List.mem_cons_of_mem _ (List.mem_cons_of_mem _ hDt'))))) IsPart.none (IsPart.int _ _) (pick_take ys (by omega)) ?_ (by with_unfolding_all rfl) (by intro _; with_unfolding_all rfl) (by rw [List.size_toArray, hR'.length, sheetL_len]; exact Nat.le_of_ble_eq_true rfl)); intro D9 h9 F9 N9 l9))
        (k_with "eval ListComp" => (k_dflt (refine ListComp_K (by k_asm) (by with_unfolding_all rfl) (by decide) (by rfl) (by decide) (by rfl) (by rfl) (by decide) ?_)))
        (k_with "pyIter ref" => (k_dflt (refine lol_src (G := IntG (((sheetL y).take k.toNat).map (·.2))) (by rfl) (by k_asm) (by k_asm) (by k_mem) ((hR'.take k.toNat).mono (fun p hp => by simp [hp])) (by rw [List.length_take, sheetL_len, sizeLine_eq]; omega) (fun g7' i' x' y' C' oC' D' m' ys' tl' h' tk' E' hi' hB' hC' hx' hy' F' N' => ?_) (fun g7' ys' tl' hB9 => ?_)); all_goals (try (obtain ⟨p', ta', tb', hp', e1', e2'⟩ := hB'; subst e1' e2'; simp only [List.cons_append] at N'))))
        (k_with "EndK" => (k_dflt (refine endK_int (by assumption) (by assumption) (by rw [List.getElem?_map, hp']; rfl))))
        (k_with "FinE" => (k_dflt (obtain ⟨hI9, htl9⟩ := built_sizes rfl hB9; subst htl9; intro D8 h8 tk8 F8 N8 off8)))
        k_steps
        all_goals (refine' stF_end ?f ?n ?s ?q; (case f => k_asm); (case n => k_asm); (case s => exact fun p hp => by rw [List.append_nil]; exact List.mem_cons_of_mem _ (List.mem_cons_of_mem _ hp)); (case q => exact ⟨set_ne (by decide) hmS1, set_ne (by decide) hmF1, set_ne (by decide) hmK1, _, by rw [ord_first hi hk]; exact set_eq⟩))
      clear F1' N1' hmS1 hmF1 hmK1
      rintro s' ⟨h2, tk2, m2, rfl, F2, N2, hmS2, hmF2, hmK2, tn, hmN2⟩
      have hO4 := law4b y (k + 1)
      have hDM := dbm_ord y (k + 1)
      with_reducible refine seq_cut (StF g' L' s ((L' + 1 + 1 + 1 + 1, o1) :: (L' + 1 + 1 + 1, o2) :: (L' + 1 + 1, o3) :: (L' + 1, o4) :: tl) (fun m => m (Str.ofString "sheet") = some (.ref D) ∧ m (Str.ofString "first") = some (.int (dby y + 1) tf) ∧ m (Str.ofString "k") = some (.int k t) ∧ ∃ tn, m (Str.ofString "number") = some (.int (ordD y (k + 1) 1) tn))) ?_ ?_
      · k_with_none
        (k_with "compareOp NotEq int int" => with_reducible (refine ne_int_f (by first | rfl | exact hO4) ?_))
        k_steps
        all_goals (refine' stF_end ?f ?n ?s ?q; (case f => k_asm); (case n => k_asm); (case s => exact fun p hp => hp); (case q => exact ⟨hmS2, hmF2, hmK2, _, hmN2⟩))
      clear F2 N2 hmS2 hmF2 hmK2 hmN2
      rintro s' ⟨h3, tk3, m3, rfl, F3, N3, hmS3, hmF3, hmK3, tn, hmN3⟩
      with_reducible refine seq_cut (StF g' L' s ((L' + 1 + 1 + 1 + 1, o1) :: (L' + 1 + 1 + 1, o2) :: (L' + 1 + 1, o3) :: (L' + 1, o4) :: tl) (fun m => m (Str.ofString "sheet") = some (.ref D) ∧ m (Str.ofString "first") = some (.int (dby y + 1) tf))) ?_ ?_
      · k_with_none
        (k_with "call ref" => (k_dflt (refine c_o2y w mean mg mb _ _ y (k + 1) _ _ _ _ _ _ _ _ _ _ _ _ _ _ _ _ _ _ (by k_asm) (by k_asm) (by k_asm) (by k_asm) (by k_asm) (by first | exact rfl | assumption) ⟨rfl, by omega, by omega⟩ (by (try simp only [depth_deeper]); (try dsimp only [ktrTop]); omega) (by (try simp only [units_deeper]); (try dsimp only [ktrTop]); omega) ?_); (intro v9 nw9 h9 tk9 hp9 F9 N9; obtain ⟨T9, t19, t29, t39, ev9, en9⟩ := hp9; subst ev9 en9)))
        (k_with "compareOp NotEq int int" => with_reducible (refine ne_int_f hDM ?_))
        (k_with "compareOp NotEq ref ref" => (k_dflt (refine ne_tup3 (by k_asm) (by k_mem) (by k_mem) rfl rfl rfl (by (try simp only [units_deeper]); (try dsimp only [ktrTop]); omega) ?_)))
        k_steps
        all_goals (refine' stF_end ?f ?n ?s ?q; (case f => k_asm); (case n => k_asm); (case s => exact fun p hp => List.mem_cons_of_mem _ (List.mem_cons_of_mem _ hp)); (case q => exact ⟨hmS3, hmF3⟩))
      clear F3 N3 hmS3 hmF3 hmK3 hmN3
      rintro s' ⟨h4, tk4, m4, rfl, F4, N4, hmS4, hmF4⟩
      k_with_none
      (k_with "InvEndN" => k_dflt (refine endR F4 N4 (fun p hp => by subst htl; exact hp) hmS4 hmF4))
      k_steps
    · refine stF_end (by assumption) (by assumption) (fun p hp => hp) (by assumption)
  clear F9 N9 hmS hmF
  rintro s' ⟨h10, tk10, m10, rfl, F10, N10, hmF⟩
  k_with_none
  with_reducible refine seq_cut (StF g' L' s ((L' + 1 + 1 + 1 + 1, o1) :: (L' + 1 + 1 + 1, o2) :: (L' + 1 + 1, o3) :: (L' + 1, o4) :: tail7) (fun m => m (Str.ofString "first") = some (.int (dby y + 1) tf) ∧ ∃ tm, m (Str.ofString "monday") = some (.int (wk1 y) tm))) ?_ ?_
  · k_steps
    all_goals (refine' stF_end ?f ?n ?s ?q; (case f => k_asm); (case n => k_asm); (case s => exact fun p hp => hp); (case q => exact ⟨set_ne (by decide) hmF, _, set_eq⟩))
  clear F10 N10 hmF
  rintro s' ⟨h11, tk11, m11, rfl, F11, N11, hmF, tm, hmM⟩
  k_with_none
  with_reducible refine seq_cut (StF g' L' s ((L' + 1 + 1 + 1 + 1, o1) :: (L' + 1 + 1 + 1, o2) :: (L' + 1 + 1, o3) :: (L' + 1, o4) :: tail7) (fun m => m (Str.ofString "first") = some (.int (dby y + 1) tf) ∧ m (Str.ofString "monday") = some (.int (wk1 y) tm) ∧ ∃ tw, m (Str.ofString "weeks") = some (.int (wksD y) tw))) ?_ ?_
  · k_steps
    all_goals (refine' stF_end ?f ?n ?s ?q; (case f => k_asm); (case n => k_asm); (case s => exact fun p hp => hp); (case q => first
      | exact ⟨set_ne (by decide) hmF, set_ne (by decide) hmM, _, by rw [wks_a (by assumption)]; exact set_eq⟩
      | exact ⟨set_ne (by decide) hmF, set_ne (by decide) hmM, _, by rw [wks_b (by assumption) (by assumption)]; exact set_eq⟩
      | exact ⟨set_ne (by decide) hmF, set_ne (by decide) hmM, _, by rw [wks_c (by assumption) (by assumption)]; exact set_eq⟩
      | exact ⟨set_ne (by decide) hmF, set_ne (by decide) hmM, _, by rw [wks_d (by assumption) (by assumption)]; exact set_eq⟩))
  clear F11 N11 hmF hmM
  rintro s' ⟨h12, tk12, m12, rfl, F12, N12, hmF, hmM, tw, hmW⟩
  k_with_none
  (k_with "subscriptTail" => (k_dflt (refine sub_ints (ns := [1, 0, -1, -2, -3, 3, 2]) (by k_asm) (by k_mem) (by l_ints) (fm7_bd _).1 (fm7_bd _).2 (by have := (fm7_bd (ordD y 1 1)).2; omega) ?_); intro t9))
  (k_with "compareOp Eq int int" => (with_reducible (first | refine eq_int_t (wk1_e y) ?_ | refine eq_int_t (law5w y) ?_)))
  k_steps
  all_goals (refine' cb_retB hret ?e1 ?e2 ?e3; (case e1 => rfl); (case e2 => k_asm); (case e3 => exact cb_drop (by k_asm) (fun p hp => List.mem_cons_of_mem _ (List.mem_cons_of_mem _ (List.mem_cons_of_mem _ (List.mem_cons_of_mem _ (List.mem_cons_of_mem _ (hnw p hp))))))))
end Mine
end
section
open PySem PySem.W PySem.Calls PyProof.Rows PyProof.Rows.LCg PySem.Spec PyProof.V
set_option maxRecDepth 100000
namespace Mine
section
variable {prog : Program} {w : World} {A : Around} {E : Value → Shared → Prop} {s : Shared} {t u : Tok} {Q : Value → Shared → Prop}
theorem pow12 (h : Q (.int 1000000000000 s.toks) { s with toks := s.toks + 1 }) : wpAny (model prog w) A (binaryOp .Pow (.int 10 t) (.int 12 u)) Q E s :=
  pow_int_small (by decide) (by decide) (by decide) h
theorem mul12 (h : Q (.int 2000000000000 s.toks) { s with toks := s.toks + 1 }) : wpAny (model prog w) A (binaryOp .Mult (.int 2 t) (.int 1000000000000 u)) Q E s :=
  mul_int h
theorem mod12 {a : Int} (h : Q (.int (a.fmod 2000000000000) s.toks) { s with toks := s.toks + 1 }) : wpAny (model prog w) A (binaryOp .Mod (.int a t) (.int 2000000000000 u)) Q E s :=
  mod_int' (by decide) h
end
end Mine
namespace Mine
section
variable {prog : Program} {w : World} {A : Around} {h₀ : Heap} {L ax : Addr} {m : Str → Option Value} {env : Env} {ct elt : Expr} {x : Str} {scope : Scope} {cl : List (Str × Addr)} {s : Shared} {Fin : List Value → List (Addr × Obj) → Prop} {news : List (Addr × Obj)}
theorem none_list {vs : List Value} {ns : List Int} {k : Nat} (hi : IntsAre vs ns) (hm : (ax, ({ cls := .type "list", data := .seq vs.toArray k } : Obj)) ∈ news)
    (turn : ∀ k t I oI C oC D m₂ ys h tk (E' : Value → Shared → Prop), LCg.NsObj oC m₂ → m₂ x = some (.int k t) → Fr h₀ L h m → News h₀ L h ((I, oI) :: (C, oC) :: (D, LCg.lst ys) :: news) →
      wpAny (model prog w) A (isTrue ct (compEnvC scope cl C env) (eval ct (compEnvC scope cl C env))) (FiltEnd h₀ L m { s with heap := h, toks := tk } ((I, oI) :: (C, oC) :: (D, LCg.lst ys) :: news) false) E' { s with heap := h, toks := tk })
    (fin : Fin [] news) : LCt.CompRestT prog w A h₀ L m env ct elt x scope cl s (LCg.SrcAt h₀ ax vs.toArray) (fun i v => vs.toArray[i]? = some v) Fin vs.toArray.size 0 [] news := by
  refine kci_rest (ks := ns) (fun l _ => l) (by rw [List.size_toArray, hi.length]) (fun i v _ hv => ?_) (fun k t I oI C oC D m₂ ys l h tk E' _ hI hC hx F N off ne _ => ?_) (fun ys hy _ => ?_) ?_
  · obtain ⟨k, t, e, hk⟩ := IntsAre.at hi i v (by simpa using hv)
    exact ⟨k, t, hk, e⟩
  · refine wpAny_mono (turn k t I oI C oC D m₂ ys h tk E' hC hx F N) (fun ok s' hq => ?_) fun _ _ e => e
    obtain ⟨rfl, h', tk', rfl, F', N'⟩ := hq
    simp only [Bool.false_eq_true, if_false]
    exact LCg.CompEnd.intro F' N' news (fun _ h => h) off (.inr ⟨_, hm, rfl, _, rfl⟩) ⟨rfl, rfl⟩
  · have e : ∀ l : List Int, ns.foldl (fun l _ => l) l = l := by
      intro l
      clear hy hi turn
      induction ns with
      | nil => rfl
      | cons a r ih => simpa using ih
    rw [e] at hy
    cases hy
    exact fin
  · intro l k
    simp
end
end Mine
end
section
open PySem PySem.W PyProof.Rows
set_option maxRecDepth 100000
namespace Mine
local macro_rules | `(tactic| walk_at "subscriptTail") => `(tactic| (k_here; (with_reducible show wpAny _ _ (subscriptTail _ _ (Value.ref _) (Value.int _ _)) _ _ _); (with_unfolding_all (refine' topListAny ?F ?X ?l ?i ?k3 ?k4 ?k5 ?_; (case F => k_asm); (case X => k_asm); (case l => k_is); (case i => l_ints); (case k3 => l_idx); (case k4 => l_idx); (case k5 => l_idx); k_whole)); intro _))
local macro_rules | `(tactic| walk_at "call ref") => `(tactic| (k_here; (with_reducible show wpAny _ _ (PySem.call (Value.ref 28) [Value.int _ _]) _ _ _); k_dflt (refine' c_leap _ _ _ _ _ _ _ _ _ _ _ _ _ _ _ _ _ _ _ _ _ _ _ _ ?k1 ?k2 ?k3 ?k4 ?k5 ?kK ?kp ?kd ?ku ?_; (case k1 => k_asm); (case k2 => k_asm); (case k3 => k_asm); (case k4 => k_asm); (case k5 => k_asm); (case kK => first | exact rfl | assumption); (case kp => trivial); (case kd => ((try simp only [depth_deeper]); (try dsimp only [ktrTop]); omega)); (case ku => ((try simp only [units_deeper]); (try dsimp only [ktrTop]); omega)); intro t9 h9 tk9 F9 N9; (try dsimp only); (try k_fold))))
local macro_rules | `(tactic| walk_at "call ref") => `(tactic| (k_here; (with_reducible show wpAny _ _ (PySem.call (Value.ref 35) [Value.int _ _]) _ _ _); k_dflt (refine' c_dby _ _ _ _ _ _ _ _ _ _ _ _ _ _ _ _ _ _ _ _ _ _ _ _ ?k1 ?k2 ?k3 ?k4 ?k5 ?kK ?kp ?kd ?ku ?_; (case k1 => k_asm); (case k2 => k_asm); (case k3 => k_asm); (case k4 => k_asm); (case k5 => k_asm); (case kK => first | exact rfl | assumption); (case kp => trivial); (case kd => ((try simp only [depth_deeper]); (try dsimp only [ktrTop]); omega)); (case ku => ((try simp only [units_deeper]); (try dsimp only [ktrTop]); omega)); intro t9 h9 tk9 F9 N9; (try dsimp only); (try k_fold))))
local macro_rules | `(tactic| walk_at "call ref") => `(tactic| (k_here; (with_reducible show wpAny _ _ (PySem.call (Value.ref 42) [Value.int _ _, Value.int _ _]) _ _ _); k_dflt (refine' c_dim _ _ _ _ _ _ _ _ _ _ _ _ _ _ _ _ _ _ _ _ _ _ _ _ _ _ ?k1 ?k2 ?k3 ?k4 ?k5 ?kK ?kp ?kd ?ku ?_; (case k1 => k_asm); (case k2 => k_asm); (case k3 => k_asm); (case k4 => k_asm); (case k5 => k_asm); (case kK => first | exact rfl | assumption); (case kp => omega); (case kd => ((try simp only [depth_deeper]); (try dsimp only [ktrTop]); omega)); (case ku => ((try simp only [units_deeper]); (try dsimp only [ktrTop]); omega)); intro t9 h9 tk9 F9 N9; (try dsimp only); (try k_fold))))
local macro_rules | `(tactic| walk_at "call ref") => `(tactic| (k_here; (with_reducible show wpAny _ _ (PySem.call (Value.ref 49) [Value.int _ _, Value.int _ _]) _ _ _); k_dflt (refine' c_dbm _ _ _ _ _ _ _ _ _ _ _ _ _ _ _ _ _ _ _ _ _ _ _ _ _ _ ?k1 ?k2 ?k3 ?k4 ?k5 ?kK ?kp ?kd ?ku ?_; (case k1 => k_asm); (case k2 => k_asm); (case k3 => k_asm); (case k4 => k_asm); (case k5 => k_asm); (case kK => first | exact rfl | assumption); (case kp => omega); (case kd => ((try simp only [depth_deeper]); (try dsimp only [ktrTop]); omega)); (case ku => ((try simp only [units_deeper]); (try dsimp only [ktrTop]); omega)); intro t9 h9 tk9 F9 N9; (try dsimp only); (try k_fold))))
local macro_rules | `(tactic| walk_at "call ref") => `(tactic| (k_here; (with_reducible show wpAny _ _ (PySem.call (Value.ref 56) [Value.int _ _, Value.int _ _, Value.int _ _]) _ _ _); k_dflt (refine' c_ord _ _ _ _ _ _ _ _ _ _ _ _ _ _ _ _ _ _ _ _ _ _ _ _ _ _ _ _ ?k1 ?k2 ?k3 ?k4 ?k5 ?kK ?kp ?kd ?ku ?_; (case k1 => k_asm); (case k2 => k_asm); (case k3 => k_asm); (case k4 => k_asm); (case k5 => k_asm); (case kK => first | exact rfl | assumption); (case kp => omega); (case kd => ((try simp only [depth_deeper]); (try dsimp only [ktrTop]); omega)); (case ku => ((try simp only [units_deeper]); (try dsimp only [ktrTop]); omega)); intro t9 h9 tk9 F9 N9; (try dsimp only); (try k_fold))))
local macro_rules | `(tactic| walk_at "call ref") => `(tactic| (k_here; (with_reducible show wpAny _ _ (PySem.call (Value.ref 73) [Value.int _ _]) _ _ _); k_dflt (refine' c_wk1 _ _ _ _ _ _ _ _ _ _ _ _ _ _ _ _ _ _ _ _ _ _ _ _ ?k1 ?k2 ?k3 ?k4 ?k5 ?kK ?kp ?kd ?ku ?_; (case k1 => k_asm); (case k2 => k_asm); (case k3 => k_asm); (case k4 => k_asm); (case k5 => k_asm); (case kK => first | exact rfl | assumption); (case kp => trivial); (case kd => ((try simp only [depth_deeper]); (try dsimp only [ktrTop]); omega)); (case ku => ((try simp only [units_deeper]); (try dsimp only [ktrTop]); omega)); intro t9 h9 tk9 F9 N9; (try dsimp only); (try k_fold))))
local macro_rules | `(tactic| walk_at "call ref") => `(tactic| (k_here; (with_reducible show wpAny _ _ (PySem.call (Value.ref 80) [Value.int _ _]) _ _ _); k_dflt (refine' c_lleap _ _ _ _ _ _ _ _ _ _ _ _ _ _ _ _ _ _ _ _ _ _ _ _ ?k1 ?k2 ?k3 ?k4 ?k5 ?kK ?kp ?kd ?ku ?_; (case k1 => k_asm); (case k2 => k_asm); (case k3 => k_asm); (case k4 => k_asm); (case k5 => k_asm); (case kK => first | exact rfl | assumption); (case kp => trivial); (case kd => ((try simp only [depth_deeper]); (try dsimp only [ktrTop]); omega)); (case ku => ((try simp only [units_deeper]); (try dsimp only [ktrTop]); omega)); intro t9 h9 tk9 F9 N9; (try dsimp only); (try k_fold))))
local macro_rules | `(tactic| walk_at "CompSrc") => `(tactic| k_extra "CompSrc")
local macro_rules | `(tactic| walk_at "CompEnd") => `(tactic| k_extra "CompEnd")
local macro_rules | `(tactic| walk_at "eval ListComp") => `(tactic| k_extra "eval ListComp")
local macro_rules | `(tactic| walk_at "call type:zip") => `(tactic| k_extra "call type:zip")
local macro_rules | `(tactic| walk_at "spliced") => `(tactic| (k_here; (with_reducible show wpAny _ _ (spliced (backTo _ (starEach (Expr.Constant (Const.int _) _ _ :: Expr.Constant (Const.int _) _ _ :: Expr.Constant (Const.int _) _ _ :: _) _))) _ _ _); (with_reducible (refine' spliced_consts2 ?hc ?_)); (case hc => k_dflt (exact rfl)); intro vs' tk' hI' hLen'))
local macro_rules | `(tactic| walk_at "ite") => `(tactic| first | with_reducible refine ite_tt ?_ | with_reducible refine ite_ff ?_ | k_extra "ite")
local macro_rules | `(tactic| k_all) => `(tactic| first | assumption | exact allLt_ne (by assumption) | exact lt_ne_all (by assumption))
local macro_rules | `(tactic| walk_at "eval Call") => `(tactic| (k_here; first | k_compRoot | k_dflt (refine Call_ ?_)))
local macro_rules | `(tactic| walk_at "EndK") => `(tactic| k_extra "EndK")
local macro_rules | `(tactic| walk_at "pyIter ref") => `(tactic| k_extra "pyIter ref")
local macro_rules | `(tactic| walk_at "InvEndN") => `(tactic| k_extra "InvEndN")
local macro_rules | `(tactic| walk_at "call builtin:list.append") => `(tactic| k_extra "call builtin:list.append")
local macro_rules | `(tactic| walk_at "call ref") => `(tactic| (k_here; (with_reducible show wpAny _ _ (PySem.call (Value.ref 102) [Value.int _ _]) _ _ _); k_dflt (refine' c_right _ _ _ _ _ _ _ _ _ _ _ _ _ _ _ _ _ _ _ _ _ _ _ _ ?k1 ?k2 ?k3 ?k4 ?k5 ?kK ?kp ?kd ?ku ?_; (case k1 => k_asm); (case k2 => k_asm); (case k3 => k_asm); (case k4 => k_asm); (case k5 => k_asm); (case kK => first | exact rfl | assumption); (case kp => trivial); (case kd => ((try simp only [depth_deeper]); (try dsimp only [ktrTop]); omega)); (case ku => ((try simp only [units_deeper]); (try dsimp only [ktrTop]); omega)); intro t9 h9 tk9 F9 N9; (try dsimp only); (try k_fold))))
local macro_rules | `(tactic| walk_at "call ref") => `(tactic| k_extra "call ref")
local macro_rules | `(tactic| walk_at "binaryOp Pow int int") => `(tactic| with_reducible (refine pow12 ?_))
local macro_rules | `(tactic| walk_at "binaryOp Mult int int") => `(tactic| with_reducible (refine mul12 ?_))
local macro_rules | `(tactic| walk_at "binaryOp Mod int int") => `(tactic| with_reducible (refine mod12 ?_))
local macro_rules | `(tactic| walk_at "CompSrcT") => `(tactic| k_extra "CompSrcT")
local macro_rules | `(tactic| walk_at "compareOp Eq ref ref") => `(tactic| k_extra "compareOp Eq ref ref")
local macro_rules | `(tactic| walk_at "FiltEnd") => `(tactic| k_extra "FiltEnd")
set_option maxHeartbeats 600000 in
theorem lw : PySem.Challenge.rw_mj0326_01.Holds := by
  w_on
  k_with_none
  with_reducible refine hd ?_
  (k_with "eval ListComp" => (lct_look; k_dflt (refine LCt.ListComp_T (F₀ := by k_asm) (by with_unfolding_all rfl) (by decide) (by rfl) (by decide) (by rfl) ?_)))
  (k_with "CompSrcT" => (k_dflt (refine LCt.CompSrcT.ledger (by rfl) (by k_asm) (by k_asm) (by k_mem) (by size_fits) ?_; intro gg'; refine none_list (by l_ints) (by k_mem) (fun k' t' I' oI' C' oC' D' m' ys' h' tk' E' hC' hx' F' N' => ?_) ?_)))
  (k_with "FiltEnd" => (k_dflt (refine filtEnd_of (by k_asm) (by k_asm) (by first | rfl | simp))))
  (k_with "call ref" => (k_dflt (refine' c_right _ _ _ _ _ _ _ _ _ _ _ _ _ _ _ _ _ _ _ _ _ _ _ _ ?k1 ?k2 ?k3 ?k4 ?k5 ?kK ?kp ?kd ?ku ?_; (case k1 => k_asm); (case k2 => k_asm); (case k3 => k_asm); (case k4 => k_asm); (case k5 => k_asm); (case kK => first | exact rfl | assumption); (case kp => trivial); (case kd => decide); (case ku => decide); intro t9 h9 tk9 F9 N9; (try dsimp only); (try k_fold))))
  k_go0
  all_goals try k_fold
  k_steps
end Mine
end
theorem PySem.Challenge.cw_mj0326_01_holds : PySem.Challenge.rw_mj0326_01.Holds := by
  exact Mine.lw
